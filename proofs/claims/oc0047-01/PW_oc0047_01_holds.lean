import PyProof.Rows.All
import Wide.All
import OpenK.AllK
import Wide.FinOn
import PySem.Challenge.RW_oc0047_01
open PySem PySem.W PyProof.Rows
set_option Elab.async false
set_option maxRecDepth 100000
set_option linter.all false

namespace Mine

/-! ## Layer 1: clean values, store, representation -/

theorem held {G : Prop} (h : ¬¬G) : G := Classical.byContradiction h
theorem ne_lt {a b n : Nat} (h : a < n) (h' : n ≤ b) : a ≠ b := fun z => by subst z; (first | lia | omega)
theorem ne_gt {a b n : Nat} (h : a < n) (h' : n ≤ b) : b ≠ a := fun z => by subst z; (first | lia | omega)
/-- what is known of a def -/
structure FnI where
  qual : Str
  params : Arguments
  body : List Stmt
  scope : Scope
  closure : List (Str × Addr)
  code : Value
  dflt : Value
  kwd : Value

inductive PV where
  | none
  | bool (b : Bool)
  | int (i : Int)
  | bytes (b : Array UInt8)
  | pair (x y : Int)
  | ref (a : Addr)
  | imm (v : Value)
  | fn (k : FnI)
  | rng (lo hi : Int)
  | setn (n : Nat)

noncomputable abbrev Fz := Addr → Option Obj
noncomputable def Fz.Le (F G : Fz) : Prop := ∀ b o, F b = some o → G b = some o
theorem Fz.Le.refl (F : Fz) : F.Le F := fun _ _ e => e
theorem Fz.Le.trans {F G H : Fz} (x : F.Le G) (y : G.Le H) : F.Le H := fun b o e => y b o (x b o e)

noncomputable def CodeF (F : Fz) (cd : Value) (q : Str) : Prop := ∃ c o vs t, cd = .ref c ∧ F c = some o ∧ o.data = .fields vs ∧ vs[1]? = some (.str q t)
structure FnF (F : Fz) (k : FnI) (fd : FuncData) : Prop where
  qual : fd.qualname = k.qual
  params : fd.params = k.params
  body : fd.body = .stmts k.body
  scope : fd.scope = k.scope
  closure : fd.closure = k.closure
  code : fd.code = k.code
  dflt : fd.defaults = k.dflt
  kwd : fd.kwdefaults = k.kwd
  globals : fd.globals = mainGlobals
  builtins : fd.builtins = builtinsNs
  crec : CodeF F fd.code fd.qualname

noncomputable def VR (F : Fz) : PV → Value → Prop
  | .none, v => v = .none
  | .bool b, v => v = .bool b
  | .int i, v => ∃ t, v = .int i t
  | .bytes b, v => ∃ t, v = .bytes b t
  | .pair x y, v => ∃ a t u o, v = .ref a ∧ F a = some o ∧ o.cls = .type "tuple" ∧ ∃ n, o.data = .seq #[.int x t, .int y u] n
  | .ref a, v => v = .ref a
  | .imm w, v => v = w
  | .fn k, v => ∃ a o fd, v = .ref a ∧ F a = some o ∧ o.data = .func fd ∧ FnF F k fd
  | .rng lo hi, v => ∃ a t u w, v = .ref a ∧ F a = some { cls := .type "range", dict := none, data := .fields #[.int lo t, .int hi u, .int 1 w], slots := #[] }
  | .setn n, v => ∃ a o es ep tb, v = .ref a ∧ F a = some o ∧ o.cls = .type "set" ∧ o.data = .set es ep tb ∧ es.size = n

theorem CodeF.mono {F G : Fz} (h : F.Le G) {cd : Value} {q : Str} (x : CodeF F cd q) : CodeF G cd q :=
  let ⟨c, o, vs, t, e, a, b, d⟩ := x; ⟨c, o, vs, t, e, h _ _ a, b, d⟩
theorem FnF.mono {F G : Fz} (h : F.Le G) {k : FnI} {fd : FuncData} (x : FnF F k fd) : FnF G k fd := { x with crec := x.crec.mono h }
theorem VR.mono {F G : Fz} (h : F.Le G) : ∀ {p : PV} {v : Value}, VR F p v → VR G p v
  | .none, _, x => x
  | .bool _, _, x => x
  | .int _, _, x => x
  | .bytes _, _, x => x
  | .pair _ _, _, ⟨a, t, u, o, e, x, r⟩ => ⟨a, t, u, o, e, h _ _ x, r⟩
  | .ref _, _, x => x
  | .imm _, _, x => x
  | .fn _, _, ⟨a, o, fd, e, x, d, r⟩ => ⟨a, o, fd, e, h _ _ x, d, r.mono h⟩
  | .rng _ _, _, ⟨a, t, u, w, e, x⟩ => ⟨a, t, u, w, e, h _ _ x⟩
  | .setn _, _, ⟨a, o, es, ep, tb, e, x, r⟩ => ⟨a, o, es, ep, tb, e, h _ _ x, r⟩

inductive PO where
  | list (xs : List PV)
  | slist (o : Obj) (xs : List Int)
  | cell (v : Option PV)
  | tab (e : Option (Pos × Str))
  | raw (o : Obj)

/-- list related to list -/
inductive VRs (F : Fz) : List PV → List Value → Prop
  | nil : VRs F [] []
  | cons {p v ps vs} : VR F p v → VRs F ps vs → VRs F (p :: ps) (v :: vs)
theorem VRs.mono {F G : Fz} (h : F.Le G) {ps : List PV} {vs : List Value} (x : VRs F ps vs) : VRs G ps vs := by
  induction x with
  | nil => exact .nil
  | cons a _ ih => exact .cons (a.mono h) ih
theorem VRs.length {F : Fz} {ps : List PV} {vs : List Value} (x : VRs F ps vs) : ps.length = vs.length := by
  induction x with
  | nil => rfl
  | cons _ _ ih => simp [ih]
theorem VRs.append {F : Fz} {ps qs : List PV} {vs ws : List Value} (x : VRs F ps vs) (y : VRs F qs ws) : VRs F (ps ++ qs) (vs ++ ws) := by
  induction x with
  | nil => exact y
  | cons a _ ih => exact .cons a ih
theorem VRs.get {F : Fz} {ps : List PV} {vs : List Value} (x : VRs F ps vs) : ∀ {i : Nat} {p : PV}, ps[i]? = some p → ∃ v, vs[i]? = some v ∧ VR F p v := by
  induction x with
  | nil => intro i p h; simp at h
  | cons a _ ih =>
    intro i p h
    cases i with
    | zero => simp at h; subst h; exact ⟨_, by simp, a⟩
    | succ i => simp at h; obtain ⟨v, e, r⟩ := ih h; exact ⟨v, by simp [e], r⟩
theorem VRs.none {F : Fz} {ps : List PV} {vs : List Value} (x : VRs F ps vs) {i : Nat} (h : ps[i]? = Option.none) : vs[i]? = Option.none := by
  rw [List.getElem?_eq_none_iff] at h ⊢; rw [← x.length]; exact h
theorem VRs.set {F : Fz} {ps : List PV} {vs : List Value} (x : VRs F ps vs) {p : PV} {v : Value} (r : VR F p v) : ∀ (i : Nat), VRs F (ps.set i p) (vs.set i v) := by
  induction x with
  | nil => intro i; exact .nil
  | cons a b ih =>
    intro i
    cases i with
    | zero => exact .cons r b
    | succ i => exact .cons a (ih i)
theorem VRs.take {F : Fz} {ps : List PV} {vs : List Value} (x : VRs F ps vs) : ∀ (i : Nat), VRs F (ps.take i) (vs.take i) := by
  induction x with
  | nil => intro i; simp; exact .nil
  | cons a b ih =>
    intro i
    cases i with
    | zero => exact .nil
    | succ i => exact .cons a (ih i)
theorem VRs.drop {F : Fz} {ps : List PV} {vs : List Value} (x : VRs F ps vs) : ∀ (i : Nat), VRs F (ps.drop i) (vs.drop i) := by
  induction x with
  | nil => intro i; simp; exact .nil
  | cons a b ih =>
    intro i
    cases i with
    | zero => exact .cons a b
    | succ i => exact ih i

noncomputable def OR (F : Fz) : PO → Obj → Prop
  | .list xs, o => ∃ vs n, o = listOf vs n ∧ VRs F xs vs.toList
  | .slist o' xs, o => o = o' ∧ o.cls = .type "list" ∧ ∃ vs m, o.data = .seq vs m ∧ IntsAre vs.toList xs
  | .cell v, o => match v with
    | Option.none => o.data = .cell Option.none
    | some p => ∃ v', o.data = .cell (some v') ∧ VR F p v'
  | .tab e, o => match e with
    | Option.none => o = { cls := .none, data := .fields #[] }
    | some (p, q) => ∃ c, CodeF F (.ref c) q ∧ o = { cls := .none, data := .fields #[rawInt p.line, rawInt p.col, .ref c] }
  | .raw o', o => o = o'
theorem OR.mono {F G : Fz} (h : F.Le G) : ∀ {p : PO} {o : Obj}, OR F p o → OR G p o
  | .list _, _, ⟨vs, n, d, r⟩ => ⟨vs, n, d, r.mono h⟩
  | .slist _ _, _, x => x
  | .cell Option.none, _, x => x
  | .cell (some _), _, ⟨v, d, r⟩ => ⟨v, d, r.mono h⟩
  | .tab Option.none, _, x => x
  | .tab (some _), _, ⟨c, r, e⟩ => ⟨c, r.mono h, e⟩
  | .raw _, _, x => x

noncomputable abbrev Loc := List (Str × PV)
noncomputable def Loc.put : Loc → Str → PV → Loc
  | [], x, v => [(x, v)]
  | (y, u) :: r, x, v => if y = x then (y, v) :: r else (y, u) :: Loc.put r x v
theorem Loc.lookup_put : ∀ (ρ : Loc) (x : Str) (v : PV) (y : Str), (Loc.put ρ x v).lookup y = if y = x then some v else ρ.lookup y
  | [], x, v, y => by
    by_cases h : y = x
    · subst h; simp [Loc.put, List.lookup]
    · have : (y == x) = false := by simpa using h
      simp [Loc.put, List.lookup, this, h]
  | (z, u) :: r, x, v, y => by
    unfold Loc.put
    by_cases h : z = x
    · subst h
      rw [if_pos rfl]
      by_cases q : y = z
      · subst q; simp [List.lookup]
      · have : (y == z) = false := by simpa using q
        simp [List.lookup, this, q]
    · rw [if_neg h]
      by_cases q : y = z
      · subst q
        simp [List.lookup, h]
      · have : (y == z) = false := by simpa using q
        simp only [List.lookup, this, Loc.lookup_put r x v y]

noncomputable abbrev St := Addr → Option PO
noncomputable def St.set (σ : St) (a : Addr) (p : PO) : St := fun b => if b = a then some p else σ b
noncomputable def St.del (σ : St) (a : Addr) : St := fun b => if b = a then Option.none else σ b
@[simp] theorem St.set_same (σ : St) (a : Addr) (p : PO) : (σ.set a p) a = some p := by simp [St.set]
theorem St.set_ne {σ : St} {a b : Addr} {p : PO} (h : b ≠ a) : (σ.set a p) b = σ b := by simp [St.set, h]
@[simp] theorem St.del_same (σ : St) (a : Addr) : (σ.del a) a = Option.none := by simp [St.del]
theorem St.del_ne {σ : St} {a b : Addr} (h : b ≠ a) : (σ.del a) b = σ b := by simp [St.del, h]

structure Rep (F : Fz) (L : Addr) (ρ : Loc) (σ : St) (h : Heap) : Prop where
  fz : ∀ b o, F b = some o → h.get? b = some o ∧ σ b = Option.none ∧ b ≠ L
  st : ∀ a p, σ a = some p → a ≠ L ∧ ∃ o, h.get? a = some o ∧ OR F p o
  ns : ∃ m, h.Ns L m ∧ ∀ x v, ρ.lookup x = some v → ∃ v', m x = some v' ∧ VR F v v'

section
variable {F G : Fz} {L : Addr} {ρ : Loc} {σ : St} {h h' : Heap}
theorem Rep.grow (R : Rep F L ρ σ h) (k : ∀ b o, h.get? b = some o → h'.get? b = some o) : Rep F L ρ σ h' where
  fz b o e := let ⟨x, y⟩ := R.fz b o e; ⟨k _ _ x, y⟩
  st a p e := let ⟨x, o, y, z⟩ := R.st a p e; ⟨x, o, k _ _ y, z⟩
  ns := let ⟨m, x, y⟩ := R.ns; ⟨m, x.keeps k, y⟩
theorem Rep.push (R : Rep F L ρ σ h) (o : Obj) : Rep F L ρ σ (h.push o) := R.grow fun _ _ e => Heap.get?_push_of_some o e
theorem Rep.lt (R : Rep F L ρ σ h) {a : Addr} {p : PO} (e : σ a = some p) : a < h.objs.size := let ⟨_, _, x, _⟩ := R.st a p e; Heap.lt_size x
theorem Rep.fresh (R : Rep F L ρ σ h) : σ h.objs.size = Option.none := by
  cases e : σ h.objs.size with
  | none => rfl
  | some p => exact absurd (R.lt e) (Nat.lt_irrefl _)
theorem Rep.freshF (R : Rep F L ρ σ h) : F h.objs.size = Option.none := by
  cases e : F h.objs.size with
  | none => rfl
  | some p => exact absurd (Heap.lt_size (R.fz _ _ e).1) (Nat.lt_irrefl _)
theorem Rep.ltL (R : Rep F L ρ σ h) : L < h.objs.size := let ⟨_, x, _⟩ := R.ns; x.lt
/-- a new object of the store, given a grown heap -/
theorem Rep.allocAt (R : Rep F L ρ σ h) (k : ∀ b o, h.get? b = some o → h'.get? b = some o) {a : Addr} {o : Obj} {p : PO} (ha : h.objs.size ≤ a) (e : h'.get? a = some o) (x : OR F p o) : Rep F L ρ (σ.set a p) h' := by
  have R' := R.grow k
  refine ⟨fun b ob eb => ?_, fun b q eb => ?_, R'.ns⟩
  · have hb : b ≠ a := ne_lt (Heap.lt_size (R.fz b ob eb).1) ha
    exact ⟨(R'.fz b ob eb).1, by rw [St.set_ne hb]; exact (R'.fz b ob eb).2.1, (R'.fz b ob eb).2.2⟩
  · by_cases hb : b = a
    · subst hb
      rw [St.set_same] at eb
      cases eb
      exact ⟨ne_gt R.ltL ha, o, e, x⟩
    · rw [St.set_ne hb] at eb
      exact R'.st b q eb
theorem Rep.alloc (R : Rep F L ρ σ h) {o : Obj} {p : PO} (x : OR F p o) (hf : o.isFreed = false) : Rep F L ρ (σ.set h.objs.size p) (h.push o) :=
  R.allocAt (fun _ _ e => Heap.get?_push_of_some o e) (Nat.le_refl _) (Heap.get?_push_size _ hf) x
/-- an object of the store changed, the others kept -/
theorem Rep.updE (R : Rep F L ρ σ h) {a : Addr} {p q : PO} {o : Obj} (hp : σ a = some p) (k : Heap.ExtBut a h h') (e : h'.get? a = some o) (x : OR F q o) : Rep F L ρ (σ.set a q) h' := by
  refine ⟨fun b ob eb => ?_, fun b r eb => ?_, ?_⟩
  · obtain ⟨x1, x2, x3⟩ := R.fz b ob eb
    have hb : b ≠ a := fun z => by rw [z, hp] at x2; cases x2
    exact ⟨k _ _ hb x1, by rw [St.set_ne hb]; exact x2, x3⟩
  · by_cases hb : b = a
    · subst hb
      rw [St.set_same] at eb
      cases eb
      exact ⟨(R.st _ _ hp).1, o, e, x⟩
    · rw [St.set_ne hb] at eb
      obtain ⟨y1, ob, y2, y3⟩ := R.st b r eb
      exact ⟨y1, ob, k _ _ hb y2, y3⟩
  · obtain ⟨m, x1, x2⟩ := R.ns
    exact ⟨m, x1.extBut k (Ne.symm (R.st _ _ hp).1), x2⟩
theorem Rep.upd (R : Rep F L ρ σ h) {a : Addr} {p q : PO} {o : Obj} (hp : σ a = some p) (k : Heap.SameBut a h h') (e : h'.get? a = some o) (x : OR F q o) : Rep F L ρ (σ.set a q) h' := R.updE hp k.extBut e x
/-- an object of the store forgotten, the others kept -/
theorem Rep.forget (R : Rep F L ρ σ h) {a : Addr} {p : PO} (hp : σ a = some p) (k : Heap.ExtBut a h h') : Rep F L ρ (σ.del a) h' := by
  refine ⟨fun b ob eb => ?_, fun b r eb => ?_, ?_⟩
  · obtain ⟨x1, x2, x3⟩ := R.fz b ob eb
    have hb : b ≠ a := fun z => by rw [z, hp] at x2; cases x2
    exact ⟨k _ _ hb x1, by rw [St.del_ne hb]; exact x2, x3⟩
  · by_cases hb : b = a
    · subst hb
      rw [St.del_same] at eb
      cases eb
    · rw [St.del_ne hb] at eb
      obtain ⟨y1, ob, y2, y3⟩ := R.st b r eb
      exact ⟨y1, ob, k _ _ hb y2, y3⟩
  · obtain ⟨m, x1, x2⟩ := R.ns
    exact ⟨m, x1.extBut k (Ne.symm (R.st _ _ hp).1), x2⟩
/-- a name of the frame stored -/
theorem Rep.store (R : Rep F L ρ σ h) {m : Str → Option Value} (hm : ∀ x v, ρ.lookup x = some v → ∃ v', m x = some v' ∧ VR F v v') {x : Str} {p : PV} {v : Value} (r : VR F p v)
    (hn : h'.Ns L (fun y => if y = x then some v else m y)) (k : Heap.SameBut L h h') : Rep F L (Loc.put ρ x p) σ h' := by
  refine ⟨fun b ob eb => ?_, fun b q eb => ?_, ⟨_, hn, fun y u e => ?_⟩⟩
  · obtain ⟨x1, x2, x3⟩ := R.fz b ob eb
    exact ⟨(k.2 b x3).trans x1, x2, x3⟩
  · obtain ⟨y1, ob, y2, y3⟩ := R.st b q eb
    exact ⟨y1, ob, (k.2 b y1).trans y2, y3⟩
  · rw [Loc.lookup_put] at e
    by_cases hy : y = x
    · rw [if_pos hy] at e ⊢; cases e; exact ⟨v, rfl, r⟩
    · rw [if_neg hy] at e ⊢; exact hm y u e
/-- a new frozen object -/
noncomputable def Fz.add (F : Fz) (a : Addr) (o : Obj) : Fz := fun b => if b = a then some o else F b
theorem Fz.add_le {F : Fz} {a : Addr} {o : Obj} (h : F a = Option.none) : F.Le (F.add a o) := fun b ob e => by
  unfold Fz.add
  by_cases hb : b = a
  · subst hb; rw [h] at e; cases e
  · rw [if_neg hb]; exact e
@[simp] theorem Fz.add_same (F : Fz) (a : Addr) (o : Obj) : (F.add a o) a = some o := by simp [Fz.add]
theorem Rep.freezeAt (R : Rep F L ρ σ h) (k : ∀ b o, h.get? b = some o → h'.get? b = some o) {a : Addr} {o : Obj} (ha : h.objs.size ≤ a) (e : h'.get? a = some o) (hF : F a = Option.none) : Rep (F.add a o) L ρ σ h' := by
  have R' := R.grow k
  have le := Fz.add_le (o := o) hF
  refine ⟨fun b ob eb => ?_, fun b q eb => ?_, ?_⟩
  · unfold Fz.add at eb
    by_cases hb : b = a
    · subst hb
      rw [if_pos rfl] at eb; cases eb
      refine ⟨e, ?_, ne_gt R.ltL ha⟩
      cases es : σ b with
      | none => rfl
      | some p => exact absurd rfl (ne_lt (R.lt es) ha)
    · rw [if_neg hb] at eb; exact R'.fz b ob eb
  · obtain ⟨y1, ob, y2, y3⟩ := R'.st b q eb
    exact ⟨y1, ob, y2, y3.mono le⟩
  · obtain ⟨m, x1, x2⟩ := R'.ns
    exact ⟨m, x1, fun x v ev => let ⟨v', p, q⟩ := x2 x v ev; ⟨v', p, q.mono le⟩⟩
theorem Rep.freeze (R : Rep F L ρ σ h) {o : Obj} (hf : o.isFreed = false) : Rep (F.add h.objs.size o) L ρ σ (h.push o) :=
  R.freezeAt (fun _ _ e => Heap.get?_push_of_some o e) (Nat.le_refl _) (Heap.get?_push_size _ hf) R.freshF
end

/-! ## suspending and resuming a frame; hiding an object -/
/-- no value rests upon this object -/
structure Idle (o : Obj) : Prop where
  seq : ∀ xs m, o.data = .seq xs m → o.cls ≠ .type "tuple"
  set : ∀ es ep t, o.data ≠ .set es ep t
  func : ∀ fd, o.data ≠ .func fd
  fields : ∀ vs, o.data = .fields vs → o.cls ≠ .type "range" ∧ ∀ q t, vs[1]? ≠ some (.str q t)
theorem Idle.dict {o : Obj} {es : Array DictEntry} {ep : Nat} (h : o.data = .dict es ep) : Idle o where
  seq _ _ z := by rw [h] at z; cases z
  set _ _ _ z := by rw [h] at z; cases z
  func _ z := by rw [h] at z; cases z
  fields _ z := by rw [h] at z; cases z
noncomputable def Fz.sub (F : Fz) (a : Addr) : Fz := fun b => if b = a then Option.none else F b
theorem Fz.sub_ne {F : Fz} {a b : Addr} (h : b ≠ a) : (F.sub a) b = F b := by simp [Fz.sub, h]
section
variable {F : Fz} {L : Addr} {oL : Obj}
theorem sub_get (hL : F L = some oL) {a : Addr} {o : Obj} (e : F a = some o) (hn : oL ≠ o) : (F.sub L) a = some o := by
  rw [Fz.sub_ne fun z => ?_]
  · exact e
  · subst z; rw [hL] at e; cases e; exact hn rfl
theorem CodeF.sub (hL : F L = some oL) (hd : Idle oL) {cd : Value} {q : Str} (x : CodeF F cd q) : CodeF (F.sub L) cd q := by
  obtain ⟨c, o, vs, t, e, a, b, d⟩ := x
  exact ⟨c, o, vs, t, e, sub_get hL a (fun z => (hd.fields vs (by rw [z]; exact b)).2 q t d), b, d⟩
theorem VR.sub (hL : F L = some oL) (hd : Idle oL) : ∀ {p : PV} {v : Value}, VR F p v → VR (F.sub L) p v
  | .none, _, x => x
  | .bool _, _, x => x
  | .int _, _, x => x
  | .bytes _, _, x => x
  | .pair _ _, _, ⟨a, t, u, o, e, x, c, n, r⟩ => ⟨a, t, u, o, e, sub_get hL x (fun z => hd.seq _ _ (by rw [z]; exact r) (by rw [z]; exact c)), c, n, r⟩
  | .ref _, _, x => x
  | .imm _, _, x => x
  | .fn _, _, ⟨a, o, fd, e, x, d, r⟩ => ⟨a, o, fd, e, sub_get hL x (fun z => hd.func _ (by rw [z]; exact d)), d, { r with crec := r.crec.sub hL hd }⟩
  | .rng _ _, _, ⟨a, t, u, w, e, x⟩ => ⟨a, t, u, w, e, sub_get hL x (fun z => (hd.fields _ (by rw [z])).1 (by rw [z]))⟩
  | .setn _, _, ⟨a, o, es, ep, tb, e, x, c, d, r⟩ => ⟨a, o, es, ep, tb, e, sub_get hL x (fun z => hd.set _ _ _ (by rw [z]; exact d)), c, d, r⟩
theorem VRs.sub (hL : F L = some oL) (hd : Idle oL) {ps : List PV} {vs : List Value} (x : VRs F ps vs) : VRs (F.sub L) ps vs := by
  induction x with
  | nil => exact .nil
  | cons a _ ih => exact .cons (a.sub hL hd) ih
theorem OR.sub (hL : F L = some oL) (hd : Idle oL) : ∀ {p : PO} {o : Obj}, OR F p o → OR (F.sub L) p o
  | .list _, _, ⟨vs, n, d, r⟩ => ⟨vs, n, d, r.sub hL hd⟩
  | .slist _ _, _, x => x
  | .cell Option.none, _, x => x
  | .cell (some _), _, ⟨v, d, r⟩ => ⟨v, d, r.sub hL hd⟩
  | .tab Option.none, _, x => x
  | .tab (some _), _, ⟨c, r, e⟩ => ⟨c, r.sub hL hd, e⟩
  | .raw _, _, x => x
end
/-- an object hidden: frozen for a while -/
theorem Rep.hide {F : Fz} {L a : Addr} {ρ : Loc} {σ : St} {h : Heap} {o : Obj} (R : Rep F L ρ σ h) (ho : h.get? a = some o) (hs : σ a = Option.none) (hF : F a = Option.none) (hL : a ≠ L) : F.Le (F.add a o) ∧ Rep (F.add a o) L ρ σ h := by
  have le := Fz.add_le (o := o) hF
  refine ⟨le, ⟨fun b ob eb => ?_, fun b q eb => ?_, ?_⟩⟩
  · unfold Fz.add at eb
    by_cases hb : b = a
    · subst hb
      rw [if_pos rfl] at eb; cases eb
      exact ⟨ho, hs, hL⟩
    · rw [if_neg hb] at eb; exact R.fz b ob eb
  · obtain ⟨y1, ob, y2, y3⟩ := R.st b q eb
    exact ⟨y1, ob, y2, y3.mono le⟩
  · obtain ⟨m, x1, x2⟩ := R.ns
    exact ⟨m, x1, fun x v ev => let ⟨v', p, q⟩ := x2 x v ev; ⟨v', p, q.mono le⟩⟩
theorem Rep.unhide {F F' : Fz} {L a : Addr} {ρ : Loc} {σ : St} {h : Heap} {o : Obj} (R : Rep F' L ρ σ h) (hi : Idle o) (hF : F a = Option.none) (hle : (F.add a o).Le F') :
    F.Le (F'.sub a) ∧ Rep (F'.sub a) L ρ σ h ∧ h.get? a = some o ∧ σ a = Option.none ∧ a ≠ L ∧ F' a = some o ∧ (F'.sub a) a = Option.none := by
  have Fa : F' a = some o := hle a o (by simp)
  obtain ⟨x1, x2, x3⟩ := R.fz a o Fa
  refine ⟨fun b ob e => ?_, ⟨fun b ob eb => ?_, fun b q eb => ?_, ?_⟩, x1, x2, x3, Fa, by simp [Fz.sub]⟩
  · have hb : b ≠ a := fun z => by rw [z, hF] at e; cases e
    rw [Fz.sub_ne hb]
    exact hle b ob (by unfold Fz.add; rw [if_neg hb]; exact e)
  · unfold Fz.sub at eb
    by_cases hb : b = a
    · rw [if_pos hb] at eb; cases eb
    · rw [if_neg hb] at eb
      exact R.fz b ob eb
  · obtain ⟨y1, ob, y2, y3⟩ := R.st b q eb
    exact ⟨y1, ob, y2, y3.sub Fa hi⟩
  · obtain ⟨m, q1, q2⟩ := R.ns
    exact ⟨m, q1, fun x v ev => let ⟨v', p, q⟩ := q2 x v ev; ⟨v', p, q.sub Fa hi⟩⟩
/-- knowing less -/
noncomputable def LSub : Loc → Loc → Prop
  | [], _ => True
  | p :: r, ρ => ρ.lookup p.1 = some p.2 ∧ LSub r ρ
theorem LSub.look {ρ₀ ρ : Loc} (h : LSub ρ₀ ρ) {x : Str} {v : PV} (e : ρ₀.lookup x = some v) : ρ.lookup x = some v := by
  induction ρ₀ with
  | nil => cases e
  | cons p r ih =>
    rw [List.lookup_cons] at e
    cases q : x == p.1 with
    | true =>
      rw [q] at e
      have hx : x = p.1 := by simpa using q
      cases e
      rw [hx]; exact h.1
    | false => rw [q] at e; exact ih h.2 e
noncomputable def SubS (σ₀ σ : St) : Prop := ∀ a p, σ₀ a = some p → σ a = some p
theorem SubS.refl (σ : St) : SubS σ σ := fun _ _ e => e
theorem Rep.less {F : Fz} {L : Addr} {ρ ρ₀ : Loc} {σ σ₀ : St} {h : Heap} (R : Rep F L ρ σ h) (hρ : LSub ρ₀ ρ) (hσ : SubS σ₀ σ) : Rep F L ρ₀ σ₀ h where
  fz b o e := by
    obtain ⟨x, y, z⟩ := R.fz b o e
    refine ⟨x, ?_, z⟩
    cases q : σ₀ b with
    | none => rfl
    | some p => rw [hσ b p q] at y; cases y
  st a p e := R.st a p (hσ a p e)
  ns := let ⟨m, x, y⟩ := R.ns; ⟨m, x, fun x v ev => y x v (hρ.look ev)⟩
theorem Rep.lessS {F : Fz} {L : Addr} {ρ : Loc} {σ σ₀ : St} {h : Heap} (R : Rep F L ρ σ h) (hσ : SubS σ₀ σ) : Rep F L ρ σ₀ h where
  fz b o e := by
    obtain ⟨x, y, z⟩ := R.fz b o e
    refine ⟨x, ?_, z⟩
    cases q : σ₀ b with
    | none => rfl
    | some p => rw [hσ b p q] at y; cases y
  st a p e := R.st a p (hσ a p e)
  ns := R.ns

/-- the frame L rests: a new frame L' above it -/
theorem Rep.suspend {F : Fz} {L L' : Addr} {ρ ρ' : Loc} {σ σ' : St} {h h' : Heap} {m' : Str → Option Value} (R : Rep F L ρ σ h) (k : ∀ b o, h.get? b = some o → h'.get? b = some o) (hL' : h.objs.size ≤ L')
    (hs : ∀ a p, σ' a = some p → σ a = some p ∨ (h.objs.size ≤ a ∧ a ≠ L' ∧ ∃ o, h'.get? a = some o ∧ OR F p o))
    (hn : h'.Ns L' m') (hm : ∀ x v, ρ'.lookup x = some v → ∃ v', m' x = some v' ∧ VR F v v') :
    ∃ oL, Idle oL ∧ h.get? L = some oL ∧ F.Le (F.add L oL) ∧ Rep (F.add L oL) L' ρ' σ' h' := by
  obtain ⟨m, ⟨oL, es, ep, ho, hd, hk, hmm⟩, hr⟩ := R.ns
  have FL : F L = Option.none := by
    cases e : F L with
    | none => rfl
    | some o => exact absurd rfl (R.fz L o e).2.2
  have le := Fz.add_le (o := oL) FL
  have lL := Heap.lt_size ho
  refine ⟨oL, .dict hd, ho, le, ⟨fun b ob eb => ?_, fun b q eb => ?_, ⟨m', hn, fun x v ev => let ⟨v', p, q⟩ := hm x v ev; ⟨v', p, q.mono le⟩⟩⟩⟩
  · unfold Fz.add at eb
    have key : h.get? b = some ob ∧ σ b = Option.none := by
      by_cases hb : b = L
      · subst hb
        rw [if_pos rfl] at eb; cases eb
        refine ⟨ho, ?_⟩
        cases e : σ b with
        | none => rfl
        | some p => exact absurd rfl (R.st b p e).1
      · rw [if_neg hb] at eb
        exact ⟨(R.fz b ob eb).1, (R.fz b ob eb).2.1⟩
    have lb := Heap.lt_size key.1
    refine ⟨k _ _ key.1, ?_, ne_lt lb hL'⟩
    cases e : σ' b with
    | none => rfl
    | some p =>
      rcases hs b p e with x | ⟨x, _⟩
      · rw [key.2] at x; cases x
      · exact absurd rfl (ne_lt lb x)
  · rcases hs b q eb with x | ⟨_, x2, o, x3, x4⟩
    · obtain ⟨_, o, y2, y3⟩ := R.st b q x
      exact ⟨ne_lt (Heap.lt_size y2) hL', o, k _ _ y2, y3.mono le⟩
    · exact ⟨x2, o, x3, x4.mono le⟩

/-- back to the frame L -/
theorem Rep.resume {F F' : Fz} {L L' : Addr} {ρ ρ' : Loc} {σ σ' : St} {h h' : Heap} {oL : Obj} (R : Rep F L ρ σ h) (hd : Idle oL) (ho : h.get? L = some oL) (hle : (F.add L oL).Le F') (R' : Rep F' L' ρ' σ' h') :
    F.Le (F'.sub L) ∧ F' L = some oL ∧ Rep (F'.sub L) L ρ σ' h' := by
  have FL' : F' L = some oL := hle L oL (by simp)
  have le : F.Le (F'.sub L) := fun b o e => by
    have hb : b ≠ L := (R.fz b o e).2.2
    rw [Fz.sub_ne hb]
    exact hle b o (by unfold Fz.add; rw [if_neg hb]; exact e)
  have hL := R'.fz L oL FL'
  refine ⟨le, FL', ⟨fun b ob eb => ?_, fun b q eb => ?_, ?_⟩⟩
  · unfold Fz.sub at eb
    by_cases hb : b = L
    · rw [if_pos hb] at eb; cases eb
    · rw [if_neg hb] at eb
      obtain ⟨x1, x2, _⟩ := R'.fz b ob eb
      exact ⟨x1, x2, hb⟩
  · obtain ⟨_, o, y2, y3⟩ := R'.st b q eb
    refine ⟨fun z => ?_, o, y2, y3.sub FL' hd⟩
    rw [z, hL.2.1] at eb
    cases eb
  · obtain ⟨m, ⟨o, es, ep, x1, r⟩, hr⟩ := R.ns
    rw [ho] at x1; cases x1
    exact ⟨m, ⟨oL, es, ep, hL.1, r⟩, fun x v ev => let ⟨v', p, q⟩ := hr x v ev; ⟨v', p, q.mono le⟩⟩

/-! ## triples -/
noncomputable def Room (n : Nat) (A : Around) : Prop := A.depth + n < recursionLimit ∧ A.units + 20 * n + 100 < cLine ∧ A.handled = Option.none

section
variable (prog : Program) (w : World)
noncomputable def Tri {α β : Type} (R : Fz → β → α → Prop) (n : Nat) (L : Addr) (ρ : Loc) (σ : St) (F : Fz) (t : Sem α) (Q : β → Loc → St → Prop) : Prop :=
  ∀ (A : Around) (s : Shared) (E : Value → Shared → Prop) (K : α → Shared → Prop), Room n A → Rep F L ρ σ s.heap →
    (∀ b a ρ' σ' F' h' tk, Q b ρ' σ' → F.Le F' → Rep F' L ρ' σ' h' → R F' b a → K a { s with heap := h', toks := tk }) →
    wpAny (model prog w) A t K E s
end
end Mine

namespace Mine

/-! ## Layer 2: the predicates, the rules of the syntax -/
structure Cx where
  prog : Program
  w : World
  B : Fz

inductive PF where
  | next | brk | cont
  | ret (v : PV)
noncomputable def FR (F : Fz) : PF → Flow → Prop
  | .next, f => f = .next
  | .brk, f => f = .brk
  | .cont, f => f = .cont
  | .ret v, f => ∃ v', f = .ret v' ∧ VR F v v'
noncomputable def OVR (F : Fz) : Option PV → Option Value → Prop
  | Option.none, v => v = Option.none
  | some p, v => ∃ v', v = some v' ∧ VR F p v'

section
variable (C : Cx) (n : Nat)
noncomputable def WE (env : Env) (e : Expr) (ρ : Loc) (σ : St) (Q : PV → St → Prop) : Prop :=
  ∀ F, C.B.Le F → Tri C.prog C.w VR n env.locals ρ σ F (eval e env) (fun v ρ' σ' => ρ' = ρ ∧ Q v σ')
noncomputable def WEs (env : Env) (es : List Expr) (ρ : Loc) (σ : St) (Q : List PV → St → Prop) : Prop :=
  ∀ F pos, C.B.Le F → Tri C.prog C.w VRs n env.locals ρ σ F (spliced (backTo pos (starEach es env))) (fun v ρ' σ' => ρ' = ρ ∧ Q v σ')
/-- a test -/
noncomputable def WT (env : Env) (e : Expr) (ρ : Loc) (σ : St) (Q : Bool → St → Prop) : Prop :=
  ∀ F, C.B.Le F → Tri C.prog C.w (fun _ (b a : Bool) => b = a) n env.locals ρ σ F (isTrue e env (eval e env)) (fun v ρ' σ' => ρ' = ρ ∧ Q v σ')
noncomputable def WS (env : Env) (st : Stmt) (ρ : Loc) (σ : St) (Q : PF → Loc → St → Prop) : Prop :=
  ∀ F, C.B.Le F → Tri C.prog C.w FR n env.locals ρ σ F (exec st env) Q
noncomputable def WSs (env : Env) (sts : List Stmt) (ρ : Loc) (σ : St) (Q : PF → Loc → St → Prop) : Prop :=
  ∀ F, C.B.Le F → Tri C.prog C.w FR n env.locals ρ σ F (execs sts env) Q
noncomputable def WStore (env : Env) (x : Str) (v : PV) (ρ : Loc) (σ : St) (Q : Loc → St → Prop) : Prop :=
  ∀ F v', C.B.Le F → VR F v v' → Tri C.prog C.w (fun _ (_ _ : Unit) => True) n env.locals ρ σ F (storeName env x v') (fun _ => Q)
noncomputable def WAsg (env : Env) (t : Expr) (v : PV) (ρ : Loc) (σ : St) (Q : Loc → St → Prop) : Prop :=
  ∀ F v', C.B.Le F → VR F v v' → Tri C.prog C.w (fun _ (_ _ : Unit) => True) n env.locals ρ σ F (assign t env v') (fun _ => Q)
noncomputable def WBin (op : Operator) (a b : PV) (σ : St) (Q : PV → St → Prop) : Prop :=
  ∀ F L ρ a' b', C.B.Le F → VR F a a' → VR F b b' → Tri C.prog C.w VR n L ρ σ F (binaryOp op a' b') (fun v ρ' σ' => ρ' = ρ ∧ Q v σ')
noncomputable def WCmp (op : CmpOp) (a b : PV) (σ : St) (Q : PV → St → Prop) : Prop :=
  ∀ F L ρ a' b', C.B.Le F → VR F a a' → VR F b b' → Tri C.prog C.w VR n L ρ σ F (compareOp op a' b') (fun v ρ' σ' => ρ' = ρ ∧ Q v σ')
noncomputable def WTru (a : PV) (σ : St) (Q : Bool → St → Prop) : Prop :=
  ∀ F L ρ a', C.B.Le F → VR F a a' → Tri C.prog C.w (fun _ (b a : Bool) => b = a) n L ρ σ F (truthy a') (fun v ρ' σ' => ρ' = ρ ∧ Q v σ')
noncomputable def WGet (a b : PV) (σ : St) (Q : PV → St → Prop) : Prop :=
  ∀ F L ρ a' b', C.B.Le F → VR F a a' → VR F b b' → Tri C.prog C.w VR n L ρ σ F (getItem a' b') (fun v ρ' σ' => ρ' = ρ ∧ Q v σ')
noncomputable def WPut (a b v : PV) (σ : St) (Q : St → Prop) : Prop :=
  ∀ F L ρ a' b' v', C.B.Le F → VR F a a' → VR F b b' → VR F v v' → Tri C.prog C.w (fun _ (_ _ : Unit) => True) n L ρ σ F (setItem a' b' v') (fun _ ρ' σ' => ρ' = ρ ∧ Q σ')
noncomputable def WCall (f : PV) (args : List PV) (σ : St) (Q : PV → St → Prop) : Prop :=
  ∀ F L ρ f' args', C.B.Le F → VR F f f' → VRs F args args' → Tri C.prog C.w VR n L ρ σ F (call f' args') (fun v ρ' σ' => ρ' = ρ ∧ Q v σ')
noncomputable def WIter (a : PV) (σ : St) (Q : PV → St → Prop) : Prop :=
  ∀ F L ρ a', C.B.Le F → VR F a a' → Tri C.prog C.w VR n L ρ σ F (pyIter a') (fun v ρ' σ' => ρ' = ρ ∧ Q v σ')
noncomputable def WNext (a : PV) (σ : St) (Q : Option PV → St → Prop) : Prop :=
  ∀ F L ρ a', C.B.Le F → VR F a a' → Tri C.prog C.w OVR n L ρ σ F (pyNext a') (fun v ρ' σ' => ρ' = ρ ∧ Q v σ')
end

section
variable {C : Cx} {n : Nat} {env : Env} {ρ : Loc} {σ : St}

theorem Tri.mono {prog : Program} {w : World} {α β : Type} {R : Fz → β → α → Prop} {L : Addr} {F : Fz} {t : Sem α} {Q Q' : β → Loc → St → Prop}
    (h : Tri prog w R n L ρ σ F t Q) (k : ∀ b ρ σ, Q b ρ σ → Q' b ρ σ) : Tri prog w R n L ρ σ F t Q' :=
  fun A s E K hr hR hK => h A s E K hr hR fun b a ρ' σ' F' h' tk q => hK b a ρ' σ' F' h' tk (k _ _ _ q)
theorem Tri.pure {prog : Program} {w : World} {α β : Type} {R : Fz → β → α → Prop} {L : Addr} {F : Fz} {a : α} {b : β} {Q : β → Loc → St → Prop}
    (r : R F b a) (h : Q b ρ σ) : Tri prog w R n L ρ σ F (pure a) Q := fun _ s _ _ _ hR hK => wpAny_pure (hK b a ρ σ F s.heap s.toks h (Fz.Le.refl F) hR r)

theorem WE.mono {e : Expr} {Q Q' : PV → St → Prop} (h : WE C n env e ρ σ Q) (k : ∀ v σ, Q v σ → Q' v σ) : WE C n env e ρ σ Q' := fun F hB => (h F hB).mono fun _ _ _ q => ⟨q.1, k _ _ q.2⟩
theorem WT.mono {e : Expr} {Q Q' : Bool → St → Prop} (h : WT C n env e ρ σ Q) (k : ∀ v σ, Q v σ → Q' v σ) : WT C n env e ρ σ Q' := fun F hB => (h F hB).mono fun _ _ _ q => ⟨q.1, k _ _ q.2⟩
theorem WS.mono {e : Stmt} {Q Q' : PF → Loc → St → Prop} (h : WS C n env e ρ σ Q) (k : ∀ v ρ σ, Q v ρ σ → Q' v ρ σ) : WS C n env e ρ σ Q' := fun F hB => (h F hB).mono k
theorem WSs.mono {e : List Stmt} {Q Q' : PF → Loc → St → Prop} (h : WSs C n env e ρ σ Q) (k : ∀ v ρ σ, Q v ρ σ → Q' v ρ σ) : WSs C n env e ρ σ Q' := fun F hB => (h F hB).mono k
theorem WCall.mono {f : PV} {args : List PV} {Q Q' : PV → St → Prop} (h : WCall C n f args σ Q) (k : ∀ v σ, Q v σ → Q' v σ) : WCall C n f args σ Q' :=
  fun F L ρ f' args' hB a b => (h F L ρ f' args' hB a b).mono fun _ _ _ q => ⟨q.1, k _ _ q.2⟩

/-- knowing less of the store behind it -/
theorem Tri.less {prog : Program} {w : World} {α β : Type} {R : Fz → β → α → Prop} {L : Addr} {F : Fz} {t : Sem α} {Q : β → Loc → St → Prop}
    (h : Tri prog w R n L ρ σ F t (fun b ρ' σ' => ∃ σ₀, SubS σ₀ σ' ∧ Q b ρ' σ₀)) : Tri prog w R n L ρ σ F t Q :=
  fun A s E K hr hR hK => h A s E K hr hR fun b a ρ' _ F' h' tk ⟨σ₀, hs, q⟩ le R' r => hK b a ρ' σ₀ F' h' tk q le (R'.lessS hs) r
theorem WE.less {e : Expr} {Q : PV → St → Prop} (h : WE C n env e ρ σ (fun v σ' => ∃ σ₀, SubS σ₀ σ' ∧ Q v σ₀)) : WE C n env e ρ σ Q :=
  fun F hB => ((h F hB).mono fun _ _ _ q => let ⟨σ₀, a, b⟩ := q.2; ⟨σ₀, a, q.1, b⟩).less
theorem WCall.less {f : PV} {args : List PV} {Q : PV → St → Prop} (h : WCall C n f args σ (fun v σ' => ∃ σ₀, SubS σ₀ σ' ∧ Q v σ₀)) : WCall C n f args σ Q :=
  fun F L ρ f' args' hB a b => ((h F L ρ f' args' hB a b).mono fun _ _ _ q => let ⟨σ₀, a, b⟩ := q.2; ⟨σ₀, a, q.1, b⟩).less
/-! ### values -/
theorem WE_int {i : Int} {k : Nat} {pos : Pos} {Q : PV → St → Prop} (h : Q (.int i) σ) : WE C n env (.Constant (.int i) k pos) ρ σ Q :=
  fun F _ _ s _ _ _ hR hK => wpAny_Constant_int (hK (.int i) _ ρ σ F s.heap _ ⟨rfl, h⟩ (.refl F) hR ⟨_, rfl⟩)
theorem WE_bool {b : Bool} {k : Nat} {pos : Pos} {Q : PV → St → Prop} (h : Q (.bool b) σ) : WE C n env (.Constant (.bool b) k pos) ρ σ Q :=
  fun F _ _ s _ _ _ hR hK => wpAny_Constant_bool (hK (.bool b) _ ρ σ F s.heap s.toks ⟨rfl, h⟩ (.refl F) hR rfl)
theorem WE_none {k : Nat} {pos : Pos} {Q : PV → St → Prop} (h : Q .none σ) : WE C n env (.Constant .none k pos) ρ σ Q :=
  fun F _ _ s _ _ _ hR hK => wpAny_Constant_none (hK .none _ ρ σ F s.heap s.toks ⟨rfl, h⟩ (.refl F) hR rfl)

theorem WE_local {x : Str} {pos : Pos} {v : PV} {Q : PV → St → Prop} (hk : env.scope.kind = .function) (hl : env.kindOf x = some .local) (hv : ρ.lookup x = some v) (h : Q v σ)
    (hd : (x == ("__debug__" : Str)) = false) : WE C n env (.Name x pos) ρ σ Q := by
  intro F hB A s E K hr hR hK
  refine held fun hn1 => ?_
  obtain ⟨m, hn, hm⟩ := hR.ns
  refine hn1 ?_
  refine held fun hn2 => ?_
  obtain ⟨v', e, r⟩ := hm x v hv
  refine hn2 ?_
  exact wpAny_Name (wpAny_loadName_local hk hl hn e (hK v v' ρ σ F s.heap s.toks ⟨rfl, h⟩ (.refl F) hR r)) hd
theorem WE_cell {x : Str} {pos : Pos} {c : Addr} {v : PV} {Q : PV → St → Prop} (hk : env.scope.kind = .function) (hl : env.kindOf x = some .cell) (hc : env.cells.lookup x = some c) (hv : σ c = some (.cell (some v))) (h : Q v σ)
    (hd : (x == ("__debug__" : Str)) = false) : WE C n env (.Name x pos) ρ σ Q := by
  intro F hB A s E K hr hR hK
  refine held fun hn3 => ?_
  obtain ⟨_, o, e, v', d, r⟩ := hR.st c _ hv
  refine hn3 ?_
  exact wpAny_Name (wpAny_loadName_cell hk hl hc ⟨o, e, d⟩ (hK v v' ρ σ F s.heap s.toks ⟨rfl, h⟩ (.refl F) hR r)) hd
theorem WE_free {x : Str} {pos : Pos} {c : Addr} {v : PV} {Q : PV → St → Prop} (hk : env.scope.kind = .function) (hl : env.kindOf x = some .free) (hc : env.cells.lookup x = some c) (hv : σ c = some (.cell (some v))) (h : Q v σ)
    (hd : (x == ("__debug__" : Str)) = false) (hn : (x == ("__classdict__" : Str)) = false) : WE C n env (.Name x pos) ρ σ Q := by
  intro F hB A s E K hr hR hK
  refine held fun hn4 => ?_
  obtain ⟨_, o, e, v', d, r⟩ := hR.st c _ hv
  refine hn4 ?_
  exact wpAny_Name (wpAny_loadName_free hk hl hc ⟨o, e, d⟩ (hK v v' ρ σ F s.heap s.toks ⟨rfl, h⟩ (.refl F) hR r) hn) hd

/-! ### operators -/
theorem WE_BinOp {l r : Expr} {op : Operator} {pos : Pos} {Q : PV → St → Prop}
    (h : WE C n env l ρ σ (fun a σ₁ => WE C n env r ρ σ₁ (fun b σ₂ => WBin C n op a b σ₂ Q))) : WE C n env (.BinOp l op r pos) ρ σ Q := by
  intro F hB A s E K hr hR hK
  refine wpAny_BinOp (h F hB A s E _ hr hR ?_)
  rintro a a' ρ₁ σ₁ F₁ h₁ tk₁ ⟨rfl, hq1⟩ hle₁ R₁ va
  refine hq1 F₁ (hB.trans hle₁) A _ E _ hr R₁ ?_
  rintro b b' ρ₂ σ₂ F₂ h₂ tk₂ ⟨rfl, hq2⟩ hle₂ R₂ vb
  exact hq2 F₂ _ _ _ _ (hB.trans (hle₁.trans hle₂)) (va.mono hle₂) vb A _ E K hr R₂ (fun v v' ρ₃ σ₃ F₃ h₃ tk₃ q hle₃ R₃ r => hK v v' ρ₃ σ₃ F₃ h₃ tk₃ q (hle₁.trans (hle₂.trans hle₃)) R₃ r)
theorem WE_Compare {l r : Expr} {op : CmpOp} {pos : Pos} {Q : PV → St → Prop} (hm : behindInMarks op r = false)
    (h : WE C n env l ρ σ (fun a σ₁ => WE C n env r ρ σ₁ (fun b σ₂ => WCmp C n op a b σ₂ Q))) : WE C n env (.Compare l [op] [r] pos) ρ σ Q := by
  intro F hB A s E K hr hR hK
  refine wpAny_Compare1 (h F hB A s E _ hr hR ?_) hm
  rintro a a' ρ₁ σ₁ F₁ h₁ tk₁ ⟨rfl, hq1⟩ hle₁ R₁ va
  refine hq1 F₁ (hB.trans hle₁) A _ E _ hr R₁ ?_
  rintro b b' ρ₂ σ₂ F₂ h₂ tk₂ ⟨rfl, hq2⟩ hle₂ R₂ vb
  exact hq2 F₂ _ _ _ _ (hB.trans (hle₁.trans hle₂)) (va.mono hle₂) vb A _ E K hr R₂ (fun v v' ρ₃ σ₃ F₃ h₃ tk₃ q hle₃ R₃ r => hK v v' ρ₃ σ₃ F₃ h₃ tk₃ q (hle₁.trans (hle₂.trans hle₃)) R₃ r)

/-! ### tests -/
theorem WT_Compare {l r : Expr} {op : CmpOp} {pos : Pos} {Q : Bool → St → Prop} (hm : behindInMarks op r = false)
    (h : WE C n env l ρ σ (fun a σ₁ => WE C n env r ρ σ₁ (fun b σ₂ => WCmp C n op a b σ₂ (fun c σ₃ => WTru C n c σ₃ Q)))) : WT C n env (.Compare l [op] [r] pos) ρ σ Q := by
  intro F hB A s E K hr hR hK
  refine wpAny_isTrue_Compare1 (h F hB A s E _ hr hR ?_) hm
  rintro a a' ρ₁ σ₁ F₁ h₁ tk₁ ⟨rfl, hq1⟩ hle₁ R₁ va
  refine hq1 F₁ (hB.trans hle₁) A _ E _ hr R₁ ?_
  rintro b b' ρ₂ σ₂ F₂ h₂ tk₂ ⟨rfl, hq2⟩ hle₂ R₂ vb
  refine hq2 F₂ _ _ _ _ (hB.trans (hle₁.trans hle₂)) (va.mono hle₂) vb A _ E _ hr R₂ ?_
  rintro c c' ρ₃ σ₃ F₃ h₃ tk₃ ⟨rfl, hq3⟩ hle₃ R₃ vc
  exact hq3 F₃ _ _ _ (hB.trans (hle₁.trans (hle₂.trans hle₃))) vc A _ E K hr R₃ (fun v v' ρ₄ σ₄ F₄ h₄ tk₄ q hle₄ R₄ r => hK v v' ρ₄ σ₄ F₄ h₄ tk₄ q (hle₁.trans (hle₂.trans (hle₃.trans hle₄))) R₄ r)
theorem WT_Not {x : Expr} {pos : Pos} {Q : Bool → St → Prop} (h : WT C n env x ρ σ (fun b σ₁ => Q (!b) σ₁)) : WT C n env (.UnaryOp .Not x pos) ρ σ Q := by
  intro F hB A s E K hr hR hK
  refine wpAny_isTrue_Not (h F hB A s E _ hr hR ?_)
  rintro a a' ρ₁ σ₁ F₁ h₁ tk₁ ⟨rfl, hq1⟩ hle₁ R₁ rfl
  exact hK _ _ ρ₁ σ₁ F₁ h₁ tk₁ ⟨rfl, hq1⟩ hle₁ R₁ rfl
/-- a test that is a plain value -/
theorem WT_val {e : Expr} {Q : Bool → St → Prop} (he : ∀ whole, isTrue e env whole = (do let v ← whole; standAt e.pos; holding [v] (truthy v)))
    (h : WE C n env e ρ σ (fun v σ₁ => WTru C n v σ₁ Q)) : WT C n env e ρ σ Q := by
  intro F hB A s E K hr hR hK
  refine wpAny_isTrue_value (h F hB A s E _ hr hR ?_) (he _)
  rintro a a' ρ₁ σ₁ F₁ h₁ tk₁ ⟨rfl, hq1⟩ hle₁ R₁ va
  exact hq1 F₁ _ _ _ (hB.trans hle₁) va A _ E K hr R₁ (fun v v' ρ₂ σ₂ F₂ h₂ tk₂ q hle₂ R₂ r => hK v v' ρ₂ σ₂ F₂ h₂ tk₂ q (hle₁.trans hle₂) R₂ r)
noncomputable def WAll (C : Cx) (n : Nat) (env : Env) (op : BoolOp) (es : List Expr) (ρ : Loc) (σ : St) (Q : Bool → St → Prop) : Prop :=
  ∀ F, C.B.Le F → Tri C.prog C.w (fun _ (b a : Bool) => b = a) n env.locals ρ σ F (allTrue op es env) (fun v ρ' σ' => ρ' = ρ ∧ Q v σ')
theorem WT_BoolOp {op : BoolOp} {es : List Expr} {pos : Pos} {Q : Bool → St → Prop} (h : WAll C n env op es ρ σ Q) : WT C n env (.BoolOp op es pos) ρ σ Q :=
  fun F hB A s E K hr hR hK => wpAny_isTrue_BoolOp (h F hB A s E K hr hR hK)
theorem WAll_And_nil {Q : Bool → St → Prop} (h : Q true σ) : WAll C n env .And [] ρ σ Q :=
  fun F _ _ s _ _ _ hR hK => wpAny_allTrue_And_nil (hK true true ρ σ F s.heap s.toks ⟨rfl, h⟩ (.refl F) hR rfl)
theorem WAll_Or_nil {Q : Bool → St → Prop} (h : Q false σ) : WAll C n env .Or [] ρ σ Q :=
  fun F _ _ s _ _ _ hR hK => wpAny_allTrue_Or_nil (hK false false ρ σ F s.heap s.toks ⟨rfl, h⟩ (.refl F) hR rfl)
theorem WAll_And_cons {x : Expr} {rest : List Expr} {Q : Bool → St → Prop}
    (h : WT C n env x ρ σ (fun b σ₁ => (b = true → WAll C n env .And rest ρ σ₁ Q) ∧ (b = false → Q false σ₁))) : WAll C n env .And (x :: rest) ρ σ Q := by
  intro F hB A s E K hr hR hK
  refine wpAny_allTrue_And_cons (h F hB A s E _ hr hR ?_)
  rintro a a' ρ₁ σ₁ F₁ h₁ tk₁ ⟨rfl, hq1⟩ hle₁ R₁ rfl
  cases a with
  | true => exact hq1.1 rfl F₁ (hB.trans hle₁) A _ E K hr R₁ (fun v v' ρ₂ σ₂ F₂ h₂ tk₂ q hle₂ R₂ r => hK v v' ρ₂ σ₂ F₂ h₂ tk₂ q (hle₁.trans hle₂) R₂ r)
  | false => exact hK false false ρ₁ σ₁ F₁ h₁ tk₁ ⟨rfl, hq1.2 rfl⟩ hle₁ R₁ rfl
theorem WAll_Or_cons {x : Expr} {rest : List Expr} {Q : Bool → St → Prop}
    (h : WT C n env x ρ σ (fun b σ₁ => (b = true → Q true σ₁) ∧ (b = false → WAll C n env .Or rest ρ σ₁ Q))) : WAll C n env .Or (x :: rest) ρ σ Q := by
  intro F hB A s E K hr hR hK
  refine wpAny_allTrue_Or_cons (h F hB A s E _ hr hR ?_)
  rintro a a' ρ₁ σ₁ F₁ h₁ tk₁ ⟨rfl, hq1⟩ hle₁ R₁ rfl
  cases a with
  | false => exact hq1.2 rfl F₁ (hB.trans hle₁) A _ E K hr R₁ (fun v v' ρ₂ σ₂ F₂ h₂ tk₂ q hle₂ R₂ r => hK v v' ρ₂ σ₂ F₂ h₂ tk₂ q (hle₁.trans hle₂) R₂ r)
  | true => exact hK true true ρ₁ σ₁ F₁ h₁ tk₁ ⟨rfl, hq1.1 rfl⟩ hle₁ R₁ rfl
theorem WE_IfExp {test body orelse : Expr} {pos : Pos} {Q : PV → St → Prop}
    (h : WT C n env test ρ σ (fun b σ₁ => (b = true → WE C n env body ρ σ₁ Q) ∧ (b = false → WE C n env orelse ρ σ₁ Q))) : WE C n env (.IfExp test body orelse pos) ρ σ Q := by
  intro F hB A s E K hr hR hK
  refine wpAny_IfExp (h F hB A s E _ hr hR ?_)
  rintro a a' ρ₁ σ₁ F₁ h₁ tk₁ ⟨rfl, hq1⟩ hle₁ R₁ rfl
  cases a with
  | true => exact hq1.1 rfl F₁ (hB.trans hle₁) A _ E K hr R₁ (fun v v' ρ₂ σ₂ F₂ h₂ tk₂ q hle₂ R₂ r => hK v v' ρ₂ σ₂ F₂ h₂ tk₂ q (hle₁.trans hle₂) R₂ r)
  | false => exact hq1.2 rfl F₁ (hB.trans hle₁) A _ E K hr R₁ (fun v v' ρ₂ σ₂ F₂ h₂ tk₂ q hle₂ R₂ r => hK v v' ρ₂ σ₂ F₂ h₂ tk₂ q (hle₁.trans hle₂) R₂ r)

/-! ### statements -/
theorem WSs_nil {Q : PF → Loc → St → Prop} (h : Q .next ρ σ) : WSs C n env [] ρ σ Q :=
  fun F _ _ s _ _ _ hR hK => wpAny_execs_nil (hK .next .next ρ σ F s.heap s.toks h (.refl F) hR rfl)
theorem WSs_cons {st : Stmt} {rest : List Stmt} {Q : PF → Loc → St → Prop}
    (h : WS C n env st ρ σ (fun f ρ₁ σ₁ => match f with | .next => WSs C n env rest ρ₁ σ₁ Q | f => Q f ρ₁ σ₁)) : WSs C n env (st :: rest) ρ σ Q := by
  intro F hB A s E K hr hR hK
  refine wpAny_execs_cons (h F hB A s E _ hr hR ?_)
  intro f f' ρ₁ σ₁ F₁ h₁ tk₁ hq1 hle₁ R₁ vf
  cases f with
  | next =>
    cases vf
    exact hq1 F₁ (hB.trans hle₁) A _ E K hr R₁ (fun v v' ρ₂ σ₂ F₂ h₂ tk₂ q hle₂ R₂ r => hK v v' ρ₂ σ₂ F₂ h₂ tk₂ q (hle₁.trans hle₂) R₂ r)
  | brk => cases vf; exact hK _ _ ρ₁ σ₁ F₁ h₁ tk₁ hq1 hle₁ R₁ rfl
  | cont => cases vf; exact hK _ _ ρ₁ σ₁ F₁ h₁ tk₁ hq1 hle₁ R₁ rfl
  | ret v =>
    refine held fun hn5 => ?_
    obtain ⟨v', rfl, r⟩ := vf
    refine hn5 ?_
    exact hK _ _ ρ₁ σ₁ F₁ h₁ tk₁ hq1 hle₁ R₁ ⟨v', rfl, r⟩
theorem WSs.more {sts : List Stmt} {ρ' : Loc} {σ' : St} {Q : PF → Loc → St → Prop} (h : WSs C n env sts ρ' σ' Q) (hρ : LSub ρ' ρ) (hσ : SubS σ' σ) : WSs C n env sts ρ σ Q :=
  fun F hB A s E K hr hR hK => h F hB A s E K hr (hR.less hρ hσ) hK
/-- a statement whose ways meet -/
theorem WSs_cut {st : Stmt} {rest : List Stmt} {Q : PF → Loc → St → Prop} (ρ' : Loc) (σ' : St) (h1 : WS C n env st ρ σ (fun f ρ₁ σ₁ => f = .next ∧ LSub ρ' ρ₁ ∧ SubS σ' σ₁)) (h2 : WSs C n env rest ρ' σ' Q) : WSs C n env (st :: rest) ρ σ Q := by
  refine WSs_cons (h1.mono ?_)
  intro f ρ₁ σ₁ hi6
  refine held fun hn6 => ?_
  obtain ⟨rfl, a, b⟩ := hi6
  refine hn6 ?_
  exact h2.more a b
theorem WS_If {test : Expr} {body orelse : List Stmt} {pos : Pos} {Q : PF → Loc → St → Prop}
    (h : WT C n env test ρ σ (fun b σ₁ => (b = true → WSs C n env body ρ σ₁ Q) ∧ (b = false → WSs C n env orelse ρ σ₁ Q))) : WS C n env (.If test body orelse pos) ρ σ Q := by
  intro F hB A s E K hr hR hK
  refine wpAny_If (h F hB A s E _ hr hR ?_)
  rintro a a' ρ₁ σ₁ F₁ h₁ tk₁ ⟨rfl, hq1⟩ hle₁ R₁ rfl
  cases a with
  | true => exact hq1.1 rfl F₁ (hB.trans hle₁) A _ E K hr R₁ (fun v v' ρ₂ σ₂ F₂ h₂ tk₂ q hle₂ R₂ r => hK v v' ρ₂ σ₂ F₂ h₂ tk₂ q (hle₁.trans hle₂) R₂ r)
  | false => exact hq1.2 rfl F₁ (hB.trans hle₁) A _ E K hr R₁ (fun v v' ρ₂ σ₂ F₂ h₂ tk₂ q hle₂ R₂ r => hK v v' ρ₂ σ₂ F₂ h₂ tk₂ q (hle₁.trans hle₂) R₂ r)
theorem WS_Return {e : Expr} {pos : Pos} {Q : PF → Loc → St → Prop} (h : WE C n env e ρ σ (fun v σ₁ => Q (.ret v) ρ σ₁)) : WS C n env (.Return (some e) pos) ρ σ Q := by
  intro F hB A s E K hr hR hK
  refine wpAny_Return_some (h F hB A s E _ hr hR ?_)
  rintro a a' ρ₁ σ₁ F₁ h₁ tk₁ ⟨rfl, hq1⟩ hle₁ R₁ va
  exact hK _ _ ρ₁ σ₁ F₁ h₁ tk₁ hq1 hle₁ R₁ ⟨a', rfl, va⟩
theorem WS_Return0 {pos : Pos} {Q : PF → Loc → St → Prop} (h : Q (.ret .none) ρ σ) : WS C n env (.Return none pos) ρ σ Q :=
  fun F _ _ s _ _ _ hR hK => wpAny_Return_none (hK _ _ ρ σ F s.heap s.toks h (.refl F) hR ⟨_, rfl, rfl⟩)
theorem WS_Break {pos : Pos} {Q : PF → Loc → St → Prop} (h : Q .brk ρ σ) : WS C n env (.Break pos) ρ σ Q :=
  fun F _ _ s _ _ _ hR hK => wpAny_Break (hK .brk .brk ρ σ F s.heap s.toks h (.refl F) hR rfl)
theorem WS_Continue {pos : Pos} {Q : PF → Loc → St → Prop} (h : Q .cont ρ σ) : WS C n env (.Continue pos) ρ σ Q :=
  fun F _ _ s _ _ _ hR hK => wpAny_Continue (hK .cont .cont ρ σ F s.heap s.toks h (.refl F) hR rfl)
theorem WS_Assign {x : Str} {pos' pos : Pos} {value : Expr} {Q : PF → Loc → St → Prop} (hs : swapsWith value (some (.Name x pos')) pos.line env = pure false)
    (h : WE C n env value ρ σ (fun v σ₁ => WStore C n env x v ρ σ₁ (Q .next))) : WS C n env (.Assign [.Name x pos'] value pos) ρ σ Q := by
  intro F hB A s E K hr hR hK
  refine wpAny_Assign_Name (h F hB A s E _ hr hR ?_) hs
  rintro a a' ρ₁ σ₁ F₁ h₁ tk₁ ⟨rfl, hq1⟩ hle₁ R₁ va
  exact hq1 F₁ a' (hB.trans hle₁) va A _ E _ hr R₁ (fun v v' ρ₂ σ₂ F₂ h₂ tk₂ q hle₂ R₂ r => hK .next .next ρ₂ σ₂ F₂ h₂ tk₂ q (hle₁.trans hle₂) R₂ rfl)
theorem WStore_local {x : Str} {v : PV} {Q : Loc → St → Prop} (hk : env.scope.kind = .function) (hl : env.kindOf x = some .local) (h : Q (Loc.put ρ x v) σ) : WStore C n env x v ρ σ Q := by
  intro F v' hB r A s E K hr hR hK
  refine held fun hn7 => ?_
  obtain ⟨m, hn, hm⟩ := hR.ns
  refine hn7 ?_
  refine wpAny_storeName_local hl hn (fun h' hn' hs => ?_) (by rw [hk]; rfl)
  exact hK () () _ σ F h' _ h (.refl F) (hR.store hm r hn' hs) trivial
theorem WStore_cell {x : Str} {c : Addr} {v : PV} {v₀ : Option PV} {Q : Loc → St → Prop} (hk : env.scope.kind = .function) (hl : env.kindOf x = some .cell) (hc : env.cells.lookup x = some c)
    (hv : σ c = some (.cell v₀)) (h : Q ρ (σ.set c (.cell (some v)))) : WStore C n env x v ρ σ Q := by
  intro F v' hB r A s E K hr hR hK
  refine held fun hn8 => ?_
  obtain ⟨_, o, e, q⟩ := hR.st c _ hv
  refine hn8 ?_
  have hic : ∃ u, s.heap.IsCell c u := by
    cases v₀ with
    | none => exact ⟨_, o, e, q⟩
    | some p => obtain ⟨u, d, _⟩ := q; exact ⟨_, o, e, d⟩
  obtain ⟨u, hic⟩ := hic
  refine wpAny_storeName_cell hk hl hc hic fun h' hc' hs => ?_
  refine held fun hn9 => ?_
  obtain ⟨o', e', d'⟩ := hc'
  refine hn9 ?_
  exact hK () () ρ _ F h' s.toks h (.refl F) (hR.upd hv hs e' ⟨v', d', r⟩) trivial
theorem WS_Expr {e : Expr} {pos : Pos} {Q : PF → Loc → St → Prop} (hi : interactive env = false) (hs : swapsWith e none pos.line env = pure false)
    (h : WE C n env e ρ σ (fun v σ₁ => v = .none ∧ Q .next ρ σ₁)) : WS C n env (.Expr e pos) ρ σ Q := by
  intro F hB A s E K hr hR hK
  refine wpAny_Expr (h F hB A s E _ hr hR ?_) hi hs
  rintro a a' ρ₁ σ₁ F₁ h₁ tk₁ ⟨rfl, rfl, hq1⟩ hle₁ R₁ va
  cases va
  exact hK .next .next ρ₁ σ₁ F₁ h₁ tk₁ hq1 hle₁ R₁ rfl
/-- a while by an invariant and a measure -/
theorem WS_While {test : Expr} {body : List Stmt} {pos : Pos} {Q : PF → Loc → St → Prop} (I : Nat → Loc → St → Prop) (ρi : Loc)
    (turn : ∀ k ρ σ, I k ρ σ → WT C n env test ρ σ (fun b σ₁ => (b = true → WSs C n env body ρ σ₁ (fun f ρ₂ σ₂ => match f with
      | .next => ∃ m ρ₀ σ₀, m < k ∧ LSub ρ₀ ρ₂ ∧ SubS σ₀ σ₂ ∧ I m ρ₀ σ₀
      | .cont => ∃ m ρ₀ σ₀, m < k ∧ LSub ρ₀ ρ₂ ∧ SubS σ₀ σ₂ ∧ I m ρ₀ σ₀
      | .brk => Q .next ρ₂ σ₂
      | .ret v => Q (.ret v) ρ₂ σ₂)) ∧ (b = false → Q .next ρ σ₁)))
    (k : Nat) (hi : LSub ρi ρ) (h : I k ρi σ) : WS C n env (.While test body [] pos) ρ σ Q := by
  intro F hB A s E K hr hR hK
  refine wpAny_While (codeAny_whileLoop (fun k s' => ∃ ρ σ F' h' tk, I k ρ σ ∧ F.Le F' ∧ Rep F' env.locals ρ σ h' ∧ s' = { s with heap := h', toks := tk }) ?_ k ⟨ρi, σ, F, s.heap, s.toks, h, .refl F, hR.less hi (.refl σ), rfl⟩)
  intro k s' hi10
  refine held fun hn10 => ?_
  obtain ⟨ρ₀, σ₀, F₀, h₀, tk₀, hI, hle₀, R₀, rfl⟩ := hi10
  refine hn10 ?_
  refine turn k ρ₀ σ₀ hI F₀ (hB.trans hle₀) A _ _ _ hr R₀ ?_
  rintro b b' ρ₁ σ₁ F₁ h₁ tk₁ ⟨rfl, hq1⟩ hle₁ R₁ rfl
  cases b with
  | false =>
    simp only [Bool.false_eq_true, if_false]
    exact wpAny_execs_nil (hK .next .next ρ₁ σ₁ F₁ h₁ tk₁ (hq1.2 rfl) (hle₀.trans hle₁) R₁ rfl)
  | true =>
    simp only [if_true]
    refine hq1.1 rfl F₁ (hB.trans (hle₀.trans hle₁)) A _ _ _ hr R₁ ?_
    intro f f' ρ₂ σ₂ F₂ h₂ tk₂ hq2 hle₂ R₂ vf
    have le := hle₀.trans (hle₁.trans hle₂)
    cases f with
    | next => cases vf; obtain ⟨m, ρ₀, σ₀, hm, s1, s2, hI'⟩ := hq2; exact ⟨m, hm, ρ₀, σ₀, F₂, h₂, tk₂, hI', le, R₂.less s1 s2, rfl⟩
    | cont => cases vf; obtain ⟨m, ρ₀, σ₀, hm, s1, s2, hI'⟩ := hq2; exact ⟨m, hm, ρ₀, σ₀, F₂, h₂, tk₂, hI', le, R₂.less s1 s2, rfl⟩
    | brk => cases vf; exact hK .next .next ρ₂ σ₂ F₂ h₂ tk₂ hq2 le R₂ rfl
    | ret v => obtain ⟨v', rfl, r⟩ := vf; exact hK (.ret v) _ ρ₂ σ₂ F₂ h₂ tk₂ hq2 le R₂ ⟨v', rfl, r⟩

/-! ### lists of expressions, calls -/
theorem WEs_nil {Q : List PV → St → Prop} (h : Q [] σ) : WEs C n env [] ρ σ Q :=
  fun F _ _ _ s _ _ _ hR hK => wpAny_items_nil (hK [] [] ρ σ F s.heap s.toks ⟨rfl, h⟩ (.refl F) hR .nil)
theorem WEs_cons {e : Expr} {rest : List Expr} {Q : List PV → St → Prop} (he : starEach (e :: rest) env = (false, eval e env) :: starEach rest env)
    (h : WE C n env e ρ σ (fun v σ₁ => WEs C n env rest ρ σ₁ (fun vs σ₂ => Q (v :: vs) σ₂))) : WEs C n env (e :: rest) ρ σ Q := by
  intro F pos hB A s E K hr hR hK
  refine wpAny_items_cons (h F hB A s E _ hr hR ?_) he
  rintro a a' ρ₁ σ₁ F₁ h₁ tk₁ ⟨rfl, hq1⟩ hle₁ R₁ va
  refine hq1 F₁ pos (hB.trans hle₁) A _ E _ hr R₁ ?_
  rintro b b' ρ₂ σ₂ F₂ h₂ tk₂ ⟨rfl, hq2⟩ hle₂ R₂ vb
  exact hK _ _ ρ₂ σ₂ F₂ h₂ tk₂ ⟨rfl, hq2⟩ (hle₁.trans hle₂) R₂ (.cons (va.mono hle₂) vb)

/-- f(e, ..) where f is a def or a built-in or a type -/
theorem WE_Call {func e : Expr} {rest : List Expr} {pos : Pos} {Q : PV → St → Prop}
    (hc : eval (.Call func (e :: rest) [] pos) env = (do callWith pos (← eval func env) [] (backTo pos (starEach (e :: rest) env)) (backToKw pos (keywordEach [] env))))
    (he : starEach (e :: rest) env = (false, eval e env) :: starEach rest env) (hp : (backTo pos (starEach rest env)).any (·.1) = false)
    (h : WE C n env func ρ σ (fun f σ₁ => ((∃ k, f = .fn k) ∨ (∃ id, f = .imm (.builtin id)) ∨ (∃ T, f = .imm (.type T))) ∧ WEs C n env (e :: rest) ρ σ₁ (fun vs σ₂ => WCall C n f vs σ₂ Q))) :
    WE C n env (.Call func (e :: rest) [] pos) ρ σ Q := by
  intro F hB A s E K hr hR hK
  refine Call_ (h F hB A s E _ hr hR ?_) hc
  rintro f f' ρ₁ σ₁ F₁ h₁ tk₁ ⟨rfl, hf, hq1⟩ hle₁ R₁ vf
  have key : wpAny (model C.prog C.w) A (spliced (backTo pos (starEach (e :: rest) env))) (fun vs s₁ => (∀ a o fd, f' = .ref a → F₁ a = some o → o.data = .func fd → s₁.heap.get? a = some o) ∧ wpAny (model C.prog C.w) A (call f' vs) K E s₁) E { s with heap := h₁, toks := tk₁ } := by
    refine hq1 F₁ pos (hB.trans hle₁) A _ E _ hr R₁ ?_
    rintro b b' ρ₂ σ₂ F₂ h₂ tk₂ ⟨rfl, hq2⟩ hle₂ R₂ vb
    refine ⟨fun a o fd _ ea _ => (R₂.fz a o (hle₂ _ _ ea)).1, ?_⟩
    exact hq2 F₂ _ _ _ _ (hB.trans (hle₁.trans hle₂)) (vf.mono hle₂) vb A _ E K hr R₂ (fun v v' ρ₃ σ₃ F₃ h₃ tk₃ q hle₃ R₃ r => hK v v' ρ₃ σ₃ F₃ h₃ tk₃ q (hle₁.trans (hle₂.trans hle₃)) R₃ r)
  rcases hf with ⟨k, rfl⟩ | ⟨id, rfl⟩ | ⟨T, rfl⟩
  · refine held fun hn11 => ?_
    obtain ⟨a, o, fd, rfl, ea, ed, _⟩ := vf
    refine hn11 ?_
    refine callWith_def ed (wpAny_mono key (fun vs s₁ x => ⟨x.1 a o fd rfl ea ed, x.2⟩) fun _ _ x => x) he
  · cases vf
    exact callWith_builtin1 (wpAny_mono key (fun vs s₁ x => x.2) fun _ _ x => x) he hp
  · cases vf
    exact PyProof.Rows.callWith_type1 (wpAny_mono key (fun vs s₁ x => x.2) fun _ _ x => x) he hp
end
end Mine

namespace Mine
/-! ## Layer 2b: operations -/
section
variable {C : Cx} {n : Nat} {σ : St}

/-! ### ints -/
theorem WBin_add {a b : Int} {Q : PV → St → Prop} (h : Q (.int (a + b)) σ) : WBin C n .Add (.int a) (.int b) σ Q := by
  rintro F L ρ _ _ hB ⟨t, rfl⟩ ⟨u, rfl⟩ A s E K hr hR hK
  exact add_int (hK (.int (a + b)) _ ρ σ F s.heap _ ⟨rfl, h⟩ (.refl F) hR ⟨_, rfl⟩)
theorem WBin_sub {a b : Int} {Q : PV → St → Prop} (h : Q (.int (a - b)) σ) : WBin C n .Sub (.int a) (.int b) σ Q := by
  rintro F L ρ _ _ hB ⟨t, rfl⟩ ⟨u, rfl⟩ A s E K hr hR hK
  exact sub_int (hK (.int (a - b)) _ ρ σ F s.heap _ ⟨rfl, h⟩ (.refl F) hR ⟨_, rfl⟩)
theorem WBin_mul {a b : Int} {Q : PV → St → Prop} (hm : IntMulOk a b) (h : Q (.int (a * b)) σ) : WBin C n .Mult (.int a) (.int b) σ Q := by
  rintro F L ρ _ _ hB ⟨t, rfl⟩ ⟨u, rfl⟩ A s E K hr hR hK
  exact mul_int (hK (.int (a * b)) _ ρ σ F s.heap _ ⟨rfl, h⟩ (.refl F) hR ⟨_, rfl⟩) hm
theorem WBin_fdiv {a b : Int} {Q : PV → St → Prop} (hb : b ≠ 0) (hp : b.natAbs < 1073741824) (h : Q (.int (a.fdiv b)) σ) : WBin C n .FloorDiv (.int a) (.int b) σ Q := by
  rintro F L ρ _ _ hB ⟨t, rfl⟩ ⟨u, rfl⟩ A s E K hr hR hK
  exact floordiv_int hb (hK (.int (a.fdiv b)) _ ρ σ F s.heap _ ⟨rfl, h⟩ (.refl F) hR ⟨_, rfl⟩) (.inl (PyProof.noPylong_small hp))
theorem WBin_mod {a b : Int} {Q : PV → St → Prop} (hb : b ≠ 0) (h : Q (.int (a.fmod b)) σ) : WBin C n .Mod (.int a) (.int b) σ Q := by
  rintro F L ρ _ _ hB ⟨t, rfl⟩ ⟨u, rfl⟩ A s E K hr hR hK
  exact mod_int hb (hK (.int (a.fmod b)) _ ρ σ F s.heap _ ⟨rfl, h⟩ (.refl F) hR ⟨_, rfl⟩)
theorem WBin_shl {a b : Int} {Q : PV → St → Prop} (h0 : 0 ≤ b) (hb : b ≤ 1000000) (ha : a.natAbs < 2 ^ 64) (h : Q (.int (a * 2 ^ b.toNat)) σ) : WBin C n .LShift (.int a) (.int b) σ Q := by
  rintro F L ρ _ _ hB ⟨t, rfl⟩ ⟨u, rfl⟩ A s E K hr hR hK
  exact lshift_int_small h0 hb ha (hK (.int (a * 2 ^ b.toNat)) _ ρ σ F s.heap _ ⟨rfl, h⟩ (.refl F) hR ⟨_, rfl⟩)
theorem WBin_shr {a b : Int} {Q : PV → St → Prop} (h0 : 0 ≤ b) (h : Q (.int (a.fdiv (2 ^ b.toNat))) σ) : WBin C n .RShift (.int a) (.int b) σ Q := by
  rintro F L ρ _ _ hB ⟨t, rfl⟩ ⟨u, rfl⟩ A s E K hr hR hK
  exact rshift_int h0 (hK (.int (a.fdiv (2 ^ b.toNat))) _ ρ σ F s.heap _ ⟨rfl, h⟩ (.refl F) hR ⟨_, rfl⟩)
theorem WBin_xor {a b : Int} {Q : PV → St → Prop} (h : Q (.int (Builtin.bitXor a b)) σ) : WBin C n .BitXor (.int a) (.int b) σ Q := by
  rintro F L ρ _ _ hB ⟨t, rfl⟩ ⟨u, rfl⟩ A s E K hr hR hK
  exact xor_int (hK (.int (Builtin.bitXor a b)) _ ρ σ F s.heap _ ⟨rfl, h⟩ (.refl F) hR ⟨_, rfl⟩)
theorem WBin_and {a b : Int} {Q : PV → St → Prop} (h : Q (.int (Builtin.bitAnd a b)) σ) : WBin C n .BitAnd (.int a) (.int b) σ Q := by
  rintro F L ρ _ _ hB ⟨t, rfl⟩ ⟨u, rfl⟩ A s E K hr hR hK
  exact and_int (hK (.int (Builtin.bitAnd a b)) _ ρ σ F s.heap _ ⟨rfl, h⟩ (.refl F) hR ⟨_, rfl⟩)
theorem WBin_or {a b : Int} {Q : PV → St → Prop} (h : Q (.int (Builtin.bitOr a b)) σ) : WBin C n .BitOr (.int a) (.int b) σ Q := by
  rintro F L ρ _ _ hB ⟨t, rfl⟩ ⟨u, rfl⟩ A s E K hr hR hK
  exact or_int (hK (.int (Builtin.bitOr a b)) _ ρ σ F s.heap _ ⟨rfl, h⟩ (.refl F) hR ⟨_, rfl⟩)
theorem WCmp_lt {a b : Int} {Q : PV → St → Prop} (h : Q (.bool (decide (a < b))) σ) : WCmp C n .Lt (.int a) (.int b) σ Q := by
  rintro F L ρ _ _ hB ⟨t, rfl⟩ ⟨u, rfl⟩ A s E K hr hR hK
  exact lt_int (hK (.bool (decide (a < b))) _ ρ σ F s.heap s.toks ⟨rfl, h⟩ (.refl F) hR rfl)
theorem WCmp_gt {a b : Int} {Q : PV → St → Prop} (h : Q (.bool (decide (b < a))) σ) : WCmp C n .Gt (.int a) (.int b) σ Q := by
  rintro F L ρ _ _ hB ⟨t, rfl⟩ ⟨u, rfl⟩ A s E K hr hR hK
  exact gt_int (hK (.bool (decide (b < a))) _ ρ σ F s.heap s.toks ⟨rfl, h⟩ (.refl F) hR rfl)
theorem WCmp_ge {a b : Int} {Q : PV → St → Prop} (h : Q (.bool (decide (b ≤ a))) σ) : WCmp C n .GtE (.int a) (.int b) σ Q := by
  rintro F L ρ _ _ hB ⟨t, rfl⟩ ⟨u, rfl⟩ A s E K hr hR hK
  exact ge_int (hK (.bool (decide (b ≤ a))) _ ρ σ F s.heap s.toks ⟨rfl, h⟩ (.refl F) hR rfl)
theorem WCmp_eq {a b : Int} {Q : PV → St → Prop} (h : Q (.bool (a == b)) σ) : WCmp C n .Eq (.int a) (.int b) σ Q := by
  rintro F L ρ _ _ hB ⟨t, rfl⟩ ⟨u, rfl⟩ A s E K hr hR hK
  exact eq_int (hK (.bool (a == b)) _ ρ σ F s.heap s.toks ⟨rfl, h⟩ (.refl F) hR rfl)
theorem WCmp_ne {a b : Int} {Q : PV → St → Prop} (h : Q (.bool (a != b)) σ) : WCmp C n .NotEq (.int a) (.int b) σ Q := by
  rintro F L ρ _ _ hB ⟨t, rfl⟩ ⟨u, rfl⟩ A s E K hr hR hK
  exact ne_int (hK (.bool (a != b)) _ ρ σ F s.heap s.toks ⟨rfl, h⟩ (.refl F) hR rfl)
theorem WTru_bool {b : Bool} {Q : Bool → St → Prop} (h : Q b σ) : WTru C n (.bool b) σ Q := by
  rintro F L ρ _ hB rfl A s E K hr hR hK
  exact wpAny_truthy_bool (hK b b ρ σ F s.heap s.toks ⟨rfl, h⟩ (.refl F) hR rfl)
theorem WTru_int {a : Int} {Q : Bool → St → Prop} (h : Q (a != 0) σ) : WTru C n (.int a) σ Q := by
  rintro F L ρ _ hB ⟨t, rfl⟩ A s E K hr hR hK
  exact truthy_int (hK (a != 0) _ ρ σ F s.heap s.toks ⟨rfl, h⟩ (.refl F) hR rfl)

/-! ### lists of the store -/
theorem Rep.list {F : Fz} {L : Addr} {ρ : Loc} {h : Heap} (R : Rep F L ρ σ h) {a : Addr} {xs : List PV} (e : σ a = some (.list xs)) :
    ∃ vs m, h.get? a = some (listOf vs m) ∧ VRs F xs vs.toList ∧ vs.size = xs.length := by
  obtain ⟨_, o, x, vs, m, rfl, r⟩ := R.st a _ e
  exact ⟨vs, m, x, r, by rw [r.length]; simp⟩
theorem WTru_list {a : Addr} {xs : List PV} {Q : Bool → St → Prop} (e : σ a = some (.list xs)) (hz : xs.length ≤ 16777216) (h : Q (!xs.isEmpty) σ) : WTru C n (.ref a) σ Q := by
  rintro F L ρ _ hB rfl A s E K hr hR hK
  obtain ⟨vs, m, ho, r, hs⟩ := hR.list e
  have hsz : (vs.size : Int) < 2 ^ 63 := by (first | lia | omega)
  refine wpAny_truthy_list (IsL.isList (n := m) ho) hsz ?_
  have : (!vs.isEmpty) = !xs.isEmpty := by
    cases xs with
    | nil => simp at hs; simp [hs]
    | cons x l =>
      have : vs.size ≠ 0 := by rw [hs]; simp
      have q : vs.isEmpty = false := by simpa [Array.isEmpty] using this
      simp [q]
  rw [this]
  exact hK _ _ ρ σ F s.heap _ ⟨rfl, h⟩ (.refl F) hR rfl
/-- the tail of a subscript -/
noncomputable def WSub (C : Cx) (n : Nat) (value slice : Expr) (a b : PV) (σ : St) (Q : PV → St → Prop) : Prop :=
  ∀ F L ρ a' b', C.B.Le F → VR F a a' → VR F b b' → Tri C.prog C.w VR n L ρ σ F (subscriptTail value slice a' b') (fun v ρ' σ' => ρ' = ρ ∧ Q v σ')
theorem WE_Sub {env : Env} {ρ : Loc} {value slice : Expr} {pos : Pos} {Q : PV → St → Prop}
    (h : WE C n env value ρ σ (fun a σ₁ => WE C n env slice ρ σ₁ (fun b σ₂ => WSub C n value slice a b σ₂ Q))) : WE C n env (.Subscript value slice pos) ρ σ Q := by
  intro F hB A s E K hr hR hK
  refine Subscript_ (h F hB A s E _ hr hR ?_)
  rintro a a' ρ₁ σ₁ F₁ h₁ tk₁ ⟨rfl, hq1⟩ hle₁ R₁ va
  refine hq1 F₁ (hB.trans hle₁) A _ E _ hr R₁ ?_
  rintro b b' ρ₂ σ₂ F₂ h₂ tk₂ ⟨rfl, hq2⟩ hle₂ R₂ vb
  exact hq2 F₂ _ _ _ _ (hB.trans (hle₁.trans hle₂)) (va.mono hle₂) vb A _ E K hr R₂ (fun v v' ρ₃ σ₃ F₃ h₃ tk₃ q hle₃ R₃ r => hK v v' ρ₃ σ₃ F₃ h₃ tk₃ q (hle₁.trans (hle₂.trans hle₃)) R₃ r)
theorem WSub_list {value slice : Expr} {a : Addr} {i : Int} {xs : List PV} {v : PV} {Q : PV → St → Prop} (hs : ∀ o k, subscripted slice false o k = operate [o, k] (getItem o k))
    (e : σ a = some (.list xs)) (h0 : 0 ≤ i) (hi : i < 2 ^ 63) (hv : xs[i.toNat]? = some v) (h : Q v σ) : WSub C n value slice (.ref a) (.int i) σ Q := by
  rintro F L ρ _ _ hB rfl ⟨t, rfl⟩ A s E K hr hR hK
  obtain ⟨vs, m, ho, r, hz⟩ := hR.list e
  have hl : s.heap.IsList a vs := IsL.isList (n := m) ho
  obtain ⟨v', ev, rv⟩ := r.get hv
  exact tail_any hl.typeIs slot_list_getitem.lookup (wpAny_getItem_list hl h0 hi (by simpa using ev) (hK v v' ρ σ F s.heap s.toks ⟨rfl, h⟩ (.refl F) hR rv)) (hs _ _)
theorem WPut_list {a : Addr} {i : Int} {xs : List PV} {v : PV} {Q : St → Prop} (e : σ a = some (.list xs)) (h0 : 0 ≤ i) (hi : i < 2 ^ 63) (hn : i.toNat < xs.length) (h : Q (σ.set a (.list (xs.set i.toNat v)))) :
    WPut C n (.ref a) (.int i) v σ Q := by
  rintro F L ρ _ _ v' hB rfl ⟨t, rfl⟩ rv A s E K hr hR hK
  obtain ⟨vs, m, ho, r, hz⟩ := hR.list e
  refine ki_setAt ho h0 hi (by (first | lia | omega)) ?_
  have he := IsL.update ho (fun z => z.setIfInBounds i.toNat v')
  refine hK () () ρ _ F _ s.toks ⟨rfl, h⟩ (.refl F) (hR.upd e (Heap.SameBut.update ..) he ⟨_, _, rfl, ?_⟩) trivial
  have q := r.set rv i.toNat
  simpa using q
theorem assign_Sub (o i : Expr) (pos : Pos) (env : Env) (v : Value) : ∃ f : Value → Value → List Value, assign (.Subscript o i pos) env v = (do
    let ov ← holding [v] (eval o env)
    let iv ← holding [v, ov] (eval i env)
    standAt pos
    holding [v, ov, iv] (setItem ov iv v)
    release (f ov iv) []) := ⟨_, rfl⟩
/-- x[i] = v -/
theorem WAsg_Sub {env : Env} {ρ : Loc} {o i : Expr} {pos : Pos} {v : PV} {Q : Loc → St → Prop}
    (h : WE C n env o ρ σ (fun a σ₁ => WE C n env i ρ σ₁ (fun b σ₂ => WPut C n a b v σ₂ (fun σ₃ => Q ρ σ₃)))) : WAsg C n env (.Subscript o i pos) v ρ σ Q := by
  intro F v' hB rv A s E K hr hR hK
  obtain ⟨f, e⟩ := assign_Sub o i pos env v'
  rw [e]
  refine wpAny_bind (wpAny_holding (h F hB A s E _ hr hR ?_))
  rintro a a' ρ₁ σ₁ F₁ h₁ tk₁ ⟨rfl, hq1⟩ hle₁ R₁ va
  refine wpAny_bind (wpAny_holding (hq1 F₁ (hB.trans hle₁) A _ E _ hr R₁ ?_))
  rintro b b' ρ₂ σ₂ F₂ h₂ tk₂ ⟨rfl, hq2⟩ hle₂ R₂ vb
  refine wpAny_bind (wpAny_standAt (wpAny_bind (wpAny_holding (hq2 F₂ _ _ _ _ _ (hB.trans (hle₁.trans hle₂)) (va.mono hle₂) vb (rv.mono (hle₁.trans hle₂)) A _ E _ hr R₂ ?_))))
  rintro _ _ ρ₃ σ₃ F₃ h₃ tk₃ ⟨rfl, hq3⟩ hle₃ R₃ _
  exact wpAny_release (hK () () ρ₃ σ₃ F₃ h₃ tk₃ hq3 (hle₁.trans (hle₂.trans hle₃)) R₃ trivial)
theorem WAsg_Name {env : Env} {ρ : Loc} {x : Str} {pos : Pos} {v : PV} {Q : Loc → St → Prop} (h : WStore C n env x v ρ σ Q) : WAsg C n env (.Name x pos) v ρ σ Q :=
  fun F v' hB rv A s E K hr hR hK => wpAny_assign_Name (h F v' hB rv A s E K hr hR hK)
/-- an assignment to one target that is no name -/
theorem WS_AssignT {env : Env} {ρ : Loc} {t value : Expr} {pos : Pos} {Q : PF → Loc → St → Prop} (hs : swapsWithSole [t] value pos.line env = pure false) (hw : swappedStores [t] value env = pure none)
    (ht : assignEach [t] env = [(false, assign t env)])
    (h : WE C n env value ρ σ (fun v σ₁ => WAsg C n env t v ρ σ₁ (Q .next))) : WS C n env (.Assign [t] value pos) ρ σ Q := by
  intro F hB A s E K hr hR hK
  have e : exec (.Assign [t] value pos) env = (do
    standAt pos
    if ← swapsWithSole [t] value pos.line env then do
      evalThenUse value env fun v => assignAll v ((assignEach [t] env).map (·.2))
      pure .next
    else do
      let v ← eval value env
      assignStores env v (← swappedStores [t] value env) ((assignEach [t] env).map (·.2))) := rfl
  rw [e, hs, hw, ht]
  refine wpAny_bind (wpAny_standAt (wpAny_bind (wpAny_pure ?_)))
  simp only [Bool.false_eq_true, if_false]
  refine wpAny_bind (h F hB A s E _ hr hR ?_)
  rintro a a' ρ₁ σ₁ F₁ h₁ tk₁ ⟨rfl, hq1⟩ hle₁ R₁ va
  refine wpAny_bind (wpAny_pure ?_)
  show wpAny _ _ (do assignAll a' [assign t env]; pure Flow.next) _ _ _
  refine wpAny_bind (hq1 F₁ a' (hB.trans hle₁) va A _ E _ hr R₁ ?_)
  intro _ _ ρ₂ σ₂ F₂ h₂ tk₂ q hle₂ R₂ _
  exact wpAny_pure (hK .next .next ρ₂ σ₂ F₂ h₂ tk₂ q (hle₁.trans hle₂) R₂ rfl)

/-! ### calls of defs -/
noncomputable def mkEnv (k : FnI) (L a : Addr) (cells : List (Str × Addr)) : Env :=
  { scope := k.scope, locals := L, globals := mainGlobals, cells := cells, qual := k.qual ++ ".<locals>.", func := some a, code := k.code, frame := some L, builtins := builtinsNs }
noncomputable def retOf : PF → PV
  | .ret v => v
  | _ => .none
theorem callEnv_eq {F : Fz} {k : FnI} {fd : FuncData} (x : FnF F k fd) (L a : Addr) : callEnv fd L a = mkEnv k L a k.closure := by
  unfold callEnv newEnv mkEnv
  simp only [x.scope, x.globals, x.closure, x.qual, x.code, x.builtins]
structure Binds (F : Fz) (k : FnI) (args : List Value) (ρ : Loc) (mb : List (Str × Value)) : Prop where
  to : ∀ (s : Shared) (fd : FuncData), FnF F k fd → (∀ b o, F b = some o → s.heap.get? b = some o) → BindsTo s fd ⟨args, []⟩ mb
  kind : ∀ x ∈ mb, k.scope.names.lookup x.1 = some .local
  rel : ∀ x v, ρ.lookup x = some v → ∃ v', mb.reverse.lookup x = some v' ∧ VR F v v'
theorem WCall_fn {k : FnI} {args : List PV} {ρ' : Loc} {Q : PV → St → Prop} (hN : ∀ F, C.B.Le F → ∀ h : Heap, (∀ b o, F b = some o → h.get? b = some o) → h.NoLimit)
    (hb : ∀ F vs, C.B.Le F → VRs F args vs → ∃ mb, Binds F k vs ρ' mb)
    (hcell : ∀ x ∈ k.scope.names, x.2 ≠ .cell) (hco : k.scope.isCoroutine = false) (hgen : k.scope.isGenerator = false) (hk : k.scope.kind = .function)
    (h : ∀ L a, WSs C n (mkEnv k L a k.closure) k.body ρ' σ (fun fl _ σ' => Q (retOf fl) σ')) : WCall C (n + 1) (.fn k) args σ Q := by
  rintro F L ρ _ vs hB ⟨a, o, fd, rfl, ha, hd, hf⟩ hv A s E K hr hR hK
  obtain ⟨mb, bT, bK, bR⟩ := hb F vs hB hv
  have hF : ∀ b o, F b = some o → s.heap.get? b = some o := fun b o e => (hR.fz b o e).1
  have hcd : s.heap.CodeRec fd.code fd.qualname := let ⟨c, o, vs, t, e, x, r⟩ := hf.crec; ⟨c, o, vs, t, e, hF _ _ x, r⟩
  refine wpAny_call (codeAny_call_def (fd := fd) (body := k.body) (binds := mb) (by have := hr.1; (first | lia | omega)) (hF _ _ ha) hd (hN F hB _ hF) hcd hf.body (bT s fd hf hF) (by rw [hf.scope]; exact hcell) (by rw [hf.scope]; exact bK) ?_ (by rw [hf.scope]; exact hco) (by rw [hf.scope]; exact hgen) (by rw [hf.scope]; exact hk))
  intro h₁ hn₁ hk₁
  rw [callEnv_eq hf]
  obtain ⟨oL, hdL, hoL, hle, R₁⟩ := hR.suspend (σ' := σ) hk₁ (Nat.le_refl _) (fun a p e => .inl e) hn₁ bR
  refine h s.heap.objs.size a (F.add L oL) (hB.trans hle) _ _ _ _ ⟨?_, ?_, hr.2.2⟩ R₁ ?_
  · show A.depth + 1 + n < _; have := hr.1; (first | lia | omega)
  · show A.units + 3 + 20 * n + 100 < _; have := hr.2.1; (first | lia | omega)
  intro fl fl' ρ₂ σ₂ F₂ h₂ tk₂ q hle₂ R₂ vf
  obtain ⟨le₃, FL, R₃⟩ := hR.resume hdL hoL hle₂ R₂
  refine hK (retOf fl) _ ρ σ₂ (F₂.sub L) h₂ tk₂ ⟨rfl, q⟩ le₃ R₃ ?_
  cases fl with
  | next => cases vf; exact rfl
  | brk => cases vf; exact rfl
  | cont => cases vf; exact rfl
  | ret v => obtain ⟨v', rfl, r⟩ := vf; exact r.sub FL hdL
end
end Mine

namespace Mine
/-! ## Layer 2c: loops over iterators; the iterator's object is hidden -/
theorem Rep.other {F : Fz} {L a : Addr} {ρ : Loc} {σ : St} {h h' : Heap} (R : Rep F L ρ σ h) (k : Heap.ExtBut a h h') (hF : F a = none) (hs : σ a = none) (hL : a ≠ L) : Rep F L ρ σ h' where
  fz b o e := let ⟨x, y, z⟩ := R.fz b o e; ⟨k b o (fun q => by rw [q, hF] at e; cases e) x, y, z⟩
  st b p e := let ⟨x, o, y, z⟩ := R.st b p e; ⟨x, o, k b o (fun q => by rw [q, hs] at e; cases e) y, z⟩
  ns := let ⟨m, x, y⟩ := R.ns; ⟨m, x.extBut k (Ne.symm hL), y⟩

structure ItOk (C : Cx) (items : List PV) (side : St → Prop) (st : Nat → Obj → Prop) : Prop where
  idle : ∀ i o, st i o → Idle o
  next : ∀ {i : Nat} {p : PV} {F : Fz} {L : Addr} {ρ : Loc} {σ : St} {A : Around} {s : Shared} {E : Value → Shared → Prop} {K : Option Value → Shared → Prop} {ita : Addr} {o : Obj}, items[i]? = some p → A.handled = none → Rep F L ρ σ s.heap → side σ →
    s.heap.get? ita = some o → st i o → (∀ v' h' tk o', Heap.SameBut ita s.heap h' → h'.get? ita = some o' → st (i + 1) o' → VR F p v' → K (some v') { s with heap := h', toks := tk }) → wpAny (model C.prog C.w) A (pyNext (.ref ita)) K E s
  fin : ∀ {i : Nat} {F : Fz} {L : Addr} {ρ : Loc} {σ : St} {A : Around} {s : Shared} {E : Value → Shared → Prop} {K : Option Value → Shared → Prop} {ita : Addr} {o : Obj}, items[i]? = none → A.handled = none → Rep F L ρ σ s.heap → side σ →
    s.heap.get? ita = some o → st i o → (∀ h' tk, Heap.ExtBut ita s.heap h' → K none { s with heap := h', toks := tk }) → wpAny (model C.prog C.w) A (pyNext (.ref ita)) K E s
  again : ∀ {i : Nat} {A : Around} {s : Shared} {E : Value → Shared → Prop} {K : Value → Shared → Prop} {ita : Addr} {o : Obj}, s.heap.get? ita = some o → st i o → (∀ tk, K (.ref ita) { s with toks := tk }) → wpAny (model C.prog C.w) A (pyIter (.ref ita)) K E s
noncomputable def MkIter (C : Cx) (v : PV) (side : St → Prop) (st : Nat → Obj → Prop) : Prop :=
  ∀ {F : Fz} {L : Addr} {ρ : Loc} {σ : St} {A : Around} {s : Shared} {E : Value → Shared → Prop} {K : Value → Shared → Prop} {v' : Value}, A.handled = none → Rep F L ρ σ s.heap → side σ → VR F v v' →
    (∀ ita h' tk o, (∀ b o, s.heap.get? b = some o → h'.get? b = some o) → s.heap.objs.size ≤ ita → h'.get? ita = some o → st 0 o → K (.ref ita) { s with heap := h', toks := tk }) → wpAny (model C.prog C.w) A (pyIter v') K E s

/-- an iterable that is made, then its iterator: a new object, hidden -/
noncomputable def WIt (C : Cx) (n : Nat) (env : Env) (iter : Expr) (ρ : Loc) (σ : St) (st : Nat → Obj → Prop) (P : St → Prop) : Prop :=
  ∀ F, C.B.Le F → ∀ (A : Around) (s : Shared) (E : Value → Shared → Prop) (K : Value → Shared → Prop), Room n A → Rep F env.locals ρ σ s.heap →
    (∀ ita σ₁ F₁ h' tk o, P σ₁ → F.Le F₁ → Rep F₁ env.locals ρ σ₁ h' → h'.get? ita = some o → st 0 o → σ₁ ita = none → F₁ ita = none → ita ≠ env.locals → K (.ref ita) { s with heap := h', toks := tk }) →
    wpAny (model C.prog C.w) A (eval iter env) (fun x s₁ => wpAny (model C.prog C.w) A (pyIter x) K E s₁) E s
section
variable {C : Cx} {n : Nat} {env : Env} {ρ : Loc} {σ : St}
theorem WIt_of {iter : Expr} {side : St → Prop} {st : Nat → Obj → Prop} {P : St → Prop} (h : WE C n env iter ρ σ (fun v σ₁ => MkIter C v side st ∧ side σ₁ ∧ P σ₁)) : WIt C n env iter ρ σ st P := by
  intro F hB A s E K hr hR hK
  refine h F hB A s E _ hr hR ?_
  rintro v v' ρ₁ σ₁ F₁ h₁ tk₁ ⟨rfl, hmk, hside, hP⟩ hle₁ R₁ vv
  refine hmk hr.2.2 R₁ hside vv ?_
  intro ita h₂ tk₂ o hk₂ hnew ho hst
  refine hK ita σ₁ F₁ h₂ tk₂ o hP hle₁ (R₁.grow hk₂) ho hst ?_ ?_ (ne_gt R₁.ltL hnew)
  · cases e : σ₁ ita with
    | none => rfl
    | some p => exact absurd rfl (ne_lt (R₁.lt e) hnew)
  · cases e : F₁ ita with
    | none => rfl
    | some ob => exact absurd rfl (ne_lt (Heap.lt_size (R₁.fz ita ob e).1) hnew)
/-- a for by an invariant -/
theorem WS_For {target iter : Expr} {body : List Stmt} {pos : Pos} {Q : PF → Loc → St → Prop} {items : List PV} {side : St → Prop} {st : Nat → Obj → Prop} (I : Nat → Loc → St → Prop) (ρi : Loc)
    (hfold : ∀ x, foldedSetIterable iter env x = pure x) (hown : ∀ it v, letOwnedTupleGo target it v = pure ())
    (ok : ItOk C items side st)
    (hsub : LSub ρi ρ) (h : WIt C n env iter ρ σ st (fun σ₁ => I 0 ρi σ₁))
    (turn : ∀ i p ρ σ, items[i]? = some p → I i ρ σ → side σ ∧ WAsg C n env target p ρ σ (fun ρ₂ σ₂ => WSs C n env body ρ₂ σ₂ (fun f ρ₃ σ₃ => match f with
      | .next => ∃ ρ₀ σ₀, LSub ρ₀ ρ₃ ∧ SubS σ₀ σ₃ ∧ I (i + 1) ρ₀ σ₀
      | .cont => ∃ ρ₀ σ₀, LSub ρ₀ ρ₃ ∧ SubS σ₀ σ₃ ∧ I (i + 1) ρ₀ σ₀
      | .brk => Q .next ρ₃ σ₃
      | .ret v => Q (.ret v) ρ₃ σ₃)))
    (fin : ∀ ρ σ, I items.length ρ σ → side σ ∧ Q .next ρ σ) : WS C n env (.For target iter body [] pos) ρ σ Q := by
  intro F hB A s E K hr hR hK
  refine wpAny_For (h F hB A s E _ hr hR ?_) hfold
  intro ita σ₁ F₁ h₂ tk₂ o hI hle₁ R₁ ho hst hsi hFi hLi
  have R₂ := R₁.less hsub (.refl σ₁)
  refine codeAny_forLoop (fun k s' => ∃ i ρ' σ' F' h' tk o, k = items.length - i ∧ i ≤ items.length ∧ I i ρ' σ' ∧ F.Le F' ∧ Rep F' env.locals ρ' σ' h' ∧ h'.get? ita = some o ∧ st i o ∧ σ' ita = none ∧ F' ita = none ∧ s' = { s with heap := h', toks := tk }) ?_
    items.length ⟨0, ρi, σ₁, F₁, h₂, tk₂, o, by simp, Nat.zero_le _, hI, hle₁, R₂, ho, hst, hsi, hFi, rfl⟩ (hown (.ref ita))
  intro k s' hi1
  refine held fun hn1 => ?_
  obtain ⟨i, ρ', σ', F', h', tk', o', rfl, hi, hI', hle', R', ho', hst', hsi', hFi', rfl⟩ := hi1
  refine hn1 ?_
  cases hp : items[i]? with
  | none =>
    have hii : i = items.length := by have := List.getElem?_eq_none_iff.mp hp; omega
    subst hii
    obtain ⟨hsd, hq⟩ := fin ρ' σ' hI'
    refine ok.fin (s := { s with heap := h', toks := tk' }) hp hr.2.2 R' hsd ho' hst' fun h₃ tk₃ hx => ?_
    exact wpAny_execs_nil (hK .next .next ρ' σ' F' h₃ tk₃ hq hle' (R'.other hx hFi' hsi' hLi) rfl)
  | some p =>
    obtain ⟨hsd, hq⟩ := turn i p ρ' σ' hp hI'
    refine ok.next (s := { s with heap := h', toks := tk' }) hp hr.2.2 R' hsd ho' hst' fun w' h₃ tk₃ o₃ hs₃ ho₃ hst₃ hv₃ => ?_
    have R₃ := R'.other hs₃.extBut hFi' hsi' hLi
    obtain ⟨le₄, R₄⟩ := R₃.hide ho₃ hsi' hFi' hLi
    have idl := ok.idle _ _ hst₃
    refine hq (F'.add ita o₃) w' (hB.trans (hle'.trans le₄)) (hv₃.mono le₄) A _ _ _ hr R₄ ?_
    intro _ _ ρ₅ σ₅ F₅ h₅ tk₅ hq₅ hle₅ R₅ _
    refine hq₅ F₅ (hB.trans (hle'.trans (le₄.trans hle₅))) A _ _ _ hr R₅ ?_
    intro f f' ρ₆ σ₆ F₆ h₆ tk₆ hq₆ hle₆ R₆ vf
    refine held fun hn2 => ?_
    obtain ⟨le₇, R₇, ho₇, hs₇, _, hF₇, hF₈⟩ := R₆.unhide idl hFi' (hle₅.trans hle₆)
    refine hn2 ?_
    have hlt : i < items.length := (List.getElem?_eq_some_iff.mp hp).1
    have le := hle'.trans le₇
    have go : ∀ ρ₀ σ₀, LSub ρ₀ ρ₆ → SubS σ₀ σ₆ → I (i + 1) ρ₀ σ₀ → ∃ m, m < items.length - i ∧ ∃ i ρ' σ' F' h' tk o, m = items.length - i ∧ i ≤ items.length ∧ I i ρ' σ' ∧ F.Le F' ∧ Rep F' env.locals ρ' σ' h' ∧ h'.get? ita = some o ∧ st i o ∧ σ' ita = none ∧ F' ita = none ∧ ({ s with heap := h₆, toks := tk₆ } : Shared) = { s with heap := h', toks := tk } := by
      intro ρ₀ σ₀ s1 s2 hI₇
      refine ⟨items.length - (i + 1), by omega, i + 1, ρ₀, σ₀, _, h₆, tk₆, o₃, rfl, hlt, hI₇, le, R₇.less s1 s2, ho₇, hst₃, ?_, hF₈, rfl⟩
      cases q : σ₀ ita with
      | none => rfl
      | some p => rw [s2 _ _ q] at hs₇; cases hs₇
    cases f with
    | next => cases vf; obtain ⟨ρ₀, σ₀, s1, s2, hI₇⟩ := hq₆; exact go ρ₀ σ₀ s1 s2 hI₇
    | cont => cases vf; obtain ⟨ρ₀, σ₀, s1, s2, hI₇⟩ := hq₆; exact go ρ₀ σ₀ s1 s2 hI₇
    | brk => cases vf; exact hK .next .next ρ₆ σ₆ _ h₆ tk₆ hq₆ le R₇ rfl
    | ret v => obtain ⟨v', rfl, r⟩ := vf; exact hK (.ret v) _ ρ₆ σ₆ _ h₆ tk₆ hq₆ le R₇ ⟨v', rfl, r.sub hF₇ idl⟩
end

/-! ### ranges -/
noncomputable def rangeSt (x left step : Int) (i : Nat) (o : Obj) : Prop := o = { cls := .type "range_iterator", dict := none, data := .fields #[rawInt (x + i * step), rawInt (left - i), rawInt step], slots := #[] }
theorem rangeSt_idle {x left step : Int} (i : Nat) (o : Obj) (h : rangeSt x left step i o) : Idle o := by
  subst h
  exact ⟨fun _ _ z => (nomatch z), fun _ _ _ z => (nomatch z), fun _ z => (nomatch z), fun vs z => by
    cases z
    refine ⟨fun z => ?_, fun q t e => ?_⟩
    · injection z with z
      exact absurd z (by decide)
    · simp [rawInt] at e⟩
noncomputable def rangeItems (x : Int) (m : Nat) (step : Int) : List PV := (List.range m).map fun (i : Nat) => PV.int (x + (i : Int) * step)
theorem rangeItems_get {x step : Int} {m i : Nat} {p : PV} (h : (rangeItems x m step)[i]? = some p) : i < m ∧ p = .int (x + i * step) := by
  unfold rangeItems at h
  rw [List.getElem?_map] at h
  cases e : (List.range m)[i]? with
  | none => rw [e] at h; cases h
  | some j =>
    rw [e] at h
    obtain ⟨hlt, hj⟩ := List.getElem?_eq_some_iff.mp e
    simp at hlt hj h
    subst hj
    exact ⟨hlt, h.symm⟩
theorem rangeOk (C : Cx) (x : Int) (m : Nat) (step : Int) : ItOk C (rangeItems x m step) (fun _ => True) (rangeSt x m step) where
  idle := rangeSt_idle
  next := by
    intro i p F L ρ σ A s E K ita o hp hA hR _ ho hst hK
    obtain ⟨hlt, rfl⟩ := rangeItems_get hp
    subst hst
    refine wpAny_pyNext_range_item (x := x + i * step) (left := (m : Int) - i) (step := step) ho (by omega) fun h' hit hs => ?_
    refine hK _ h' _ _ hs hit ?_ ⟨_, rfl⟩
    unfold rangeSt
    have e1 : x + (i : Int) * step + step = x + ((i + 1 : Nat) : Int) * step := by
      rw [Int.natCast_add, Int.add_mul]; simp; omega
    have e2 : (m : Int) - (i : Int) - 1 = (m : Int) - ((i + 1 : Nat) : Int) := by omega
    rw [e1, e2]
  fin := by
    intro i F L ρ σ A s E K ita o hp hA hR _ ho hst hK
    subst hst
    have : m ≤ i := by
      have := List.getElem?_eq_none_iff.mp hp
      simpa [rangeItems] using this
    exact wpAny_pyNext_range_end (x := x + i * step) (left := (m : Int) - i) (step := step) hA ho (by omega) fun h' hx => hK h' _ hx
  again := by
    intro i A s E K ita o ho hst hK
    subst hst
    exact wpAny_pyIter_rangeiter ho (hK s.toks)
end Mine

namespace Mine
/-! ## Layer 2d: built-ins -/
theorem eqBool_int {prog : Program} {w : World} {A : Around} {E : Value → Shared → Prop} {s : Shared} {a b : Int} {t u : Tok} {Q : Bool → Shared → Prop} (h : Q (a == b) s) : wpAny (model prog w) A (eqBool (.int a t) (.int b u)) Q E s := PySem.SeqAt.EqAt.int_int a t b u prog w E Q h
theorem rich_lt_int {prog : Program} {w : World} {A : Around} {E : Value → Shared → Prop} {s : Shared} {a b : Int} {t u : Tok} {Q : Value → Shared → Prop} (h : Q (.bool (decide (a < b))) s) : wpAny (model prog w) A (richCompare .Lt (.int a t) (.int b u)) Q E s := wpAny_lt_int h
set_option maxHeartbeats 4000000 in
theorem tuple_lt_pairs (l b : Addr) (x1 x2 y1 y2 : Int) (t1 t2 u1 u2 : Tok) (n n2 : Nat) (dd dd2 : Option Addr) (sl sl2 : Array (Option Value)) :
    Meets (Builtin.«tuple.__lt__» ⟨[.ref l, .ref b], []⟩)
      (fun _ R s => s.heap.get? l = some { cls := .type "tuple", dict := dd, data := .seq #[.int x1 t1, .int x2 t2] n, slots := sl } ∧ s.heap.get? b = some { cls := .type "tuple", dict := dd2, data := .seq #[.int y1 u1, .int y2 u2] n2, slots := sl2 } ∧
        R (.ok (.ret (.bool (decide (x1 < y1 ∨ x1 = y1 ∧ x2 < y2))))) s) :=
  .of_wp fun prog w A R s h => by
    obtain ⟨hp, g, d, tk, os⟩ := s; obtain ⟨hl, hb, h⟩ := h
    have f2 := AutoSeq1.sub_tuple_tuple
    wp_walk using wpAny_loadPart' hl, wpAny_loadPart' hb
    refine eqBool_int ?_
    by_cases e1 : x1 = y1
    · subst e1
      have q : (x1 == x1) = true := by simp
      rw [q]
      by_cases e2 : x2 = y2
      · subst e2
        have q2 : (x2 == x2) = true := by simp
        wp_walk using eqBool_int
        refine ⟨_, rfl, ?_⟩
        simpa [Builtin.Tuple.tupleCompareSizes] using h
      · have q2 : (x2 == y2) = false := by simpa using e2
        wp_walk using eqBool_int, rich_lt_int
        refine ⟨_, rfl, ?_⟩
        simpa using h
    · have q : (x1 == y1) = false := by simpa using e1
      rw [q]
      wp_walk using rich_lt_int
      refine ⟨_, rfl, ?_⟩
      simpa [e1] using h
section
variable {C : Cx} {n : Nat} {env : Env} {ρ : Loc} {σ : St}
theorem Room.units {A : Around} (h : Room n A) : A.units < cLine := by have := h.2.1; (first | lia | omega)
theorem WCmp_lt_pair {x1 x2 y1 y2 : Int} {Q : PV → St → Prop} (h : Q (.bool (decide (x1 < y1 ∨ x1 = y1 ∧ x2 < y2))) σ) : WCmp C n .Lt (.pair x1 x2) (.pair y1 y2) σ Q := by
  rintro F L ρ _ _ hB ⟨a, t1, t2, o1, rfl, e1, c1, k1, d1⟩ ⟨b, u1, u2, o2, rfl, e2, c2, k2, d2⟩ A s E K hr hR hK
  obtain ⟨cl1, dd1, da1, sl1⟩ := o1
  obtain ⟨cl2, dd2, da2, sl2⟩ := o2
  simp only at c1 d1 c2 d2
  subst c1 d1 c2 d2
  have ho1 := (hR.fz _ _ e1).1
  have ho2 := (hR.fz _ _ e2).1
  exact richCompare_meets_room (op := .Lt) ⟨_, ho1, rfl⟩ ⟨_, ho2, rfl⟩ PySem.F.slot_tuple_lt PySem.F.entry_tuple_lt (PySem.F.args_tuple_lt_2 _ _) (tuple_lt_pairs a b x1 x2 y1 y2 t1 t2 u1 u2 k1 k2 dd1 dd2 sl1 sl2)
    ⟨ho1, ho2, (fun z => nomatch z), hK _ _ ρ σ F s.heap s.toks ⟨rfl, h⟩ (.refl F) hR rfl⟩ hr.units

theorem WE_List {es : List Expr} {pos : Pos} {Q : PV → St → Prop} (h : WEs C n env es ρ σ (fun vs σ₁ => vs.length ≤ 16777216 ∧ ∀ a, σ₁ a = none → Q (.ref a) (σ₁.set a (.list vs)))) : WE C n env (.List es pos) ρ σ Q := by
  intro F hB A s E K hr hR hK
  refine wpAny_List (h F pos hB A s E _ hr hR ?_)
  rintro vs vs' ρ₁ σ₁ F₁ h₁ tk₁ ⟨rfl, hz, hq⟩ hle₁ R₁ vv
  refine ⟨by rw [← vv.length]; exact hz, ?_⟩
  exact hK _ _ ρ₁ _ F₁ _ tk₁ ⟨rfl, hq _ R₁.fresh⟩ hle₁ (R₁.alloc (o := listOf vs'.toArray 0) ⟨_, _, rfl, vv⟩ rfl) rfl
theorem WE_Pair {es : List Expr} {k : Nat} {pos : Pos} {Q : PV → St → Prop} (h : WEs C n env es ρ σ (fun vs σ₁ => ∃ x y, vs = [.int x, .int y] ∧ Q (.pair x y) σ₁)) : WE C n env (.Tuple es k pos) ρ σ Q := by
  intro F hB A s E K hr hR hK
  refine wpAny_Tuple (h F pos hB A s E _ hr hR ?_)
  rintro vs vs' ρ₁ σ₁ F₁ h₁ tk₁ ⟨rfl, x, y, rfl, hq⟩ hle₁ R₁ vv
  cases vv with
  | cons r1 vv =>
    cases vv with
    | cons r2 vv =>
      cases vv
      obtain ⟨t, rfl⟩ := r1
      obtain ⟨u, rfl⟩ := r2
      refine ⟨by simp [sizeLine], ?_⟩
      have hf := R₁.freshF
      exact hK _ _ ρ₁ _ (F₁.add h₁.objs.size { cls := .type "tuple", data := .seq [Value.int x t, Value.int y u].toArray }) _ tk₁ ⟨rfl, hq⟩ (hle₁.trans (Fz.add_le hf)) (R₁.freeze rfl) ⟨_, t, u, _, rfl, Fz.add_same .., rfl, _, rfl⟩
/-- len -/
theorem WCall_len {a : Addr} {xs : List PV} {Q : PV → St → Prop} (e : σ a = some (.list xs)) (hz : xs.length ≤ 16777216) (h : Q (.int xs.length) σ) : WCall C n (.imm (.builtin "len")) [.ref a] σ Q := by
  rintro F L ρ _ _ hB rfl hv A s E K hr hR hK
  cases hv with
  | cons r vv =>
    cases vv
    cases r
    obtain ⟨vs, m, ho, rr, hs⟩ := hR.list e
    refine Calls.call_len_list (IsL.isList (n := m) ho) (by (first | lia | omega)) ?_
    rw [hs]
    exact hK _ _ ρ σ F s.heap _ ⟨rfl, h⟩ (.refl F) hR ⟨_, rfl⟩
theorem WCall_append {a : Addr} {xs : List PV} {v : PV} {Q : PV → St → Prop} (e : σ a = some (.list xs)) (hz : xs.length ≤ 16777216) (h : Q .none (σ.set a (.list (xs ++ [v])))) : WCall C n (.imm (.builtin "list.append")) [.ref a, v] σ Q := by
  rintro F L ρ _ _ hB rfl hv A s E K hr hR hK
  cases hv with
  | cons r vv =>
    cases vv with
    | cons r2 vv =>
      cases vv
      cases r
      obtain ⟨vs, m, ho, rr, hs⟩ := hR.list e
      refine append_at ho (fun h' hsb ho' => ?_) (by rw [hs]; exact hz)
      refine hK .none _ ρ _ F h' s.toks ⟨rfl, h⟩ (.refl F) (hR.upd e hsb ho' ⟨_, _, rfl, ?_⟩) rfl
      have q := rr.append (.cons r2 .nil)
      simpa using q
theorem WCall_pop {a : Addr} {xs : List PV} {v : PV} {Q : PV → St → Prop} (e : σ a = some (.list (xs ++ [v]))) (hz : xs.length < 16777216) (h : Q v (σ.set a (.list xs))) : WCall C n (.imm (.builtin "list.pop")) [.ref a] σ Q := by
  rintro F L ρ _ _ hB rfl hv A s E K hr hR hK
  cases hv with
  | cons r vv =>
    cases vv
    cases r
    obtain ⟨vs, m, ho, rr, hs⟩ := hR.list e
    have hs' : vs.size = xs.length + 1 := by simpa using hs
    obtain ⟨v', ev, rv⟩ := rr.get (i := xs.length) (p := v) (by simp)
    have ev' : vs[vs.size - 1]? = some v' := by
      have : vs.size - 1 = xs.length := by (first | lia | omega)
      rw [this]; simpa using ev
    have hu := IsL.update ho (fun z => z.eraseIdxIfInBounds (vs.size - 1))
    refine call_meets PySem.F.slot_list_pop ⟨_, ho, rfl⟩ PySem.F.entry_list_pop (PySem.F.args_list_pop_1 _) (PySem.MeetsSeq.list_pop_last a _ m v' ev' (by rw [hs']; exact hz)) ⟨ho, ?_⟩
    refine hK v v' ρ _ F _ s.toks ⟨rfl, h⟩ (.refl F) (hR.upd e (Heap.SameBut.update ..) hu ⟨_, _, rfl, ?_⟩) rv
    have q := rr.take xs.length
    rw [List.take_left' rfl] at q
    have : (vs.eraseIdxIfInBounds (vs.size - 1)).toList = vs.toList.take xs.length := by
      have hlt : vs.size - 1 < vs.size := by (first | lia | omega)
      unfold Array.eraseIdxIfInBounds
      rw [dif_pos hlt, Array.toList_eraseIdx]
      have e2 : vs.size - 1 = xs.length := by (first | lia | omega)
      rw [e2]
      have hl : vs.toList.length = xs.length + 1 := by simpa using hs'
      rw [List.eraseIdx_eq_take_drop_succ, List.drop_of_length_le (by (first | lia | omega)), List.append_nil]
    rw [this]; exact q
/-- o.name(e) for a list's method -/
theorem WE_lmeth1 {o e : Expr} {name : Str} {apos pos : Pos} {id : String} {Q : PV → St → Prop} (slot : Slot "list" name id) (hty : typeOf (.builtin id) = pure (.type "method_descriptor"))
    (hbase : attributeBase o name env (eval o env) = eval o env) (hline : (apos.endLine == pos.line) = true) (htrees : backTo pos (starEach [e] env) = [(false, eval e env)])
    (h : WE C n env o ρ σ (fun a σ₁ => ∃ l xs, a = .ref l ∧ σ₁ l = some (.list xs) ∧ WE C n env e ρ σ₁ (fun v σ₂ => WCall C n (.imm (.builtin id)) [.ref l, v] σ₂ Q))) : WE C n env (.Call (.Attribute o name apos) [e] [] pos) ρ σ Q := by
  intro F hB A s E K hr hR hK
  refine wpAny_Call_method1_late hbase hline htrees (h F hB A s E _ hr hR ?_)
  rintro a a' ρ₁ σ₁ F₁ h₁ tk₁ ⟨rfl, l, xs, rfl, hl, hq⟩ hle₁ R₁ va
  cases va
  obtain ⟨vs, m, ho, rr, hs⟩ := R₁.list hl
  refine ⟨"list", id, PySem.F.plainAttrs_list, slot, hty, ⟨_, ho, rfl⟩, (fun a e => by cases e; exact ⟨_, ho, rfl⟩), ?_⟩
  refine Calls.callWith_builtin rfl (Calls.evalArgs_plain (Calls.spliced_cons (hq F₁ (hB.trans hle₁) A _ E _ hr R₁ ?_)))
  rintro b b' ρ₂ σ₂ F₂ h₂ tk₂ ⟨rfl, hq2⟩ hle₂ R₂ vb
  refine Calls.spliced_nil ?_
  exact hq2 F₂ _ _ _ _ (hB.trans (hle₁.trans hle₂)) rfl (.cons rfl (.cons vb .nil)) A _ E K hr R₂ (fun v v' ρ₃ σ₃ F₃ h₃ tk₃ q hle₃ R₃ r => hK v v' ρ₃ σ₃ F₃ h₃ tk₃ q (hle₁.trans (hle₂.trans hle₃)) R₃ r)
/-- o.name() for a list's method -/
theorem WE_lmeth0 {o : Expr} {name : Str} {apos pos : Pos} {id : String} {Q : PV → St → Prop} (slot : Slot "list" name id) (hty : typeOf (.builtin id) = pure (.type "method_descriptor"))
    (hbase : attributeBase o name env (eval o env) = eval o env) (hline : (apos.endLine == pos.line) = true)
    (h : WE C n env o ρ σ (fun a σ₁ => ∃ l xs, a = .ref l ∧ σ₁ l = some (.list xs) ∧ WCall C n (.imm (.builtin id)) [.ref l] σ₁ Q)) : WE C n env (.Call (.Attribute o name apos) [] [] pos) ρ σ Q := by
  intro F hB A s E K hr hR hK
  refine wpAny_Call_method0_late hbase hline (h F hB A s E _ hr hR ?_)
  rintro a a' ρ₁ σ₁ F₁ h₁ tk₁ ⟨rfl, l, xs, rfl, hl, hq⟩ hle₁ R₁ va
  cases va
  obtain ⟨vs, m, ho, rr, hs⟩ := R₁.list hl
  refine ⟨"list", id, PySem.F.plainAttrs_list, slot, hty, ⟨_, ho, rfl⟩, (fun a e => by cases e; exact ⟨_, ho, rfl⟩), ?_⟩
  refine Calls.callWith_builtin rfl (PySem.evalArgs_none ?_)
  exact hq F₁ _ _ _ _ (hB.trans hle₁) rfl (.cons rfl .nil) A _ E K hr R₁ (fun v v' ρ₃ σ₃ F₃ h₃ tk₃ q hle₃ R₃ r => hK v v' ρ₃ σ₃ F₃ h₃ tk₃ q (hle₁.trans hle₃) R₃ r)
/-- list + list -/
theorem WBin_addL {a b : Addr} {xs ys : List PV} {Q : PV → St → Prop} (ea : σ a = some (.list xs)) (eb : σ b = some (.list ys)) (hz : xs.length + ys.length ≤ 16777216) (h : ∀ c, σ c = none → Q (.ref c) (σ.set c (.list (xs ++ ys)))) :
    WBin C n .Add (.ref a) (.ref b) σ Q := by
  rintro F L ρ _ _ hB rfl rfl A s E K hr hR hK
  obtain ⟨vs, m, ho, rr, hs⟩ := hR.list ea
  obtain ⟨ws, m2, ho2, rr2, hs2⟩ := hR.list eb
  refine concat_meets ⟨_, ho, rfl⟩ ⟨_, ho2, rfl⟩ noFill_list_add seq_list_add PySem.F.slot_list_add PySem.F.entry_list_add (PySem.F.args_list_add_2 _ _) (list_addW a b vs ws m m2 none none #[] #[] (by show _ ≤ 16777216; (first | lia | omega))) ⟨ho, ho2, ?_⟩
  refine hK _ _ ρ _ F _ _ ⟨rfl, h _ hR.fresh⟩ (.refl F) (hR.alloc (o := listOf (vs ++ ws) 0) ⟨_, _, rfl, ?_⟩ rfl) rfl
  simpa using rr.append rr2
/-- [x] * k -/
theorem WBin_mulL {a : Addr} {x : PV} {k : Int} {Q : PV → St → Prop} (ea : σ a = some (.list [x])) (h0 : 0 ≤ k) (hz : k ≤ 16777216) (h : ∀ c, σ c = none → Q (.ref c) (σ.set c (.list (List.replicate k.toNat x)))) :
    WBin C n .Mult (.ref a) (.int k) σ Q := by
  rintro F L ρ _ _ hB rfl ⟨u, rfl⟩ A s E K hr hR hK
  obtain ⟨vs, m, ho, rr, hs⟩ := hR.list ea
  have hs1 : vs.size = 1 := by simpa using hs
  refine wpAny_binaryOp_repeat_ref (T := "list") (U := "int") (by decide) ⟨_, ho, rfl⟩ (fun s' => typeIs_int s' k u) noFill_list_mul PySem.F.fills_int_mul PySem.F.slot_int_rmul repeat_list PySem.F.slot_int_index.lookup
    (call_meets PySem.F.slot_int_rmul (typeIs_int s k u) PySem.F.entry_int_rmul (PySem.F.args_int_rmul_2 _ _) (int___rmul___int_list k u a vs m)
      ⟨ho, rfl, ⟨_, ho, rfl⟩, call_meets PySem.F.slot_list_mul ⟨_, ho, rfl⟩ PySem.F.entry_list_mul (PySem.F.args_list_mul_2 _ _)
        (AutoListH.list___mul___list_int_3 a vs m k u (by simp [Builtin.List.listFitsIndex]; (first | lia | omega)) (by rw [hs1]; (first | lia | omega)) (by simp [Builtin.List.listTooLong, sizeLine, hs1]; (first | lia | omega))) ⟨ho, ?_⟩⟩)
  refine hK _ _ ρ _ F _ _ ⟨rfl, h _ hR.fresh⟩ (.refl F) (hR.alloc (o := listOf _ 0) ⟨_, _, rfl, ?_⟩ rfl) rfl
  obtain ⟨l⟩ := vs
  cases rr with
  | cons r1 rr =>
    cases rr
    rename_i v
    have e1 : (#[v] : Array Value).isEmpty = false := by simp
    have gen : ∀ (j : Nat) (acc : Array Value) (accP : List PV), VRs F accP acc.toList → VRs F (accP ++ List.replicate j x) (List.foldl (fun x1 x2 => x1 ++ x2) acc (List.replicate j #[v])).toList := by
      intro j
      induction j with
      | zero => intro acc accP hh; simpa using hh
      | succ j ih =>
        intro acc accP hh
        rw [List.replicate_succ, List.replicate_succ, List.foldl_cons]
        have := ih (acc ++ #[v]) (accP ++ [x]) (by simpa using hh.append (.cons r1 .nil))
        simpa using this
    have := gen k.toNat #[] [] .nil
    simpa [e1] using this
end
end Mine

namespace Mine
/-! ## Layer 2e: iterators of lists and bytes, comprehensions -/
theorem idle_fields {o : Obj} {vs : Array Value} (hd : o.data = .fields vs) (hc : o.cls ≠ .type "range") (hv : ∀ q t, vs[1]? ≠ some (.str q t)) : Idle o where
  seq _ _ z := by rw [hd] at z; cases z
  set _ _ _ z := by rw [hd] at z; cases z
  func _ z := by rw [hd] at z; cases z
  fields _ z := by rw [hd] at z; cases z; exact ⟨hc, hv⟩
theorem idle_list {o : Obj} {vs : Array Value} {m : Nat} (hd : o.data = .seq vs m) (hc : o.cls = .type "list") : Idle o where
  seq _ _ _ := by rw [hc]; intro z; injection z with z; exact absurd z (by decide)
  set _ _ _ z := by rw [hd] at z; cases z
  func _ z := by rw [hd] at z; cases z
  fields _ z := by rw [hd] at z; cases z
noncomputable def listSt (l : Addr) (i : Nat) (o : Obj) : Prop := o.cls = .type "list_iterator" ∧ o.data = .fields #[.ref l, .int i 0]
theorem listOk (C : Cx) (l : Addr) (xs : List PV) : ItOk C xs (fun σ => σ l = some (.list xs)) (listSt l) where
  idle i o h := idle_fields h.2 (by rw [h.1]; intro z; injection z with z; exact absurd z (by decide)) (by intro q t e; simp at e)
  next := by
    intro i p F L ρ σ A s E K ita o hp hA hR hside ho hst hK
    refine held fun hn1 => ?_
    obtain ⟨vs, m, hl, rr, hs⟩ := hR.list hside
    refine hn1 ?_
    refine held fun hn2 => ?_
    obtain ⟨v', ev, rv⟩ := rr.get hp
    refine hn2 ?_
    refine wpAny_pyNext_list_item ⟨o, ho, hst.1, hst.2⟩ (IsL.isList (n := m) hl) (by simpa using ev) fun h' hit hsb => ?_
    refine held fun hn3 => ?_
    obtain ⟨o', ho', hc', hd'⟩ := hit
    refine hn3 ?_
    exact hK v' h' s.toks o' hsb ho' ⟨hc', hd'⟩ rv
  fin := by
    intro i F L ρ σ A s E K ita o hp hA hR hside ho hst hK
    refine held fun hn4 => ?_
    obtain ⟨vs, m, hl, rr, hs⟩ := hR.list hside
    refine hn4 ?_
    refine wpAny_pyNext_list_end hA ⟨o, ho, hst.1, hst.2⟩ (IsL.isList (n := m) hl) (by simpa using rr.none hp) fun h' hx => hK h' s.toks hx
  again := by
    intro i A s E K ita o ho hst hK
    exact wpAny_pyIter_listiter ⟨o, ho, hst.1, hst.2⟩ (hK s.toks)
theorem listMk (C : Cx) (l : Addr) (xs : List PV) : MkIter C (.ref l) (fun σ => σ l = some (.list xs)) (listSt l) := by
  intro F L ρ σ A s E K v' hA hR hside hv hK
  cases hv
  refine held fun hn5 => ?_
  obtain ⟨vs, m, hl, rr, hs⟩ := hR.list hside
  refine hn5 ?_
  refine wpAny_pyIter_list (IsL.isList (n := m) hl) ?_
  exact hK _ _ s.toks _ (fun b o e => Heap.get?_push_of_some _ e) (Nat.le_refl _) (Heap.get?_push_size _ rfl) ⟨rfl, rfl⟩
noncomputable def bytesSt (b : Array UInt8) (i : Nat) (o : Obj) : Prop := ∃ t, o.cls = .type "bytes_iterator" ∧ o.data = .fields #[.bytes b t, .int i 0]
noncomputable def bytesItems (b : Array UInt8) : List PV := b.toList.map fun c => .int (c.toNat : Int)
theorem bytesOk (C : Cx) (b : Array UInt8) : ItOk C (bytesItems b) (fun _ => True) (bytesSt b) where
  idle i o h := by
    refine held fun hn6 => ?_
    obtain ⟨t, hc, hd⟩ := h
    refine hn6 ?_
    exact idle_fields hd (by rw [hc]; intro z; injection z with z; exact absurd z (by decide)) (by intro q t e; simp at e)
  next := by
    intro i p F L ρ σ A s E K ita o hp hA hR hside ho hst hK
    refine held fun hn7 => ?_
    obtain ⟨t, hc, hd⟩ := hst
    refine hn7 ?_
    unfold bytesItems at hp
    rw [List.getElem?_map] at hp
    cases e : b.toList[i]? with
    | none => rw [e] at hp; cases hp
    | some c =>
      rw [e] at hp; cases hp
      refine KBw.next_item (b := b) (t := t) ⟨o, ho, hc, hd⟩ (by simpa using e) fun h' hit hsb => ?_
      refine held fun hn8 => ?_
      obtain ⟨o', ho', hc', hd'⟩ := hit
      refine hn8 ?_
      exact hK _ h' _ o' hsb ho' ⟨t, hc', hd'⟩ ⟨_, rfl⟩
  fin := by
    intro i F L ρ σ A s E K ita o hp hA hR hside ho hst hK
    refine held fun hn9 => ?_
    obtain ⟨t, hc, hd⟩ := hst
    refine hn9 ?_
    have : b[i]? = none := by
      rw [List.getElem?_eq_none_iff] at hp
      simp [bytesItems] at hp
      simpa using hp
    exact KBw.next_end (b := b) (t := t) hA ⟨o, ho, hc, hd⟩ this fun h' hx => hK h' s.toks hx
  again := by
    intro i A s E K ita o ho hst hK
    refine held fun hn10 => ?_
    obtain ⟨t, hc, hd⟩ := hst
    refine hn10 ?_
    exact KBw.pyIter_self (b := b) (t := t) ⟨o, ho, hc, hd⟩ (hK s.toks)
theorem bytesMk (C : Cx) (b : Array UInt8) : MkIter C (.bytes b) (fun _ => True) (bytesSt b) := by
  intro F L ρ σ A s E K v' hA hR hside hv hK
  obtain ⟨t, rfl⟩ := hv
  refine KBw.pyIter_bytes ?_
  exact hK _ _ s.toks _ (fun b o e => Heap.get?_push_of_some _ e) (Nat.le_refl _) (Heap.get?_push_size _ rfl) ⟨t, rfl, rfl⟩
theorem rangeSize_one {a b : Int} : Builtin.Range.rangeSize a b 1 = if a < b then b - a else 0 := by
  unfold Builtin.Range.rangeSize
  by_cases h : a < b
  · simp [h]
  · simp [h]
theorem rngMk (C : Cx) {lo hi : Int} (hlo : -(2 ^ 60) ≤ lo) (hhi : hi ≤ 2 ^ 60) (hlo' : lo ≤ 2 ^ 60) (hhi' : -(2 ^ 60) ≤ hi) : MkIter C (.rng lo hi) (fun _ => True) (rangeSt lo (hi - lo).toNat 1) := by
  intro F L ρ σ A s E K v' hA hR hside hv hK
  refine held fun hn11 => ?_
  obtain ⟨a, t, u, w, rfl, ha⟩ := hv
  refine hn11 ?_
  have ho := (hR.fz _ _ ha).1
  have hsz : Builtin.Range.rangeSize lo hi 1 = ((hi - lo).toNat : Int) := by rw [rangeSize_one]; split <;> (first | lia | omega)
  have hb : ((hi - lo).toNat : Int) ≤ 2 ^ 63 - 1 := by (first | lia | omega)
  have hb0 : (0 : Int) ≤ ((hi - lo).toNat : Int) := by (first | lia | omega)
  refine wpAny_pyIter_range (r := a) (a := lo) (b := hi) (c := 1) (t := t) (u := u) (v := w) ho ?_ ?_
  · unfold Builtin.Range.small
    rw [hsz]
    generalize ((hi - lo).toNat : Int) = z at hb hb0
    simp [Builtin.Range.rangeFitsLong]
    (first | lia | omega)
  · rw [hsz]
    refine hK _ _ s.toks _ (fun b o e => Heap.get?_push_of_some _ e) (Nat.le_refl _) (Heap.get?_push_size _ rfl) ?_
    unfold rangeSt; simp
section
variable {C : Cx} {n : Nat} {env : Env} {ρ : Loc} {σ : St}
theorem WCall_range1 {k : Int} {Q : PV → St → Prop} (h : Q (.rng 0 k) σ) : WCall C n (.imm (.type "range")) [.int k] σ Q := by
  rintro F L ρ _ _ hB rfl hv A s E K hr hR hK
  cases hv with
  | cons r vv =>
    cases vv
    obtain ⟨t, rfl⟩ := r
    refine call_range_1 ?_
    exact hK _ _ ρ σ (F.add s.heap.objs.size _) _ _ ⟨rfl, h⟩ (Fz.add_le hR.freshF) (hR.freeze rfl) ⟨_, _, _, _, rfl, Fz.add_same ..⟩
theorem WCall_range2 {j k : Int} {Q : PV → St → Prop} (h : Q (.rng j k) σ) : WCall C n (.imm (.type "range")) [.int j, .int k] σ Q := by
  rintro F L ρ _ _ hB rfl hv A s E K hr hR hK
  cases hv with
  | cons r vv =>
    cases vv with
    | cons r2 vv =>
      cases vv
      obtain ⟨t, rfl⟩ := r
      obtain ⟨u, rfl⟩ := r2
      refine call_range_2 ?_
      exact hK _ _ ρ σ (F.add s.heap.objs.size _) _ _ ⟨rfl, h⟩ (Fz.add_le hR.freshF) (hR.freeze rfl) ⟨_, _, _, _, rfl, Fz.add_same ..⟩
end

/-! ### comprehensions: the list that grows is hidden -/
structure Acc (F : Fz) (L : Addr) (σ : St) (h : Heap) (la : Addr) (acc : List PV) : Prop where
  own : σ la = none
  fz : F la = none
  ne : la ≠ L
  at' : ∃ vs m, h.get? la = some (listOf vs m) ∧ VRs F acc vs.toList
theorem compLoop_last {C : Cx} {n : Nat} {e : Expr} {d : Nat} {p : Pos} {elt target : Expr} {cenv : Env} {items : List PV} {side : St → Prop} {st : Nat → Obj → Prop} (I : Nat → List PV → Loc → St → Prop)
    (hfr : ∀ it acc, (Code.compLoop e d it acc cenv).isFrame = false ∧ (Code.compLoop e d it acc cenv).weight = 0 ∧ (Code.compLoop e d it acc cenv).cUnits = 0)
    (hturn : ∀ it acc, compTurn e d it acc cenv = (standAt p >>= fun _ => pyNext it >>= fun r => match r with
      | none => pure (.done .next)
      | some v => letOwnedTupleGo target it v >>= fun _ => assign target cenv v >>= fun _ =>
        (eval elt cenv >>= fun x => call (.builtin "list.append") [acc, x] >>= fun _ => pure ()) >>= fun _ => again (.compLoop e d it acc cenv)))
    (hown : ∀ it v, letOwnedTupleGo target it v = pure ()) (ok : ItOk C items side st)
    (turn : ∀ i q acc ρ σ, items[i]? = some q → I i acc ρ σ → acc.length ≤ 1000000 ∧ side σ ∧ WAsg C n cenv target q ρ σ (fun ρ₂ σ₂ => WE C n cenv elt ρ₂ σ₂ (fun v σ₃ => ∃ ρ₀ σ₀, LSub ρ₀ ρ₂ ∧ SubS σ₀ σ₃ ∧ I (i + 1) (acc ++ [v]) ρ₀ σ₀)))
    (fin : ∀ acc ρ σ, I items.length acc ρ σ → side σ)
    {F : Fz} {A : Around} {s : Shared} {R : Result → Shared → Prop} {ita la : Addr} {o : Obj} {acc : List PV} {ρ : Loc} {σ : St} (hB : C.B.Le F) (hr : Room n A)
    (hI : I 0 acc ρ σ) (hR : Rep F cenv.locals ρ σ s.heap) (ho : s.heap.get? ita = some o) (hst : st 0 o) (hsi : σ ita = none) (hFi : F ita = none) (hLi : ita ≠ cenv.locals) (hne : ita ≠ la)
    (hacc : Acc F cenv.locals σ s.heap la acc)
    (hK : ∀ acc' ρ' σ' F' h' tk, I items.length acc' ρ' σ' → F.Le F' → Rep F' cenv.locals ρ' σ' h' → Acc F' cenv.locals σ' h' la acc' → R (.ok .next) { s with heap := h', toks := tk }) :
    codeAny (model C.prog C.w) A (.compLoop e d (.ref ita) (.ref la) cenv) R s := by
  refine codeAny_loop rfl (fun k s' => ∃ i acc' ρ' σ' F' h' tk o, k = items.length - i ∧ i ≤ items.length ∧ I i acc' ρ' σ' ∧ F.Le F' ∧ Rep F' cenv.locals ρ' σ' h' ∧ h'.get? ita = some o ∧ st i o ∧ σ' ita = none ∧ F' ita = none ∧ Acc F' cenv.locals σ' h' la acc' ∧ s' = { s with heap := h', toks := tk }) ?_
    items.length ⟨0, acc, ρ, σ, F, s.heap, s.toks, o, by simp, Nat.zero_le _, hI, .refl F, hR, ho, hst, hsi, hFi, hacc, rfl⟩
  intro k s' hi12
  refine held fun hn12 => ?_
  obtain ⟨i, acc', ρ', σ', F', h', tk', o', rfl, hi, hI', hle', R', ho', hst', hsi', hFi', hacc', rfl⟩ := hi12
  refine hn12 ?_
  have hfr' : (Code.compLoop e d (.ref ita) (.ref la) cenv).isFrame = false := (hfr _ _).1
  have hden : (model C.prog C.w).den (.compLoop e d (.ref ita) (.ref la) cenv) = (compTurn e d (.ref ita) (.ref la) cenv).onRaise (fun x => do noteFrame x cenv; theTreesLotGoes x) := by
    show denote table (.compLoop e d (.ref ita) (.ref la) cenv) = _
    unfold denote
    simp only [hfr', Bool.false_eq_true, if_false]
  rw [hden]
  have hun : A.under (.compLoop e d (.ref ita) (.ref la) cenv) = A := Around.under_of_weight (hfr _ _).2.1 (hfr _ _).2.2
  rw [hun]
  refine wpAny_noted ?_
  rw [hturn]
  refine wpAny_bind (wpAny_standAt (wpAny_bind ?_))
  cases hp : items[i]? with
  | none =>
    have hii : i = items.length := by have := List.getElem?_eq_none_iff.mp hp; (first | lia | omega)
    subst hii
    refine ok.fin (s := { s with heap := h', toks := tk' }) hp hr.2.2 R' (fin acc' ρ' σ' hI') ho' hst' fun h₃ tk₃ hx => ?_
    refine wpAny_pure ?_
    refine held fun hn13 => ?_
    obtain ⟨a1, a2, a3, vs, m, a4, a5⟩ := hacc'
    refine hn13 ?_
    exact hK acc' ρ' σ' F' h₃ tk₃ hI' hle' (R'.other hx hFi' hsi' hLi) ⟨a1, a2, a3, vs, m, hx _ _ (Ne.symm hne) a4, a5⟩
  | some q =>
    refine held fun hn14 => ?_
    obtain ⟨hz, hsd, hq⟩ := turn i q acc' ρ' σ' hp hI'
    refine hn14 ?_
    refine ok.next (s := { s with heap := h', toks := tk' }) hp hr.2.2 R' hsd ho' hst' fun w' h₃ tk₃ o₃ hs₃ ho₃ hst₃ hv₃ => ?_
    refine wpAny_bind (wpAny_of_eq (hown _ _) ?_)
    refine held fun hn15 => ?_
    obtain ⟨a1, a2, a3, vs, m, a4, a5⟩ := hacc'
    refine hn15 ?_
    have a4' : h₃.get? la = some (listOf vs m) := (hs₃.2 la (Ne.symm hne)).trans a4
    have R₃ := R'.other hs₃.extBut hFi' hsi' hLi
    obtain ⟨le₄, R₄⟩ := R₃.hide ho₃ hsi' hFi' hLi
    have idl := ok.idle _ _ hst₃
    have hFl : (F'.add ita o₃) la = none := by unfold Fz.add; rw [if_neg (Ne.symm hne)]; exact a2
    obtain ⟨le₅, R₅⟩ := R₄.hide a4' a1 hFl a3
    have idl2 : Idle (listOf vs m) := idle_list rfl rfl
    refine wpAny_bind (hq ((F'.add ita o₃).add la (listOf vs m)) w' (hB.trans (hle'.trans (le₄.trans le₅))) (hv₃.mono (le₄.trans le₅)) A _ _ _ hr R₅ ?_)
    intro _ _ ρ₆ σ₆ F₆ h₆ tk₆ hq₆ hle₆ R₆ _
    refine wpAny_bind (wpAny_bind (hq₆ F₆ (hB.trans (hle'.trans (le₄.trans (le₅.trans hle₆)))) A _ _ _ hr R₆ ?_))
    rintro v v' ρ₇ σ₇ F₇ h₇ tk₇ ⟨rfl, ρ₀, σ₀, s1, s2, hI₇⟩ hle₇ R₇ vv
    refine held fun hn16 => ?_
    obtain ⟨le₈, R₈, b1, b2, b3, b4, b5⟩ := R₇.unhide idl2 hFl (hle₆.trans hle₇)
    refine hn16 ?_
    refine held fun hn17 => ?_
    obtain ⟨le₉, R₉, c1, c2, c3, c4, c5⟩ := R₈.unhide idl hFi' le₈
    refine hn17 ?_
    have vv9 : VR ((F₇.sub la).sub ita) v v' := (vv.sub b4 idl2).sub c4 idl
    have F9la : ((F₇.sub la).sub ita) la = none := by rw [Fz.sub_ne (Ne.symm hne)]; exact b5
    have ls : vs.toList.length ≤ 1000000 := by rw [← a5.length]; exact hz
    refine wpAny_bind (append_at b1 (fun h₉ hsb ho₉ => ?_) (by simp at ls; exact Nat.le_trans ls (by decide)))
    refine wpAny_pure (wpAny_pure ⟨rfl, items.length - (i + 1), ?_, i + 1, acc' ++ [v], ρ₀, σ₀, (F₇.sub la).sub ita, h₉, tk₇, o₃, rfl, ?_, hI₇, hle'.trans le₉, (R₉.other hsb.extBut F9la b2 b3).less s1 s2, ?_, hst₃, ?_, c5, ⟨?_, F9la, b3, _, _, ho₉, ?_⟩, rfl⟩)
    · have := (List.getElem?_eq_some_iff.mp hp).1; (first | lia | omega)
    · exact (List.getElem?_eq_some_iff.mp hp).1
    · exact (hsb.2 ita hne).trans c1
    · cases z : σ₀ ita with
      | none => rfl
      | some p => rw [s2 _ _ z] at c2; cases c2
    · cases z : σ₀ la with
      | none => rfl
      | some p => rw [s2 _ _ z] at b2; cases b2
    · have q5 := (a5.mono le₉).append (.cons vv9 .nil)
      simpa using q5
end Mine

namespace Mine
/-! ## Layer 2f: list comprehensions -/
theorem Rep.adopt {F : Fz} {L la : Addr} {ρ : Loc} {σ : St} {h : Heap} {p : PO} {o : Obj} (R : Rep F L ρ σ h) (ho : h.get? la = some o) (hp : OR F p o) (hF : F la = none) (hL : la ≠ L) : Rep F L ρ (σ.set la p) h where
  fz b ob e := by
    refine held fun hn1 => ?_
    obtain ⟨x, y, z⟩ := R.fz b ob e
    refine hn1 ?_
    have hb : b ≠ la := fun q => by rw [q, hF] at e; cases e
    exact ⟨x, by rw [St.set_ne hb]; exact y, z⟩
  st b q e := by
    by_cases hb : b = la
    · subst hb
      rw [St.set_same] at e; cases e
      exact ⟨hL, o, ho, hp⟩
    · rw [St.set_ne hb] at e; exact R.st b q e
  ns := R.ns
theorem Rep.notL {F : Fz} {L : Addr} {ρ : Loc} {σ : St} {h : Heap} (R : Rep F L ρ σ h) : F L = none ∧ σ L = none := by
  refine ⟨?_, ?_⟩
  · cases e : F L with
    | none => rfl
    | some o => exact absurd rfl (R.fz L o e).2.2
  · cases e : σ L with
    | none => rfl
    | some o => exact absurd rfl (R.st L o e).1

/-- a comprehension's loops, from the first iterator on -/
noncomputable def CRun (C : Cx) (n : Nat) (e : Expr) (cenv : Env) (st : Nat → Obj → Prop) (I0 : St → Prop) (P : List PV → St → Prop) : Prop :=
  ∀ {F : Fz} {A : Around} {s : Shared} {R : Result → Shared → Prop} {ita la : Addr} {o : Obj} {σ : St}, C.B.Le F → Room n A → I0 σ → Rep F cenv.locals [] σ s.heap → s.heap.get? ita = some o → st 0 o → σ ita = none → F ita = none → ita ≠ cenv.locals → ita ≠ la →
    Acc F cenv.locals σ s.heap la [] → (∀ acc' ρ' σ' F' h' tk, P acc' σ' → F.Le F' → Rep F' cenv.locals ρ' σ' h' → Acc F' cenv.locals σ' h' la acc' → R (.ok .next) { s with heap := h', toks := tk }) →
    codeAny (model C.prog C.w) A (.compStart e 0 (.ref ita) (.ref la) cenv) R s
theorem crun_one {C : Cx} {n : Nat} {elt target iter : Expr} {scope : Scope} {pos : Pos} {cenv : Env} {items : List PV} {side : St → Prop} {st : Nat → Obj → Prop} {I0 : St → Prop} {P : List PV → St → Prop} (I : Nat → List PV → Loc → St → Prop)
    (hown : ∀ it v, letOwnedTupleGo target it v = pure ()) (ok : ItOk C items side st) (start : ∀ σ, I0 σ → I 0 [] [] σ)
    (turn : ∀ i q acc ρ σ, items[i]? = some q → I i acc ρ σ → acc.length ≤ 1000000 ∧ side σ ∧ WAsg C n cenv target q ρ σ (fun ρ₂ σ₂ => WE C n cenv elt ρ₂ σ₂ (fun v σ₃ => ∃ ρ₀ σ₀, LSub ρ₀ ρ₂ ∧ SubS σ₀ σ₃ ∧ I (i + 1) (acc ++ [v]) ρ₀ σ₀)))
    (fin : ∀ acc ρ σ, I items.length acc ρ σ → side σ ∧ P acc σ) : CRun C n (.ListComp elt [⟨target, iter, [], 0⟩] scope pos) cenv st I0 P := by
  intro F A s R ita la o σ hB hr hI hR ho hst hsi hFi hLi hne hacc hK
  have go : ∀ tk, codeAny (model C.prog C.w) A (.compLoop (.ListComp elt [⟨target, iter, [], 0⟩] scope pos) 0 (.ref ita) (.ref la) cenv) R { s with toks := tk } := fun tk =>
    compLoop_last (s := { s with toks := tk }) (p := iter.pos) (target := target) (elt := elt) I (fun _ _ => ⟨rfl, rfl, rfl⟩) (fun _ _ => rfl) hown ok turn (fun a r s h => (fin a r s h).1) hB hr (start σ hI) hR ho hst hsi hFi hLi hne hacc
      (fun acc' ρ' σ' F' h' tk hi hle hr ha => hK acc' ρ' σ' F' h' tk (fin _ _ _ hi).2 hle hr ha)
  exact codeAny_compStart_list (go s.toks) (ok.again ho hst fun tk => go tk)

/-- the clause within, for one turn of the first -/
noncomputable def Inner (C : Cx) (n : Nat) (cenv : Env) (elt t1 i1 : Expr) (acc : List PV) (ρ : Loc) (σ : St) (P : List PV → Loc → St → Prop) : Prop :=
  ∃ (items : List PV) (side : St → Prop) (st : Nat → Obj → Prop) (I : Nat → List PV → Loc → St → Prop) (ρi : Loc), ItOk C items side st ∧ LSub ρi ρ ∧ WIt C n cenv i1 ρ σ st (fun σ₁ => I 0 acc ρi σ₁) ∧
    (∀ i q acc ρ σ, items[i]? = some q → I i acc ρ σ → acc.length ≤ 1000000 ∧ side σ ∧ WAsg C n cenv t1 q ρ σ (fun ρ₂ σ₂ => WE C n cenv elt ρ₂ σ₂ (fun v σ₃ => ∃ ρ₀ σ₀, LSub ρ₀ ρ₂ ∧ SubS σ₀ σ₃ ∧ I (i + 1) (acc ++ [v]) ρ₀ σ₀))) ∧
    (∀ acc ρ σ, I items.length acc ρ σ → side σ ∧ P acc ρ σ)
theorem compStart_one {prog : Program} {w : World} {A : Around} {R : Result → Shared → Prop} {s : Shared} {elt : Expr} {g0 : Comprehension} {t1 i1 : Expr} {scope : Scope} {pos : Pos} {it acc : Value} {env : Env}
    (h0 : codeAny (model prog w) A (.compLoop (.ListComp elt [g0, ⟨t1, i1, [], 0⟩] scope pos) 1 it acc env) R s)
    (h : wpAny (model prog w) A (pyIter it) (fun it' s' => codeAny (model prog w) A (.compLoop (.ListComp elt [g0, ⟨t1, i1, [], 0⟩] scope pos) 1 it' acc env) R s') (notedBy (model prog w) A env fun x s' => R (.error x) s') s) :
    codeAny (model prog w) A (.compStart (.ListComp elt [g0, ⟨t1, i1, [], 0⟩] scope pos) 1 it acc env) R s := by
  refine codeAny_of_tree ?_
  show wpAny _ _ ((compStart (.ListComp elt [g0, ⟨t1, i1, [], 0⟩] scope pos) 1 it acc env).onRaise (fun x => do noteFrame x env; standAt theWindowsPlace)) _ _ s
  refine wpAny_notedAt ?_
  unfold compStart
  show wpAny _ _ (ask >>= _) _ _ s
  refine wpAny_bind (wpAny_askSetting (wpAny_ite ?_))
  split
  · first
      | exact wpAny_bind (wpAny_pure (wpAny_pure (And.intro rfl h0)))
      | exact wpAny_pure (And.intro rfl h0)
  · first
      | exact wpAny_bind (wpAny_rule (wpAny_bind (wpAny_standAt (wpAny_bind (wpAny_mono h (fun it' s' h' => wpAny_pure (And.intro rfl h')) fun _ _ x => x)))))
      | (refine wpAny_bind (wpAny_rule ?_); show wpAny _ _ (standAt i1.pos >>= _) _ _ s; exact wpAny_bind (wpAny_standAt (wpAny_bind (wpAny_mono h (fun it' s' h' => wpAny_pure (And.intro rfl h')) fun _ _ x => x))))
theorem inner_run {C : Cx} {n : Nat} {elt t1 i1 : Expr} {g0 : Comprehension} {scope : Scope} {pos : Pos} {cenv : Env} {items : List PV} {side : St → Prop} {st : Nat → Obj → Prop} {P : List PV → Loc → St → Prop} (I : Nat → List PV → Loc → St → Prop)
    (hown : ∀ it v, letOwnedTupleGo t1 it v = pure ()) (ok : ItOk C items side st)
    (turn : ∀ i q acc ρ σ, items[i]? = some q → I i acc ρ σ → acc.length ≤ 1000000 ∧ side σ ∧ WAsg C n cenv t1 q ρ σ (fun ρ₂ σ₂ => WE C n cenv elt ρ₂ σ₂ (fun v σ₃ => ∃ ρ₀ σ₀, LSub ρ₀ ρ₂ ∧ SubS σ₀ σ₃ ∧ I (i + 1) (acc ++ [v]) ρ₀ σ₀)))
    (fin : ∀ acc ρ σ, I items.length acc ρ σ → side σ ∧ P acc ρ σ)
    {F : Fz} {A : Around} {s : Shared} {R : Result → Shared → Prop} {ita la : Addr} {o : Obj} {acc : List PV} {ρ : Loc} {σ : St} (hB : C.B.Le F) (hr : Room n A)
    (hI : I 0 acc ρ σ) (hR : Rep F cenv.locals ρ σ s.heap) (ho : s.heap.get? ita = some o) (hst : st 0 o) (hsi : σ ita = none) (hFi : F ita = none) (hLi : ita ≠ cenv.locals) (hne : ita ≠ la)
    (hacc : Acc F cenv.locals σ s.heap la acc)
    (hK : ∀ acc' ρ' σ' F' h' tk, P acc' ρ' σ' → F.Le F' → Rep F' cenv.locals ρ' σ' h' → Acc F' cenv.locals σ' h' la acc' → R (.ok .next) { s with heap := h', toks := tk }) :
    codeAny (model C.prog C.w) A (.compStart (.ListComp elt [g0, ⟨t1, i1, [], 0⟩] scope pos) 1 (.ref ita) (.ref la) cenv) R s := by
  have go : ∀ tk, codeAny (model C.prog C.w) A (.compLoop (.ListComp elt [g0, ⟨t1, i1, [], 0⟩] scope pos) 1 (.ref ita) (.ref la) cenv) R { s with toks := tk } := fun tk =>
    compLoop_last (s := { s with toks := tk }) (p := i1.pos) (target := t1) (elt := elt) I (fun _ _ => ⟨rfl, rfl, rfl⟩) (fun _ _ => rfl) hown ok turn (fun a r s h => (fin a r s h).1) hB hr hI hR ho hst hsi hFi hLi hne hacc
      (fun acc' ρ' σ' F' h' tk hi hle hr ha => hK acc' ρ' σ' F' h' tk (fin _ _ _ hi).2 hle hr ha)
  exact compStart_one (go s.toks) (ok.again ho hst fun tk => go tk)
theorem compTurn_two (elt t0 i0 t1 i1 : Expr) (scope : Scope) (pos : Pos) (it acc : Value) (env : Env) :
    compTurn (.ListComp elt [⟨t0, i0, [], 0⟩, ⟨t1, i1, [], 0⟩] scope pos) 0 it acc env = (standAt i0.pos >>= fun _ => pyNext it >>= fun r => match r with
      | none => pure (.done .next)
      | some v => letOwnedTupleGo t0 it v >>= fun _ => assign t0 env v >>= fun _ =>
        (eval i1 env >>= fun x => standAt i1.pos >>= fun _ => foldedSetIterable i1 env x >>= fun x => holding [x] (pyIter x) >>= fun it1 => runOwn (.compStart (.ListComp elt [⟨t0, i0, [], 0⟩, ⟨t1, i1, [], 0⟩] scope pos) 1 it1 acc env) env >>= fun _ =>
          again (.compLoop (.ListComp elt [⟨t0, i0, [], 0⟩, ⟨t1, i1, [], 0⟩] scope pos) 0 it acc env))) := by rfl
theorem crun_two {C : Cx} {n : Nat} {elt t0 i0 t1 i1 : Expr} {scope : Scope} {pos : Pos} {cenv : Env} {items : List PV} {side : St → Prop} {st : Nat → Obj → Prop} {I0 : St → Prop} {P : List PV → St → Prop} (I : Nat → List PV → Loc → St → Prop)
    (hown : ∀ it v, letOwnedTupleGo t0 it v = pure ()) (hown1 : ∀ it v, letOwnedTupleGo t1 it v = pure ()) (hfold : ∀ x, foldedSetIterable i1 cenv x = pure x) (ok : ItOk C items side st) (start : ∀ σ, I0 σ → I 0 [] [] σ)
    (turn : ∀ i q acc ρ σ, items[i]? = some q → I i acc ρ σ → side σ ∧ WAsg C n cenv t0 q ρ σ (fun ρ₂ σ₂ => Inner C n cenv elt t1 i1 acc ρ₂ σ₂ (fun acc' ρ₃ σ₃ => ∃ ρ₀ σ₀, LSub ρ₀ ρ₃ ∧ SubS σ₀ σ₃ ∧ I (i + 1) acc' ρ₀ σ₀)))
    (fin : ∀ acc ρ σ, I items.length acc ρ σ → side σ ∧ P acc σ) : CRun C n (.ListComp elt [⟨t0, i0, [], 0⟩, ⟨t1, i1, [], 0⟩] scope pos) cenv st I0 P := by
  intro F A s R ita la o σ hB hr hI hR ho hst hsi hFi hLi hne hacc hK
  have go : ∀ tk, codeAny (model C.prog C.w) A (.compLoop (.ListComp elt [⟨t0, i0, [], 0⟩, ⟨t1, i1, [], 0⟩] scope pos) 0 (.ref ita) (.ref la) cenv) R { s with toks := tk } := by
    intro tk
    refine codeAny_loop rfl (fun k s' => ∃ i acc' ρ' σ' F' h' tk o, k = items.length - i ∧ i ≤ items.length ∧ I i acc' ρ' σ' ∧ F.Le F' ∧ Rep F' cenv.locals ρ' σ' h' ∧ h'.get? ita = some o ∧ st i o ∧ σ' ita = none ∧ F' ita = none ∧ Acc F' cenv.locals σ' h' la acc' ∧ s' = { s with heap := h', toks := tk }) ?_
      items.length ⟨0, [], [], σ, F, s.heap, tk, o, by simp, Nat.zero_le _, start σ hI, .refl F, hR, ho, hst, hsi, hFi, hacc, rfl⟩
    intro k s' hi2
    refine held fun hn2 => ?_
    obtain ⟨i, acc', ρ', σ', F', h', tk', o', rfl, hi, hI', hle', R', ho', hst', hsi', hFi', hacc', rfl⟩ := hi2
    refine hn2 ?_
    show wpAny _ A ((compTurn (.ListComp elt [⟨t0, i0, [], 0⟩, ⟨t1, i1, [], 0⟩] scope pos) 0 (.ref ita) (.ref la) cenv).onRaise (fun x => do noteFrame x cenv; theTreesLotGoes x)) _ _ _
    refine wpAny_noted ?_
    rw [compTurn_two]
    refine wpAny_bind (wpAny_standAt (wpAny_bind ?_))
    cases hp : items[i]? with
    | none =>
      have hii : i = items.length := by have := List.getElem?_eq_none_iff.mp hp; (first | lia | omega)
      subst hii
      refine ok.fin (s := { s with heap := h', toks := tk' }) hp hr.2.2 R' (fin acc' ρ' σ' hI').1 ho' hst' fun h₃ tk₃ hx => ?_
      refine wpAny_pure ?_
      refine held fun hn3 => ?_
      obtain ⟨a1, a2, a3, vs, m, a4, a5⟩ := hacc'
      refine hn3 ?_
      exact hK acc' ρ' σ' F' h₃ tk₃ (fin _ _ _ hI').2 hle' (R'.other hx hFi' hsi' hLi) ⟨a1, a2, a3, vs, m, hx _ _ (Ne.symm hne) a4, a5⟩
    | some q =>
      obtain ⟨hsd, hq⟩ := turn i q acc' ρ' σ' hp hI'
      refine ok.next (s := { s with heap := h', toks := tk' }) hp hr.2.2 R' hsd ho' hst' fun w' h₃ tk₃ o₃ hs₃ ho₃ hst₃ hv₃ => ?_
      refine wpAny_bind (wpAny_of_eq (hown _ _) ?_)
      refine held fun hn4 => ?_
      obtain ⟨a1, a2, a3, vs, m, a4, a5⟩ := hacc'
      refine hn4 ?_
      have a4' : h₃.get? la = some (listOf vs m) := (hs₃.2 la (Ne.symm hne)).trans a4
      have R₃ := R'.other hs₃.extBut hFi' hsi' hLi
      obtain ⟨le₄, R₄⟩ := R₃.hide ho₃ hsi' hFi' hLi
      have idl := ok.idle _ _ hst₃
      have hFl : (F'.add ita o₃) la = none := by unfold Fz.add; rw [if_neg (Ne.symm hne)]; exact a2
      obtain ⟨le₅, R₅⟩ := R₄.hide a4' a1 hFl a3
      have idl2 : Idle (listOf vs m) := idle_list rfl rfl
      refine wpAny_bind (hq ((F'.add ita o₃).add la (listOf vs m)) w' (hB.trans (hle'.trans (le₄.trans le₅))) (hv₃.mono (le₄.trans le₅)) A _ _ _ hr R₅ ?_)
      intro _ _ ρ₆ σ₆ F₆ h₆ tk₆ hq₆ hle₆ R₆ _
      refine held fun hn5 => ?_
      obtain ⟨items1, side1, st1, I1, ρi, ok1, hsub1, hit1, turn1, fin1⟩ := hq₆
      refine hn5 ?_
      refine wpAny_bind (wpAny_mono (hit1 F₆ (hB.trans (hle'.trans (le₄.trans (le₅.trans hle₆)))) A { s with heap := h₆, toks := tk₆ } (notedBy (model C.prog C.w) A cenv fun e s' => R (.error e) s')
        (fun it s₁ => wpAny (model C.prog C.w) A (runOwn (.compStart (.ListComp elt [⟨t0, i0, [], 0⟩, ⟨t1, i1, [], 0⟩] scope pos) 1 it (.ref la) cenv) cenv >>= fun _ => again (.compLoop (.ListComp elt [⟨t0, i0, [], 0⟩, ⟨t1, i1, [], 0⟩] scope pos) 0 (.ref ita) (.ref la) cenv)) _ (notedBy (model C.prog C.w) A cenv fun e s' => R (.error e) s') s₁) hr R₆ ?_)
        (fun x s₁ hx => wpAny_bind (wpAny_standAt (wpAny_bind (wpAny_of_eq (hfold x) (wpAny_bind (wpAny_holding hx)))))) fun _ _ x => x)
      intro ita1 σ₇ F₇ h₇ tk₇ o₇ hI₇ hle₇ R₇ ho₇ hst₇ hsi₇ hFi₇ hLi₇
      refine held fun hn6 => ?_
      obtain ⟨le₈, R₈, b1, b2, b3, b4, b5⟩ := R₇.unhide idl2 hFl (hle₆.trans hle₇)
      refine hn6 ?_
      have hne1 : ita1 ≠ la := fun z => by rw [z, b4] at hFi₇; cases hFi₇
      have F8i : (F₇.sub la) ita1 = none := by rw [Fz.sub_ne hne1]; exact hFi₇
      refine wpAny_bind (wpAny_runOwn ?_)
      refine inner_run I1 hown1 ok1 turn1 fin1 (hB.trans (hle'.trans (le₄.trans le₈))) hr hI₇ (R₈.less hsub1 (.refl σ₇)) ho₇ hst₇ hsi₇ F8i hLi₇ hne1 ⟨b2, b5, b3, vs, m, b1, a5.mono (le₄.trans le₈)⟩ ?_
      intro acc₉ ρ₉ σ₉ F₉ h₉ tk₉ hP₉ hle₉ R₉ hacc₉
      refine held fun hn7 => ?_
      obtain ⟨ρ₀, σ₀, s1, s2, hI₁₀⟩ := hP₉
      refine hn7 ?_
      refine held fun hn8 => ?_
      obtain ⟨le₁₀, R₁₀, c1, c2, c3, c4, c5⟩ := R₉.unhide idl hFi' (le₈.trans hle₉)
      refine hn8 ?_
      refine held fun hn9 => ?_
      obtain ⟨d1, d2, d3, ws, mw, d4, d5⟩ := hacc₉
      refine hn9 ?_
      refine wpAny_pure ⟨rfl, items.length - (i + 1), ?_, i + 1, acc₉, ρ₀, σ₀, F₉.sub ita, h₉, tk₉, o₃, rfl, ?_, hI₁₀, hle'.trans le₁₀, R₁₀.less s1 s2, c1, hst₃, ?_, c5, ⟨?_, ?_, d3, ws, mw, d4, d5.sub c4 idl⟩, rfl⟩
      · have := (List.getElem?_eq_some_iff.mp hp).1; (first | lia | omega)
      · exact (List.getElem?_eq_some_iff.mp hp).1
      · cases z : σ₀ ita with
        | none => rfl
        | some p => rw [s2 _ _ z] at c2; cases c2
      · cases z : σ₀ la with
        | none => rfl
        | some p => rw [s2 _ _ z] at d1; cases d1
      · rw [Fz.sub_ne (Ne.symm hne)]; exact d2
  exact codeAny_compStart_list (go s.toks) (ok.again ho hst fun tk => go tk)

/-! ### the comprehension as a whole -/
noncomputable def cellsOw (ow : Option Str) (m : Addr) (cl : List (Str × Addr)) : List (Str × Addr) := match ow with
  | none => cl
  | some x => (x, m) :: cl
noncomputable def pushOw (ow : Option Str) (h : Heap) : Heap := match ow with
  | none => h
  | some _ => h.push { cls := .type "cell", data := .cell none }
noncomputable def stOw (ow : Option Str) (σ : St) (c : Addr) : St := match ow with
  | none => σ
  | some _ => σ.set c (.cell none)
theorem newEnv_comp {M : Model} {A : Around} {E : Value → Shared → Prop} {s : Shared} {scope : Scope} {globals : Addr} {cl : List (Str × Addr)} {qual : Str} {env : Env} {ow : Option Str} {Q : Env → Shared → Prop}
    (hcf : ∀ m, cellsFrom m scope.names cl = cellsOw ow m cl) (hpc : ∀ h, pushCells h scope.names = pushOw ow h)
    (h : Q (newEnv scope s.heap.objs.size globals (cellsOw ow (s.heap.objs.size + 1) cl) qual none .none (some env) builtinsNs) { s with heap := pushOw ow (s.heap.push { cls := .type "dict", data := .dict #[] }) }) :
    wpAny M A (newFunctionEnv scope globals cl [] qual none .none (some env)) Q E s := by
  simp only [newFunctionEnv, Option.isSome_some, if_true]
  refine wpAny_bind (wpAny_alloc ?_)
  refine wpAny_bind (wpAny_layCells _ (fun name kind cells => by cases hkc : kind == NameKind.cell <;> simp [hkc]) _ _ _ _ ?_)
  rw [hcf, hpc]
  rw [show ({ s with heap := s.heap.push { cls := .type "dict", data := .dict #[] } } : Shared).heap.objs.size = s.heap.objs.size + 1 from Heap.size_push ..]
  rw [List.forIn_nil]
  exact wpAny_bind (wpAny_pure (wpAny_pure h))
/-- an iterable that is made, then its iterator, which may rest upon what was made -/
noncomputable def WItB (C : Cx) (n : Nat) (env : Env) (iter : Expr) (ρ : Loc) (σ : St) {β : Type} (st : β → Nat → Obj → Prop) (P : β → St → Prop) : Prop :=
  ∀ F, C.B.Le F → ∀ (A : Around) (s : Shared) (E : Value → Shared → Prop) (K : Value → Shared → Prop), Room n A → Rep F env.locals ρ σ s.heap →
    (∀ b ita σ₁ F₁ h' tk o, P b σ₁ → F.Le F₁ → Rep F₁ env.locals ρ σ₁ h' → h'.get? ita = some o → st b 0 o → σ₁ ita = none → F₁ ita = none → ita ≠ env.locals → K (.ref ita) { s with heap := h', toks := tk }) →
    wpAny (model C.prog C.w) A (eval iter env) (fun x s₁ => wpAny (model C.prog C.w) A (pyIter x) K E s₁) E s
theorem WIt.toB {C : Cx} {n : Nat} {env : Env} {iter : Expr} {ρ : Loc} {σ : St} {st : Nat → Obj → Prop} {P : St → Prop} (h : WIt C n env iter ρ σ st P) : WItB C n env iter ρ σ (fun (_ : Unit) => st) (fun _ => P) :=
  fun F hB A s E K hr hR hK => h F hB A s E K hr hR (hK ())
theorem WItB_of {C : Cx} {n : Nat} {env : Env} {ρ : Loc} {σ : St} {iter : Expr} {β : Type} {side : β → St → Prop} {st : β → Nat → Obj → Prop} {P : β → St → Prop} (h : WE C n env iter ρ σ (fun v σ₁ => ∃ b, MkIter C v (side b) (st b) ∧ side b σ₁ ∧ P b σ₁)) : WItB C n env iter ρ σ st P := by
  intro F hB A s E K hr hR hK
  refine h F hB A s E _ hr hR ?_
  rintro v v' ρ₁ σ₁ F₁ h₁ tk₁ ⟨rfl, b, hmk, hside, hP⟩ hle₁ R₁ vv
  refine hmk hr.2.2 R₁ hside vv ?_
  intro ita h₂ tk₂ o hk₂ hnew ho hst
  refine hK b ita σ₁ F₁ h₂ tk₂ o hP hle₁ (R₁.grow hk₂) ho hst ?_ ?_ (ne_gt R₁.ltL hnew)
  · cases e : σ₁ ita with
    | none => rfl
    | some p => exact absurd rfl (ne_lt (R₁.lt e) hnew)
  · cases e : F₁ ita with
    | none => rfl
    | some ob => exact absurd rfl (ne_lt (Heap.lt_size (R₁.fz ita ob e).1) hnew)
theorem comp_core {C : Cx} {n : Nat} {env : Env} {ρ : Loc} {σ : St} {e : Expr} {scope : Scope} {pos : Pos} {g : Comprehension} {gs : List Comprehension} {cl : List (Str × Addr)} {use : Option (Value → Sem Unit)} {ow : Option Str} {β : Type} {st : β → Nat → Obj → Prop} {P0 : β → St → Prop} {P : List PV → St → Prop}
    (hcl : clausesOf e = g :: gs) (hs : ∀ x, foldedSetIterable g.iter env x = pure x) (hclos : closureFor scope env = pure cl) (hkind : scope.kind = .function) (hnames : ∀ x ∈ scope.names, x.2 = .local → scope.names.lookup x.1 = some .local)
    (hcf : ∀ m, cellsFrom m scope.names cl = cellsOw ow m cl) (hpc : ∀ h, pushCells h scope.names = pushOw ow h)
    (hit : WItB C n env g.iter ρ σ st P0)
    (hrun : ∀ (b : β) (C0 : Addr), CRun C n e (compEnvC scope (cellsOw ow (C0 + 1) cl) C0 env) (st b) (fun σ' => ∃ σ₁, P0 b σ₁ ∧ σ₁ (C0 + 1) = none ∧ σ' = stOw ow σ₁ (C0 + 1)) P)
    {F : Fz} {A : Around} {s : Shared} {E : Value → Shared → Prop} {Q : Value → Shared → Prop} (hB : C.B.Le F) (hr : Room n A) (hR : Rep F env.locals ρ σ s.heap)
    (hK : ∀ la C0 acc σ' F' h' tk, P acc σ' → σ' la = none → F.Le F' → Rep F' env.locals ρ (σ'.set la (.list acc)) h' → (∃ m, h'.Ns C0 m) → F' C0 = none → (σ'.set la (.list acc)) C0 = none → C0 ≠ env.locals →
      compPost (model C.prog C.w) A E use Q (.ref la) C0 (.ok .next) { s with heap := h', toks := tk }) :
    wpAny (model C.prog C.w) A (comprehension e scope env pos (newList []) false (eval g.iter env) use) Q E s := by
  refine wpAny_comprehension_free hcl hs hclos hkind hnames (hit F hB A s E _ hr hR ?_)
  intro bb ita σ₁ F₁ h₁ tk₁ o hP0 hle₁ R₁ ho hst hsi hFi hLi
  refine wpAny_newList ?_
  refine newEnv_comp hcf hpc ?_
  show codeAny (model C.prog C.w) A (.compStart e 0 (.ref ita) (.ref h₁.objs.size) (compEnvC scope (cellsOw ow ((h₁.push (listOf #[] 0)).objs.size + 1) cl) (h₁.push (listOf #[] 0)).objs.size env)) (compPost (model C.prog C.w) A E use Q (.ref h₁.objs.size) (h₁.push (listOf #[] 0)).objs.size)
    { s with heap := pushOw ow ((h₁.push (listOf #[] 0)).push { cls := .type "dict", data := .dict #[] }), toks := tk₁ }
  have hsz : (h₁.push (listOf #[] 0)).objs.size = h₁.objs.size + 1 := Heap.size_push ..
  rw [hsz]
  generalize hh2 : (h₁.push (listOf #[] 0)).push { cls := .type "dict", data := .dict #[] } = h₂
  have k2 : ∀ b o, h₁.get? b = some o → h₂.get? b = some o := fun b o e => hh2 ▸ Heap.get?_push_of_some _ (Heap.get?_push_of_some _ e)
  have hla : h₂.get? h₁.objs.size = some (listOf #[] 0) := hh2 ▸ Heap.get?_push_of_some _ (Heap.get?_push_size _ rfl)
  have hC0 : h₂.Ns (h₁.objs.size + 1) (fun _ => none) := by
    have := Heap.Ns.new (h₁.push (listOf #[] 0)) (.type "dict")
    rw [hsz] at this
    exact hh2 ▸ this
  have hz2 : h₂.objs.size = h₁.objs.size + 2 := by rw [← hh2, Heap.size_push, hsz]
  have k3 : ∀ b o, h₂.get? b = some o → (pushOw ow h₂).get? b = some o := by
    intro b o e
    cases ow with
    | none => exact e
    | some x => exact Heap.get?_push_of_some _ e
  have hitl : @LT.lt Nat _ ita h₁.objs.size := Heap.lt_size ho
  have fresh2 : σ₁ (h₁.objs.size + 1 + 1) = none := by
    cases z : σ₁ (h₁.objs.size + 1 + 1) with
    | none => rfl
    | some p => exact absurd rfl (ne_lt (R₁.lt z) (by (first | lia | omega)))
  obtain ⟨oL, hdL, hoL, hleS, R₂⟩ := R₁.suspend (L' := h₁.objs.size + 1) (σ' := stOw ow σ₁ (h₁.objs.size + 1 + 1)) (h' := pushOw ow h₂) (ρ' := []) (fun b o e => k3 b o (k2 b o e)) (by (first | lia | omega))
    (by
      intro a p e
      cases ow with
      | none => exact .inl e
      | some x =>
        unfold stOw at e
        by_cases ha : a = h₁.objs.size + 1 + 1
        · subst ha
          simp only [St.set_same] at e
          cases e
          refine .inr ⟨by (first | lia | omega), Nat.ne_of_gt (by (first | lia | omega)), { cls := .type "cell", data := .cell none }, ?_, rfl⟩
          have := Heap.get?_push_size h₂ (o := { cls := .type "cell", data := .cell none }) rfl
          rw [hz2] at this
          exact this
        · simp only [St.set_ne ha] at e; exact .inl e)
    (hC0.keeps k3) (by intro x v e; cases e)
  have hlaF : F₁ h₁.objs.size = none := R₁.freshF
  have hlaσ : σ₁ h₁.objs.size = none := R₁.fresh
  have hLlt : @LT.lt Nat _ env.locals h₁.objs.size := R₁.ltL
  have addF : ∀ b, b ≠ env.locals → F₁ b = none → (F₁.add env.locals oL) b = none := fun b hb e => by unfold Fz.add; rw [if_neg hb]; exact e
  have stow : ∀ b, b ≠ h₁.objs.size + 1 + 1 → σ₁ b = none → (stOw ow σ₁ (h₁.objs.size + 1 + 1)) b = none := by
    intro b hb e
    cases ow with
    | none => exact e
    | some x => unfold stOw; simp only [St.set_ne hb]; exact e
  have hitne : ita ≠ h₁.objs.size := Nat.ne_of_lt hitl
  refine hrun bb (h₁.objs.size + 1) (F := F₁.add env.locals oL) (s := { s with heap := pushOw ow h₂, toks := tk₁ }) (hB.trans (hle₁.trans hleS)) hr ⟨σ₁, hP0, fresh2, rfl⟩ R₂ (k3 _ _ (k2 _ _ ho)) hst
    (stow ita (Nat.ne_of_lt (by (first | lia | omega))) hsi) (addF ita hLi hFi) (Nat.ne_of_lt (Nat.lt_succ_of_lt hitl)) hitne
    ⟨stow _ (Nat.ne_of_lt (by (first | lia | omega))) hlaσ, addF _ (Nat.ne_of_gt hLlt) hlaF, (Nat.ne_of_lt (show h₁.objs.size < h₁.objs.size + 1 by (first | lia | omega))), #[], 0, k3 _ _ hla, .nil⟩ ?_
  intro acc ρ₃ σ₃ F₃ h₃ tk₃ hP hle₃ R₃ hacc
  refine held fun hn10 => ?_
  obtain ⟨le₄, FL, R₄⟩ := R₁.resume hdL hoL hle₃ R₃
  refine hn10 ?_
  refine held fun hn11 => ?_
  obtain ⟨a1, a2, a3, vs, m, a4, a5⟩ := hacc
  refine hn11 ?_
  have hlaL : h₁.objs.size ≠ env.locals := ne_gt hLlt (Nat.le_refl _)
  have F4la : (F₃.sub env.locals) h₁.objs.size = none := by rw [Fz.sub_ne hlaL]; exact a2
  have R₅ := R₄.adopt (p := .list acc) a4 ⟨vs, m, rfl, a5.sub FL hdL⟩ F4la hlaL
  obtain ⟨n1, n2⟩ := R₃.notL
  refine held fun hn12 => ?_
  obtain ⟨mm, hns, _⟩ := R₃.ns
  refine hn12 ?_
  have hC0L : h₁.objs.size + 1 ≠ env.locals := Nat.ne_of_gt (by (first | lia | omega))
  refine hK h₁.objs.size (h₁.objs.size + 1) acc σ₃ (F₃.sub env.locals) h₃ tk₃ hP a1 (hle₁.trans le₄) R₅ ⟨mm, hns⟩ ?_ ?_ hC0L
  · rw [Fz.sub_ne hC0L]; exact n1
  · rw [St.set_ne (Nat.ne_of_gt (by (first | lia | omega)))]; exact n2
section
variable {C : Cx} {n : Nat} {env : Env} {ρ : Loc} {σ : St}
theorem WE_ListCompB {elt target iter : Expr} {rest : List Comprehension} {scope : Scope} {pos : Pos} {cl : List (Str × Addr)} {ow : Option Str} {β : Type} {st : β → Nat → Obj → Prop} {P0 : β → St → Prop} {P : List PV → St → Prop} {Q : PV → St → Prop}
    (hs : ∀ x, foldedSetIterable iter env x = pure x) (hclos : closureFor scope env = pure cl) (hkind : scope.kind = .function) (hnames : ∀ x ∈ scope.names, x.2 = .local → scope.names.lookup x.1 = some .local)
    (hcf : ∀ m, cellsFrom m scope.names cl = cellsOw ow m cl) (hpc : ∀ h, pushCells h scope.names = pushOw ow h)
    (hit : WItB C n env iter ρ σ st P0)
    (hrun : ∀ (b : β) (C0 : Addr), CRun C n (.ListComp elt (⟨target, iter, [], 0⟩ :: rest) scope pos) (compEnvC scope (cellsOw ow (C0 + 1) cl) C0 env) (st b) (fun σ' => ∃ σ₁, P0 b σ₁ ∧ σ₁ (C0 + 1) = none ∧ σ' = stOw ow σ₁ (C0 + 1)) P)
    (hq : ∀ la acc σ', P acc σ' → σ' la = none → Q (.ref la) (σ'.set la (.list acc))) : WE C n env (.ListComp elt (⟨target, iter, [], 0⟩ :: rest) scope pos) ρ σ Q := by
  intro F hB A s E K hr hR hK
  rw [eval_ListComp]
  refine comp_core (g := ⟨target, iter, [], 0⟩) (gs := rest) (use := none) rfl hs hclos hkind hnames hcf hpc hit hrun hB hr hR ?_
  intro la C0 acc σ' F' h' tk hP hla hle R' hns hFC hσC hCL
  obtain ⟨m, hns⟩ := hns
  exact ⟨m, hns, fun h'' hsb => hK _ _ ρ _ F' h'' tk ⟨rfl, hq la acc σ' hP hla⟩ hle (R'.other hsb.extBut hFC hσC hCL) rfl⟩
theorem WE_ListComp {elt target iter : Expr} {rest : List Comprehension} {scope : Scope} {pos : Pos} {cl : List (Str × Addr)} {ow : Option Str} {st : Nat → Obj → Prop} {P0 : St → Prop} {P : List PV → St → Prop} {Q : PV → St → Prop}
    (hs : ∀ x, foldedSetIterable iter env x = pure x) (hclos : closureFor scope env = pure cl) (hkind : scope.kind = .function) (hnames : ∀ x ∈ scope.names, x.2 = .local → scope.names.lookup x.1 = some .local)
    (hcf : ∀ m, cellsFrom m scope.names cl = cellsOw ow m cl) (hpc : ∀ h, pushCells h scope.names = pushOw ow h)
    (hit : WIt C n env iter ρ σ st P0)
    (hrun : ∀ C0 : Addr, CRun C n (.ListComp elt (⟨target, iter, [], 0⟩ :: rest) scope pos) (compEnvC scope (cellsOw ow (C0 + 1) cl) C0 env) st (fun σ' => ∃ σ₁, P0 σ₁ ∧ σ₁ (C0 + 1) = none ∧ σ' = stOw ow σ₁ (C0 + 1)) P)
    (hq : ∀ la acc σ', P acc σ' → σ' la = none → Q (.ref la) (σ'.set la (.list acc))) : WE C n env (.ListComp elt (⟨target, iter, [], 0⟩ :: rest) scope pos) ρ σ Q :=
  WE_ListCompB (β := Unit) (st := fun _ => st) (P0 := fun _ => P0) hs hclos hkind hnames hcf hpc hit.toB (fun _ => hrun) hq
/-- x = [..], where the stores are exchanged -/
theorem WS_AssignComp {y : Str} {py spos : Pos} {elt target iter : Expr} {rest : List Comprehension} {scope : Scope} {pos : Pos} {cl : List (Str × Addr)} {ow : Option Str} {st : Nat → Obj → Prop} {P0 : St → Prop} {P : List PV → St → Prop} {Q : PF → Loc → St → Prop}
    (hsw : swapsWith (.ListComp elt (⟨target, iter, [], 0⟩ :: rest) scope pos) (some (.Name y py)) spos.line env = pure true) (hk : env.scope.kind = .function) (hy : env.kindOf y = some .local)
    (hs : ∀ x, foldedSetIterable iter env x = pure x) (hclos : closureFor scope env = pure cl) (hkind : scope.kind = .function) (hnames : ∀ x ∈ scope.names, x.2 = .local → scope.names.lookup x.1 = some .local)
    (hcf : ∀ m, cellsFrom m scope.names cl = cellsOw ow m cl) (hpc : ∀ h, pushCells h scope.names = pushOw ow h)
    (hit : WIt C n env iter ρ σ st P0)
    (hrun : ∀ C0 : Addr, CRun C n (.ListComp elt (⟨target, iter, [], 0⟩ :: rest) scope pos) (compEnvC scope (cellsOw ow (C0 + 1) cl) C0 env) st (fun σ' => ∃ σ₁, P0 σ₁ ∧ σ₁ (C0 + 1) = none ∧ σ' = stOw ow σ₁ (C0 + 1)) P)
    (hq : ∀ la acc σ', P acc σ' → σ' la = none → Q .next (Loc.put ρ y (.ref la)) (σ'.set la (.list acc))) : WS C n env (.Assign [.Name y py] (.ListComp elt (⟨target, iter, [], 0⟩ :: rest) scope pos) spos) ρ σ Q := by
  intro F hB A s E K hr hR hK
  have e : exec (.Assign [.Name y py] (.ListComp elt (⟨target, iter, [], 0⟩ :: rest) scope pos) spos) env = (do
    standAt spos
    if ← swapsWith (.ListComp elt (⟨target, iter, [], 0⟩ :: rest) scope pos) (some (.Name y py)) spos.line env then do
      evalThenUse (.ListComp elt (⟨target, iter, [], 0⟩ :: rest) scope pos) env fun v => assignAll v ((assignEach [.Name y py] env).map (·.2))
      pure .next
    else do
      let v ← eval (.ListComp elt (⟨target, iter, [], 0⟩ :: rest) scope pos) env
      assignStores env v (← swappedStores [.Name y py] (.ListComp elt (⟨target, iter, [], 0⟩ :: rest) scope pos) env) ((assignEach [.Name y py] env).map (·.2))) := rfl
  rw [e, hsw]
  refine wpAny_bind (wpAny_standAt (wpAny_bind (wpAny_pure ?_)))
  simp only [if_true]
  refine wpAny_bind ?_
  have e2 : evalThenUse (.ListComp elt (⟨target, iter, [], 0⟩ :: rest) scope pos) env (fun v => assignAll v ((assignEach [.Name y py] env).map (·.2))) = (do
    let _ ← comprehension (.ListComp elt (⟨target, iter, [], 0⟩ :: rest) scope pos) scope env (firstIterPos (⟨target, iter, [], 0⟩ :: rest) pos) (newList []) false (eval iter env) (some (fun v => assign (.Name y py) env v))) := rfl
  rw [e2]
  refine wpAny_bind (comp_core (β := Unit) (st := fun _ => st) (P0 := fun _ => P0) (g := ⟨target, iter, [], 0⟩) (gs := rest) (use := some _) rfl hs hclos hkind hnames hcf hpc hit.toB (fun _ => hrun) hB hr hR ?_)
  intro la C0 acc σ' F' h' tk hP hla hle R' hns hFC hσC hCL
  obtain ⟨m, hns⟩ := hns
  refine held fun hn13 => ?_
  obtain ⟨oC, es, ep, hoC, hdC, hkC⟩ := id hns
  refine hn13 ?_
  obtain ⟨leH, RH⟩ := R'.hide hoC hσC hFC hCL
  show wpAny (model C.prog C.w) A (assign (.Name y py) env (.ref la)) _ E _
  refine wpAny_assign_Name (WStore_local (C := C) (n := n) (Q := fun ρ₂ σ₂ => ρ₂ = Loc.put ρ y (.ref la) ∧ σ₂ = σ'.set la (.list acc)) hk hy ⟨rfl, rfl⟩ _ _ (hB.trans (hle.trans leH)) (v := .ref la) rfl A _ E _ hr RH ?_)
  rintro _ _ ρ₂ σ₂ F₂ h₂ tk₂ ⟨rfl, rfl⟩ hle₂ R₂ _
  refine held fun hn14 => ?_
  obtain ⟨le₃, R₃, c1, c2, c3, c4, c5⟩ := R₂.unhide (.dict hdC) hFC hle₂
  refine hn14 ?_
  refine ⟨m, ⟨oC, es, ep, c1, hdC, hkC⟩, fun h'' hsb => ?_⟩
  exact wpAny_pure (wpAny_pure (hK .next .next _ _ (F₂.sub C0) h'' tk₂ (hq la acc σ' hP hla) (hle.trans le₃) (R₃.other hsb.extBut c5 c2 c3) rfl))
end
end Mine

namespace Mine
/-! ## Layer 2g: more built-ins -/
noncomputable abbrev iL (ns : List Int) : List PV := ns.map PV.int
theorem VRs.toInts {F : Fz} : ∀ {ns : List Int} {vs : List Value}, VRs F (iL ns) vs → ∃ xs : List (Int × Tok), vs = xs.map (fun p => Value.int p.1 p.2) ∧ xs.map (·.1) = ns
  | [], _, h => by cases h; exact ⟨[], rfl, rfl⟩
  | n :: ns, _, h => by
    cases h with
    | cons r h =>
      obtain ⟨t, rfl⟩ := r
      obtain ⟨xs, rfl, e⟩ := VRs.toInts h
      exact ⟨(n, t) :: xs, rfl, by simp [e]⟩
theorem VRs.intsAre {F : Fz} : ∀ {ns : List Int} {vs : List Value}, VRs F (iL ns) vs → IntsAre vs ns
  | [], _, h => by cases h; exact .nil
  | n :: ns, _, h => by
    cases h with
    | cons r h =>
      obtain ⟨t, rfl⟩ := r
      exact .cons n t (VRs.intsAre h)
theorem VRs.ofInts {F : Fz} : ∀ {ns : List Int} {vs : List Value}, IntsAre vs ns → VRs F (iL ns) vs
  | _, _, .nil => .nil
  | _, _, .cons n t h => .cons ⟨t, rfl⟩ (VRs.ofInts h)
theorem Rep.ilist {F : Fz} {L : Addr} {ρ : Loc} {σ : St} {h : Heap} (R : Rep F L ρ σ h) {a : Addr} {ns : List Int} (e : σ a = some (.list (iL ns))) :
    ∃ xs : Array (Int × Tok), h.IsList a (intItems xs) ∧ xs.toList.map (·.1) = ns := by
  obtain ⟨vs, m, ho, r, hs⟩ := R.list e
  obtain ⟨xs, e1, e2⟩ := r.toInts
  have hv : vs = intItems xs.toArray := by
    obtain ⟨l⟩ := vs
    unfold intItems
    simp only [List.map_toArray]
    exact congrArg Array.mk e1
  refine ⟨xs.toArray, ?_, by simpa using e2⟩
  rw [← hv]
  exact IsL.isList (n := m) ho
theorem numAt_map (xs : Array (Int × Tok)) {i : Nat} (h : i < xs.size) : (xs.toList.map (·.1))[i]? = some (numAt xs i) := by
  unfold numAt
  simp [h]
noncomputable def isInt (x : Int) (v : Value) : Bool := match v with | .int i _ => i == x | _ => false
theorem any_ints (x : Int) (xs : Array (Int × Tok)) : (intItems xs).any (isInt x) = decide (x ∈ xs.toList.map (·.1)) := by
  rw [Bool.eq_iff_iff, Array.any_eq_true, decide_eq_true_iff, List.mem_map]
  unfold intItems
  constructor
  · rintro ⟨i, hi, e⟩
    simp only [Array.getElem_map, isInt, beq_iff_eq] at e
    exact ⟨xs[i]'(by simpa using hi), by simp, e⟩
  · rintro ⟨p, hp, e⟩
    obtain ⟨i, hi, ei⟩ := List.getElem_of_mem hp
    refine ⟨i, by simpa using hi, ?_⟩
    simp only [Array.getElem_map, isInt, beq_iff_eq]
    rw [← e, ← ei]; simp
section
variable {C : Cx} {n : Nat} {env : Env} {ρ : Loc} {σ : St}
theorem WCall_max2 {a b : Int} {Q : PV → St → Prop} (h : Q (.int (max a b)) σ) : WCall C n (.imm (.builtin "max")) [.int a, .int b] σ Q := by
  rintro F L ρ _ _ hB rfl hv A s E K hr hR hK
  cases hv with
  | cons r vv =>
    cases vv with
    | cons r2 vv =>
      cases vv
      obtain ⟨t, rfl⟩ := r
      obtain ⟨u, rfl⟩ := r2
      refine max_two_ints hr.2.2 fun h' tk hk => ?_
      refine hK (.int (max a b)) _ ρ σ F h' tk ⟨rfl, h⟩ (.refl F) (hR.grow hk) ?_
      by_cases hc : b > a
      · rw [if_pos hc]; exact ⟨u, by rw [Int.max_def, if_pos (by (first | lia | omega))]⟩
      · rw [if_neg hc]; exact ⟨t, by congr 1; (first | lia | omega)⟩
theorem WCall_min2 {a b : Int} {Q : PV → St → Prop} (h : Q (.int (min a b)) σ) : WCall C n (.imm (.builtin "min")) [.int a, .int b] σ Q := by
  rintro F L ρ _ _ hB rfl hv A s E K hr hR hK
  cases hv with
  | cons r vv =>
    cases vv with
    | cons r2 vv =>
      cases vv
      obtain ⟨t, rfl⟩ := r
      obtain ⟨u, rfl⟩ := r2
      refine min_two_ints hr.2.2 fun h' tk hk => ?_
      refine hK (.int (min a b)) _ ρ σ F h' tk ⟨rfl, h⟩ (.refl F) (hR.grow hk) ?_
      by_cases hc : b < a
      · rw [if_pos hc]; exact ⟨u, by congr 1; (first | lia | omega)⟩
      · rw [if_neg hc]; exact ⟨t, by congr 1; (first | lia | omega)⟩
theorem WCall_maxL {a : Addr} {ns : List Int} {Q : PV → St → Prop} (e : σ a = some (.list (iL ns))) (hne : ns ≠ []) (h : ∀ x, x ∈ ns → (∀ y ∈ ns, y ≤ x) → Q (.int x) σ) : WCall C n (.imm (.builtin "max")) [.ref a] σ Q := by
  rintro F L ρ _ _ hB rfl hv A s E K hr hR hK
  cases hv with
  | cons r vv =>
    cases vv
    cases r
    obtain ⟨xs, hl, rfl⟩ := hR.ilist e
    have hpos : 0 < xs.size := by
      rcases Nat.eq_zero_or_pos xs.size with hz | hz
      · exact absurd (by simp [Array.eq_empty_of_size_eq_zero hz]) hne
      · exact hz
    refine max_intList hr.2.2 hl hpos fun v h' tk hx hk => ?_
    obtain ⟨t, rfl⟩ := intItems_at hx
    obtain ⟨b1, b2⟩ := argBest_gt (numAt xs) (xs.size - 1)
    generalize hbb : argBest (fun i j => decide (numAt xs i > numAt xs j)) (xs.size - 1) = bb at b1 b2 hx
    refine hK _ _ ρ σ F h' tk ⟨rfl, h (numAt xs bb) ?_ ?_⟩ (.refl F) (hR.grow hk) ⟨t, rfl⟩
    · exact List.mem_of_getElem? (numAt_map xs (by (first | lia | omega)))
    · intro y hy
      obtain ⟨j, hj, ej⟩ := List.getElem_of_mem hy
      have hj' : j < xs.size := by simpa using hj
      have := numAt_map xs hj'
      rw [List.getElem?_eq_getElem hj, ej] at this
      cases this
      exact b2 j (by (first | lia | omega))
theorem WCall_minL {a : Addr} {ns : List Int} {Q : PV → St → Prop} (e : σ a = some (.list (iL ns))) (hne : ns ≠ []) (h : ∀ x, x ∈ ns → (∀ y ∈ ns, x ≤ y) → Q (.int x) σ) : WCall C n (.imm (.builtin "min")) [.ref a] σ Q := by
  rintro F L ρ _ _ hB rfl hv A s E K hr hR hK
  cases hv with
  | cons r vv =>
    cases vv
    cases r
    obtain ⟨xs, hl, rfl⟩ := hR.ilist e
    have hpos : 0 < xs.size := by
      rcases Nat.eq_zero_or_pos xs.size with hz | hz
      · exact absurd (by simp [Array.eq_empty_of_size_eq_zero hz]) hne
      · exact hz
    refine min_intList hr.2.2 hl hpos fun v h' tk hx hk => ?_
    obtain ⟨t, rfl⟩ := intItems_at hx
    obtain ⟨b1, b2⟩ := argBest_lt (numAt xs) (xs.size - 1)
    generalize hbb : argBest (fun i j => decide (numAt xs i < numAt xs j)) (xs.size - 1) = bb at b1 b2 hx
    refine hK _ _ ρ σ F h' tk ⟨rfl, h (numAt xs bb) ?_ ?_⟩ (.refl F) (hR.grow hk) ⟨t, rfl⟩
    · exact List.mem_of_getElem? (numAt_map xs (by (first | lia | omega)))
    · intro y hy
      obtain ⟨j, hj, ej⟩ := List.getElem_of_mem hy
      have hj' : j < xs.size := by simpa using hj
      have := numAt_map xs hj'
      rw [List.getElem?_eq_getElem hj, ej] at this
      cases this
      exact b2 j (by (first | lia | omega))
theorem sum_bound {B : Int} (hB : 0 ≤ B) : ∀ (l : List Int), (∀ x ∈ l, 0 ≤ x ∧ x ≤ B) → 0 ≤ l.sum ∧ l.sum ≤ l.length * B
  | [], _ => by simp
  | x :: l, h => by
    have := sum_bound hB l (fun y hy => h y (.tail _ hy))
    have hx := h x (.head _)
    simp only [List.sum_cons, List.length_cons, Int.natCast_add, Int.add_mul]
    (first | lia | omega)
theorem WCall_sumL {a : Addr} {ns : List Int} {Q : PV → St → Prop} (e : σ a = some (.list (iL ns))) (hb : ∀ x ∈ ns, 0 ≤ x ∧ x ≤ 1000000) (hz : ns.length ≤ 1000000) (h : Q (.int ns.sum) σ) : WCall C n (.imm (.builtin "sum")) [.ref a] σ Q := by
  rintro F L ρ _ _ hB rfl hv A s E K hr hR hK
  cases hv with
  | cons r vv =>
    cases vv
    cases r
    obtain ⟨xs, hl, rfl⟩ := hR.ilist e
    have hsz : xs.size ≤ 1000000 := by simpa using hz
    have gen : ∀ j, InLong (preSum (numAt xs) j) := by
      intro j
      rw [preSum_eq]
      obtain ⟨s1, s2⟩ := sum_bound (B := 1000000) (by decide) ((xs.toList.map (·.1)).take j) (fun x hx => hb x (List.mem_of_mem_take hx))
      have : ((xs.toList.map (·.1)).take j).length ≤ 1000000 := by simp; (first | lia | omega)
      unfold InLong
      generalize ((xs.toList.map (·.1)).take j).length = z at *
      have : (z : Int) * 1000000 ≤ 1000000 * 1000000 := Int.mul_le_mul_of_nonneg_right (by (first | lia | omega)) (by decide)
      constructor <;> (first | lia | omega)
    refine sum_intList hr.2.2 hl (fun j hj => ⟨?_, gen _⟩) fun h' tk t' hk => ?_
    · have := hb (numAt xs j) (List.mem_of_getElem? (numAt_map xs hj))
      unfold InLong; constructor <;> (first | lia | omega)
    · rw [preSum_eq, List.take_of_length_le (by simp)]
      exact hK _ _ ρ σ F h' tk ⟨rfl, h⟩ (.refl F) (hR.grow hk) ⟨t', rfl⟩
/-- list(list) -/
theorem WCall_listL {a : Addr} {xs : List PV} {Q : PV → St → Prop} (e : σ a = some (.list xs)) (hz : xs.length ≤ 16777216) (h : ∀ b, σ b = none → Q (.ref b) (σ.set b (.list xs))) : WCall C n (.imm (.type "list")) [.ref a] σ Q := by
  rintro F L ρ _ _ hB rfl hv A s E K hr hR hK
  cases hv with
  | cons r vv =>
    cases vv
    cases r
    obtain ⟨vs, m, ho, rr, hs⟩ := hR.list e
    refine call_list_seq a (T := "list") (.inl rfl) ho rfl rfl (fun h' c' hk ho' => ?_) (by rw [hs]; exact hz)
    exact hK _ _ ρ _ F h' s.toks ⟨rfl, h _ hR.fresh⟩ (.refl F) (hR.allocAt hk (Nat.le_refl _) ho' (p := .list xs) ⟨_, _, rfl, rr⟩) rfl
/-- bytes(list of ints) -/
theorem WCall_bytesL {a : Addr} {ns : List Int} {Q : PV → St → Prop} (e : σ a = some (.list (iL ns))) (hb : ∀ x ∈ ns, 0 ≤ x ∧ x < 256) (hz : ns.length ≤ 1000000) (h : Q (.bytes (byteArr ns)) σ) : WCall C n (.imm (.type "bytes")) [.ref a] σ Q := by
  rintro F L ρ _ _ hB rfl hv A s E K hr hR hK
  cases hv with
  | cons r vv =>
    cases vv
    cases r
    obtain ⟨vs, m, ho, rr, hs⟩ := hR.list e
    have hz' : vs.toList.length ≤ sizeLine := by
      rw [← rr.length, sizeLine_eq]; simp; (first | lia | omega)
    refine call_bytes_ints (vs := vs.toList) (by simpa using IsL.isList (n := m) ho) rr.intsAre hb hz' hr.2.2 fun h' t k hk => ?_
    exact hK _ _ ρ _ F h' k ⟨rfl, h⟩ (.refl F) (hR.grow hk) ⟨t, rfl⟩
/-- k not in list of ints -/
theorem WCmp_notIn {a : Addr} {x : Int} {ns : List Int} {Q : PV → St → Prop} (e : σ a = some (.list (iL ns))) (h : Q (.bool (!(decide (x ∈ ns)))) σ) : WCmp C n .NotIn (.int x) (.ref a) σ Q := by
  rintro F L ρ _ _ hB ⟨t, rfl⟩ rfl A s E K hr hR hK
  obtain ⟨xs, hl, rfl⟩ := hR.ilist e
  refine PySem.SeqAt.notIn_listAt (isInt x) hl (fun y hy => ?_) ?_
  · unfold intItems at hy
    obtain ⟨p, hp, rfl⟩ := Array.mem_map.mp hy
    exact PySem.SeqAt.EqAt.int_int _ _ _ _
  · refine hK (.bool (!(decide (x ∈ xs.toList.map (·.1))))) _ ρ σ F s.heap s.toks ⟨rfl, h⟩ (.refl F) hR ?_
    show Value.bool _ = Value.bool _
    rw [any_ints]
end
end Mine

namespace Mine
/-! ## Layer 2h: reversed -/
section
variable {prog : Program} {w : World} {A : Around} {E : Value → Shared → Prop} {s : Shared}
theorem sub_rit_reversed : isSubtype (.type "range_iterator") (.type "reversed") = pure false := by rw [isSubtype_type]; kernel_rfl
noncomputable def rritObj (a n : Int) : Obj := { cls := .type "range_iterator", data := .fields #[rawInt (a + (n - 1)), rawInt n, rawInt (-1)] }
theorem range_rev_meets (r : Addr) (b : Int) (t u v : Tok) (hb : 0 ≤ b) (hb2 : b ≤ 2 ^ 60) :
    Meets (Builtin.«range.__reversed__» ⟨[.ref r], []⟩) (fun _ R s => s.heap.get? r = some { cls := .type "range", dict := none, data := .fields #[.int 0 t, .int b u, .int 1 v], slots := #[] } ∧
      R (.ok (.ret (.ref s.heap.objs.size))) { s with heap := s.heap.push (rritObj 0 b) }) :=
  .of_wp fun prog w A R s h => by
    obtain ⟨hp, g, d, tk, os⟩ := s; obtain ⟨hl, h⟩ := h
    have hsz : Builtin.Range.rangeSize 0 b 1 = b := by rw [rangeSize_one]; split <;> (first | lia | omega)
    have hsm : (Builtin.Range.rangeFitsLong 0 && Builtin.Range.rangeFitsLong b && Builtin.Range.rangeFitsLong 1 && Builtin.Range.rangeFitsLong (-1) && Builtin.Range.rangeFitsLong (0 - 1) && Builtin.Range.rangeFitsLong (Builtin.Range.rangeSize 0 b 1)) = true := by
      rw [hsz]; simp [Builtin.Range.rangeFitsLong]; (first | lia | omega)
    wp_walk
    rw [if_neg (by rw [hsm]; decide)]
    simp only [hsm, if_true]
    wp_walk
    refine ⟨_, rfl, ?_⟩
    rw [hsz]
    simpa [rritObj] using h
theorem code_reversed_range {r : Addr} {b : Int} {t u v : Tok} {Q₁ : Value → Shared → Prop} (hb : 0 ≤ b) (hb2 : b ≤ 2 ^ 60) (hr : s.heap.get? r = some { cls := .type "range", dict := none, data := .fields #[.int 0 t, .int b u, .int 1 v], slots := #[] })
    (h : Q₁ (.ref s.heap.objs.size) { s with heap := s.heap.push (rritObj 0 b) }) : codeAny (model prog w) A (.call (.builtin "reversed.__new__") ⟨[.type "reversed", .ref r], []⟩) (wants Q₁ E) s := by
  have hT : s.TypeIs (.ref r) "range" := ⟨_, hr, rfl⟩
  refine codeAny_of_tree ?_
  show wpAny _ A.in1 (do checkBuiltinCall "reversed.__new__" ⟨[.type "reversed", .ref r], []⟩; again (.builtin "reversed.__new__" ⟨[.type "reversed", .ref r], []⟩)) _ _ s
  refine wpAny_bind (wpAny_of_eq (PySem.F.newCall_reversed_1 _) (wpAny_pure ⟨plainId_quiet PySem.F.plain_reversed_new _, codeAny_builtin PySem.F.entry_reversed_new ?_⟩))
  rw [Around.under_plainId PySem.F.plain_reversed_new _]
  unfold Builtin.«reversed.__new__»
  refine wpAny_bind (wpAny_of_eq (newClass_reversed _) ?_)
  try dsimp only
  refine wpAny_bind (wpAny_of_eq (a := ()) (by first | rfl | kernel_rfl) ?_)
  refine wpAny_bind (wpAny_of_eq (a := ()) (by first | rfl | kernel_rfl) ?_)
  try dsimp only
  refine wpAny_bind (wpAny_specialOf hT PySem.F.slot_range_reversed.lookup ?_)
  try dsimp only
  refine wpAny_bind (wpAny_of_eq (PySem.F.slot_range_reversed.bind _) ?_)
  try dsimp only
  rw [if_neg (show ¬ ((Value.builtin "range.__reversed__" == Value.none) = true) from Bool.false_ne_true)]
  refine wpAny_bind (wpAny_rule ?_)
  refine wpAny_bind (m := runValue (.call (.builtin "range.__reversed__") ⟨[.ref r], []⟩)) (show wpAny _ _ (call (.builtin "range.__reversed__") [.ref r]) _ _ _ from
    call_meets PySem.F.slot_range_reversed hT PySem.F.entry_range_reversed (PySem.F.args_range_reversed_1 _) (range_rev_meets r b t u v hb hb2) ⟨hr, ?_⟩)
  first
  | exact wpAny_pure h
  | exact wpAny_bind (wpAny_pure (wpAny_pure h))
theorem call_reversed_range {r : Addr} {b : Int} {t u v : Tok} {Q : Value → Shared → Prop} (hb : 0 ≤ b) (hb2 : b ≤ 2 ^ 60) (hr : s.heap.get? r = some { cls := .type "range", dict := none, data := .fields #[.int 0 t, .int b u, .int 1 v], slots := #[] })
    (h : Q (.ref s.heap.objs.size) { s with heap := s.heap.push (rritObj 0 b) }) : wpAny (model prog w) A (call (.type "reversed") [.ref r]) Q E s := by
  refine callType_other (U := "range_iterator") (Q₁ := fun obj s₁ => obj = .ref s.heap.objs.size ∧ s₁ = { s with heap := s.heap.push (rritObj 0 b) }) (by decide +kernel) PySem.F.create_reversed ⟨_, _, PySem.F.mro_reversed⟩ PySem.F.made_reversed sub_rit_reversed (PySem.F.typeCall_reversed_1 _) (code_reversed_range hb hb2 hr ⟨rfl, rfl⟩) ?_
  rintro obj s₁ ⟨rfl, rfl⟩
  exact ⟨⟨_, Heap.get?_push_size _ rfl, rfl⟩, h⟩

/-! ### list(reversed(list)) -/
theorem nolen_lri : typeLookup (.type "list_reverseiterator") "__len__" = pure none := by rw [typeLookup_type, builtinLookup_eq_fast]; kernel_rfl
theorem hint_lri : typeLookup (.type "list_reverseiterator") "__length_hint__" = pure (some (.builtin "list_reverseiterator.__length_hint__")) := by rw [typeLookup_type, builtinLookup_eq_fast]; kernel_rfl
theorem lhint_rev {I : Addr} {Q : Bool → Shared → Prop} (hT : s.TypeIs (.ref I) "list_reverseiterator") (h : Q false s) : wpAny (model prog w) A (Builtin.List.listLengthHint (.ref I)) Q E s := by
  unfold Builtin.List.listLengthHint
  refine wpAny_bind (wpAny_specialOf hT nolen_lri ?_)
  show wpAny _ A (specialOf (Value.ref I) (Str.ofString "__length_hint__") >>= _) _ _ _
  refine wpAny_bind (wpAny_specialOf hT hint_lri ?_)
  generalize hid : ("list_reverseiterator.__length_hint__" : String) = id0
  wp_delta
  rw [show splitId id0 = some ("list_reverseiterator", "__length_hint__") from by subst hid; decide +kernel]
  subst hid
  refine wpAny_bind (wpAny_isInstance (b := true) hT (by rw [isSubtype_type]; kernel_rfl) ?_)
  exact wpAny_pure h
theorem extend_rev {R : Result → Shared → Prop} {I l : Addr} {items : Array Value} (hh : A.handled = none) (hne : l ≠ I) (hit : s.heap.IsRevIter I l ((items.size : Int) - 1)) (hl : s.heap.IsList l items) (hz : items.size ≤ sizeLine)
    (S : Addr) (hSI : S ≠ I) (hSl : S ≠ l) (res : Value) (c₀ : Nat) (hS : s.heap.get? S = some { cls := .type "list", data := .seq #[] c₀ })
    (hR : ∀ h' tk acc' c', (∀ b o, b ≠ S → b ≠ I → s.heap.get? b = some o → h'.get? b = some o) → h'.get? S = some { cls := .type "list", dict := none, data := .seq acc' c', slots := #[] } →
      ItemsOf (fun i v => items[items.size - 1 - i]? = some v) acc' items.size → R (.ok (.ret res)) { s with heap := h', toks := tk }) :
    wpAny (model prog w) A.in1 (Builtin.List.listExtendWith (.ref S) (.ref I) res)
      (fun fin s' => match fin with | .done f => R (.ok f) s' | .again c' => c'.quiet = true ∧ codeAny (model prog w) A c' R s') (fun e s' => R (.error e) s') s := by
  have hSf : S ∉ [I, l] := by simp only [List.mem_cons, List.not_mem_nil, or_false, not_or]; exact ⟨hSI, hSl⟩
  have W := (Walks.listRev (prog := prog) (w := w) (A := A.in1) hh I l hne items).toS
  unfold Builtin.List.listExtendWith
  refine wpAny_bind (wpAny_typeOf (T := "list_reverseiterator") hit.typeIs ?_)
  have h1 : Builtin.List.listSameRef (.ref S) (.ref I) = false := by simp [Builtin.List.listSameRef, hSI]
  rw [if_neg (by rw [h1]; decide)]
  refine wpAny_bind (wpAny_pyIter_revIter hit ?_)
  refine wpAny_bind (wpAny_holding (lhint_rev hit.typeIs ?_))
  rw [if_neg (by decide)]
  refine wpAny_pure ⟨plainId_quiet PySem.F.plain_extend_loop _, codeAny_extend_loopS W hz S hSf res items.size 0 _ #[] c₀ rfl (Nat.zero_le _) ⟨Nat.zero_le _, by simpa using hit, hl⟩ hS (ItemsOf.nil _) fun s' acc' c' hm hS' hacc => ?_⟩
  rw [Moved.eq_with hm]
  refine hR s'.heap s'.toks acc' c' (fun b o hb hb2 e => hm.heap b o (fun hmem => ?_) e) hS' hacc
  rcases List.mem_cons.mp hmem with e' | hmem
  · exact hb e'
  · exact hb2 (List.mem_singleton.mp hmem)
theorem call_list_rev {I l : Addr} {items : Array Value} {Q : Value → Shared → Prop} (hh : A.handled = none) (hne : l ≠ I) (hit : s.heap.IsRevIter I l ((items.size : Int) - 1)) (hl : s.heap.IsList l items) (hz : items.size ≤ sizeLine)
    (hQ : ∀ h' tk acc' c', (∀ b o, b ≠ I → s.heap.get? b = some o → h'.get? b = some o) → h'.get? s.heap.objs.size = some (listOf acc' c') →
      ItemsOf (fun i v => items[items.size - 1 - i]? = some v) acc' items.size → Q (.ref s.heap.objs.size) { s with heap := h', toks := tk }) :
    wpAny (model prog w) A (call (.type "list") [.ref I]) Q E s := by
  have hIlt : I < s.heap.objs.size := let ⟨o, ho, _⟩ := hit; Heap.lt_size ho
  have hllt : l < s.heap.objs.size := let ⟨o, ho, _⟩ := hl; Heap.lt_size ho
  refine callType_codes (Q₁ := fun obj s₁ => obj = .ref s.heap.objs.size ∧ s₁ = { s with heap := s.heap.push { cls := .type "list", data := .seq #[] } }) PySem.F.called_list (PySem.F.typeCall_list_1 _) PySem.F.entry_list_init
    (code_list_new _ ⟨rfl, rfl⟩) fun obj s₁ h₁ => ?_
  obtain ⟨rfl, rfl⟩ := h₁
  have hS : (s.heap.push { cls := .type "list", data := .seq #[] }).get? s.heap.objs.size = some { cls := .type "list", data := .seq #[] } := Heap.get?_push_size _ rfl
  refine ⟨⟨_, hS, rfl⟩, PySem.F.args_list_init_2 _ _, ?_⟩
  show wpAny _ _ (do let old ← Builtin.List.listItems (.ref s.heap.objs.size); Builtin.List.listUpdate (.ref s.heap.objs.size) (fun _ => #[]); letGo old.toList.reverse; Builtin.List.listExtendWith (.ref s.heap.objs.size) (.ref I) .none) _ _ _
  refine wpAny_bind ?_
  unfold Builtin.List.listItems
  refine wpAny_bind (wpAny_seqItems hS rfl (wpAny_pure ?_))
  show wpAny _ _ (updateSeq s.heap.objs.size (fun _ => #[]) >>= fun _ => letGo (#[] : Array Value).toList.reverse >>= fun _ => Builtin.List.listExtendWith (.ref s.heap.objs.size) (.ref I) .none) _ _ _
  refine wpAny_bind (wpAny_updateSeq hS rfl ?_)
  have hS₂ := Heap.get?_update_self (Obj.mapSeq (fun _ => (#[] : Array Value))) hS rfl
  have oth : ∀ b o, s.heap.get? b = some o → ((s.heap.push { cls := .type "list", data := .seq #[] }).update s.heap.objs.size (Obj.mapSeq (fun _ => (#[] : Array Value)))).get? b = some o :=
    fun b o e => (Heap.get?_update_other _ _ (Nat.ne_of_gt (Heap.lt_size e))).trans (Heap.get?_push_of_some _ e)
  refine wpAny_bind (wpAny_letGo ?_)
  refine extend_rev (A := A.in1) hh hne (hit.at fun o e => oth _ _ e) (hl.at fun o e => oth _ _ e) hz _ (Nat.ne_of_gt hIlt) (Nat.ne_of_gt hllt) .none _ hS₂ fun h' tk acc' c' hk hS' hacc => ?_
  exact ⟨rfl, hQ h' tk acc' c' (fun b o hb e => hk b o (Nat.ne_of_lt (Heap.lt_size e)) hb (oth b o e)) hS' hacc⟩
end
section
variable {C : Cx} {n : Nat} {env : Env} {ρ : Loc} {σ : St}
theorem WCall_revR {k : Nat} {Q : PV → St → Prop} (hk : k ≤ 1000000) (h : ∀ D, σ D = none → Q (.ref D) (σ.set D (.raw (rritObj 0 k)))) : WCall C n (.imm (.type "reversed")) [.rng 0 k] σ Q := by
  rintro F L ρ _ _ hB rfl hv A s E K hr hR hK
  cases hv with
  | cons r vv =>
    cases vv
    obtain ⟨a, t, u, v, rfl, ha⟩ := r
    refine call_reversed_range (b := k) (by (first | lia | omega)) (by (first | lia | omega)) (hR.fz _ _ ha).1 ?_
    exact hK _ _ ρ _ F _ s.toks ⟨rfl, h _ hR.fresh⟩ (.refl F) (hR.alloc (p := .raw (rritObj 0 k)) rfl rfl) rfl
/-- a fresh iterator of the store, used as an iterable -/
theorem WIt_self {items : List PV} {side : St → Prop} {iter : Expr} {st : Nat → Obj → Prop} {P : St → Prop} (ok : ItOk C items side st) (h : WE C n env iter ρ σ (fun v σ₁ => ∃ D o, v = .ref D ∧ σ₁ D = some (.raw o) ∧ st 0 o ∧ P (σ₁.del D))) : WIt C n env iter ρ σ st P := by
  intro F hB A s E K hr hR hK
  refine h F hB A s E _ hr hR ?_
  rintro v v' ρ₁ σ₁ F₁ h₁ tk₁ ⟨rfl, D, o, rfl, hD, hst, hP⟩ hle₁ R₁ vv
  cases vv
  obtain ⟨hDL, o', ho, rfl⟩ := R₁.st D _ hD
  have hFD : F₁ D = none := by
    cases e : F₁ D with
    | none => rfl
    | some ob => have := (R₁.fz D ob e).2.1; rw [hD] at this; cases this
  refine ok.again (s := { s with heap := h₁, toks := tk₁ }) ho hst fun tk => ?_
  exact hK D (σ₁.del D) F₁ h₁ tk o' hP hle₁ (R₁.lessS fun a p e => by
    unfold St.del at e
    by_cases ha : a = D
    · rw [if_pos ha] at e; cases e
    · rw [if_neg ha] at e; exact e) ho hst (St.del_same ..) hFD hDL
theorem WCall_revL {a : Addr} {xs : List PV} {Q : PV → St → Prop} (e : σ a = some (.list xs)) (h : ∀ D, σ D = none → Q (.ref D) (σ.set D (.raw (revObj a ((xs.length : Int) - 1))))) : WCall C n (.imm (.type "reversed")) [.ref a] σ Q := by
  rintro F L ρ _ _ hB rfl hv A s E K hr hR hK
  cases hv with
  | cons r vv =>
    cases vv
    cases r
    obtain ⟨vs, m, ho, rr, hs⟩ := hR.list e
    refine call_reversed_list (IsL.isList (n := m) ho) ?_
    rw [hs]
    exact hK _ _ ρ _ F _ s.toks ⟨rfl, h _ hR.fresh⟩ (.refl F) (hR.alloc (p := .raw _) rfl rfl) rfl
theorem VRs.reverse {F : Fz} {ps : List PV} {vs : List Value} (x : VRs F ps vs) : VRs F ps.reverse vs.reverse := by
  induction x with
  | nil => exact .nil
  | cons a _ ih => simpa using ih.append (.cons a .nil)
theorem WCall_listRev {a D : Addr} {xs : List PV} {Q : PV → St → Prop} (e : σ a = some (.list xs)) (eD : σ D = some (.raw (revObj a ((xs.length : Int) - 1)))) (hz : xs.length ≤ 1000000) (h : ∀ b, σ b = none → Q (.ref b) ((σ.del D).set b (.list xs.reverse))) :
    WCall C n (.imm (.type "list")) [.ref D] σ Q := by
  rintro F L ρ _ _ hB rfl hv A s E K hr hR hK
  cases hv with
  | cons r vv =>
    cases vv
    cases r
    obtain ⟨vs, m, ho, rr, hs⟩ := hR.list e
    obtain ⟨_, oD, hoD, rfl⟩ := hR.st D _ eD
    have hne : a ≠ D := fun z => by subst z; rw [e] at eD; cases eD
    refine call_list_rev (l := a) (items := vs) hr.2.2 hne ⟨_, hoD, rfl, by rw [hs]; rfl⟩ (IsL.isList (n := m) ho) (by rw [hs, sizeLine_eq]; (first | lia | omega)) fun h' tk acc' c' hk ho' hacc => ?_
    have R1 := hR.forget eD (h' := h') (fun b o hb eb => hk b o hb eb)
    have hb0 : (σ.del D) s.heap.objs.size = none := by
      unfold St.del
      split
      · rfl
      · exact hR.fresh
    have R2 := R1.adopt (p := .list xs.reverse) ho' ⟨acc', c', rfl, ?_⟩ hR.freshF (Nat.ne_of_gt hR.ltL)
    · exact hK _ _ ρ _ F h' tk ⟨rfl, h _ hR.fresh⟩ (.refl F) R2 rfl
    · have q := rr.reverse
      have : acc'.toList = vs.toList.reverse := by
        refine List.ext_getElem (by simp [hacc.1]) fun i h1 h2 => ?_
        have h1' : i < acc'.size := by simpa using h1
        have : vs[vs.size - 1 - i]? = some acc'[i] := hacc.2 i acc'[i] (by simp [h1'])
        have hlt : vs.size - 1 - i < vs.size := by rw [hacc.1] at h1'; (first | lia | omega)
        rw [Array.getElem?_eq_getElem hlt] at this
        rw [List.getElem_reverse]
        simpa using (Option.some.inj this).symm
      rw [this]; exact q
end
end Mine

namespace Mine
/-! ## Layer 2i: slices, bytes, types -/
theorem slicePick_min (items : Array Value) (b : Nat) : slicePick items none (some (b : Int)) none = (items.toList.take b).toArray := by
  by_cases hb : b ≤ items.size
  · exact slicePick_upto items b hb
  · have e : sliceBounds none (some (b : Int)) none items.size = sliceBounds none (some (items.size : Int)) none items.size := by
      simp only [sliceBounds, Option.getD_none]
      have h2 : ¬ ((b : Int) < 0) := by (first | lia | omega)
      have h3 : ¬ ((items.size : Int) < 0) := by (first | lia | omega)
      simp only [h2, h3, if_false, show (1 : Int) > 0 by decide, if_true]
      congr 2
      (first | lia | omega)
    have q := slicePick_upto items items.size (Nat.le_refl _)
    unfold slicePick at q ⊢
    rw [e, q, List.take_of_length_le (by simp), List.take_of_length_le (by simp; (first | lia | omega))]
section
variable {C : Cx} {n : Nat} {env : Env} {ρ : Loc} {σ : St}
/-- script[:k] -/
theorem WE_sliceS {value u : Expr} {p pos : Pos} {Q : PV → St → Prop} (ht : ∀ o r, letTemporaryGo value o r = pure ())
    (h : WE C n env value ρ σ (fun a σ₁ => WE C n env u ρ σ₁ (fun c σ₂ => ∃ l o xs, ∃ k : Nat, a = .ref l ∧ c = .int k ∧ σ₂ l = some (.slist o xs) ∧ xs.length ≤ 1000000 ∧ ∀ b, σ₂ b = none → Q (.ref b) (σ₂.set b (.list (iL (xs.take k))))))) :
    WE C n env (.Subscript value (.Slice none (some u) none p) pos) ρ σ Q := by
  intro F hB A s E K hr hR hK
  refine wpAny_Subscript_list_slice (h F hB A s E _ hr hR ?_) ht
  rintro a a' ρ₁ σ₁ F₁ h₁ tk₁ ⟨rfl, hq1⟩ hle₁ R₁ va
  rw [evalPart_none]
  refine wpAny_pure ?_
  rw [evalPart_some]
  refine hq1 F₁ (hB.trans hle₁) A _ E _ hr R₁ ?_
  rintro c c' ρ₂ σ₂ F₂ h₂ tk₂ ⟨rfl, l, o, xs, k, rfl, rfl, hl, hz, hq2⟩ hle₂ R₂ vc
  cases va
  obtain ⟨tc, rfl⟩ := vc
  refine held fun hn1 => ?_
  obtain ⟨_, o', ho, rfl, hc, vs, m, hd, hi⟩ := R₂.st l _ hl
  refine hn1 ?_
  have hlen : vs.toList.length = xs.length := hi.length
  refine ⟨l, vs, none, some (k : Int), rfl, ⟨o', ho, hc, m, hd⟩, by simp at hlen; rw [sizeLine_eq]; (first | lia | omega), .none, .int _ _, ?_⟩
  have R₃ := R₂.push { cls := .type "slice", data := .fields #[.none, .int k tc, .none] }
  have hf := R₃.fresh
  have R₄ := R₃.alloc (o := { cls := .type "list", data := .seq (slicePick vs none (some (k : Int)) none) }) (p := .list (iL (xs.take k))) ⟨_, _, rfl, ?_⟩ rfl
  · rw [Heap.size_push] at R₄ hf
    exact hK _ _ ρ₂ _ F₂ _ tk₂ ⟨rfl, hq2 _ hf⟩ (hle₁.trans hle₂) R₄ rfl
  · rw [slicePick_min]
    have := (VRs.ofInts (F := F₂) hi).take k
    simpa [iL, List.map_take] using this
/-- x[:k], x a frozen list of ints -/
theorem WE_sliceF {value u : Expr} {p pos : Pos} {Q : PV → St → Prop} {sc : Addr} {o : Obj} {xs : List Int} (ht : ∀ o r, letTemporaryGo value o r = pure ()) (hb : C.B sc = some o) (hc : o.cls = .type "list") (hd : ∃ vs m, o.data = .seq vs m ∧ IntsAre vs.toList xs) (hz : xs.length ≤ 1000000)
    (h : WE C n env value ρ σ (fun a σ₁ => WE C n env u ρ σ₁ (fun c σ₂ => ∃ k : Nat, a = .imm (.ref sc) ∧ c = .int k ∧ ∀ b, σ₂ b = none → Q (.ref b) (σ₂.set b (.list (iL (xs.take k))))))) :
    WE C n env (.Subscript value (.Slice none (some u) none p) pos) ρ σ Q := by
  intro F hB A s E K hr hR hK
  refine wpAny_Subscript_list_slice (h F hB A s E _ hr hR ?_) ht
  rintro a a' ρ₁ σ₁ F₁ h₁ tk₁ ⟨rfl, hq1⟩ hle₁ R₁ va
  rw [evalPart_none]
  refine wpAny_pure ?_
  rw [evalPart_some]
  refine hq1 F₁ (hB.trans hle₁) A _ E _ hr R₁ ?_
  rintro c c' ρ₂ σ₂ F₂ h₂ tk₂ ⟨rfl, k, rfl, rfl, hq2⟩ hle₂ R₂ vc
  cases va
  obtain ⟨tc, rfl⟩ := vc
  refine held fun hn2 => ?_
  obtain ⟨vs, m, hd, hi⟩ := hd
  refine hn2 ?_
  have ho : h₂.get? sc = some o := (R₂.fz sc o ((hB.trans (hle₁.trans hle₂)) _ _ hb)).1
  have hlen : vs.toList.length = xs.length := hi.length
  refine ⟨sc, vs, none, some (k : Int), rfl, ⟨o, ho, hc, m, hd⟩, by simp at hlen; rw [sizeLine_eq]; (first | lia | omega), .none, .int _ _, ?_⟩
  have R₃ := R₂.push { cls := .type "slice", data := .fields #[.none, .int k tc, .none] }
  have hf := R₃.fresh
  have R₄ := R₃.alloc (o := { cls := .type "list", data := .seq (slicePick vs none (some (k : Int)) none) }) (p := .list (iL (xs.take k))) ⟨_, _, rfl, ?_⟩ rfl
  · rw [Heap.size_push] at R₄ hf
    exact hK _ _ ρ₂ _ F₂ _ tk₂ ⟨rfl, hq2 _ hf⟩ (hle₁.trans hle₂) R₄ rfl
  · rw [slicePick_min]
    have := (VRs.ofInts (F := F₂) hi).take k
    simpa [iL, List.map_take] using this
/-- x[i:j] -/
theorem WE_sliceL {value e1 e2 : Expr} {p pos : Pos} {Q : PV → St → Prop} (ht : ∀ o r, letTemporaryGo value o r = pure ())
    (h : WE C n env value ρ σ (fun a σ₁ => WE C n env e1 ρ σ₁ (fun c1 σ₂ => WE C n env e2 ρ σ₂ (fun c2 σ₃ => ∃ l xs, ∃ i j : Nat, a = .ref l ∧ c1 = .int i ∧ c2 = .int j ∧ σ₃ l = some (.list xs) ∧ i ≤ j ∧ j ≤ xs.length ∧ xs.length ≤ 1000000 ∧
      ∀ b, σ₃ b = none → Q (.ref b) (σ₃.set b (.list ((xs.drop i).take (j - i)))))))) :
    WE C n env (.Subscript value (.Slice (some e1) (some e2) none p) pos) ρ σ Q := by
  intro F hB A s E K hr hR hK
  refine wpAny_Subscript_list_slice (h F hB A s E _ hr hR ?_) ht
  rintro a a' ρ₁ σ₁ F₁ h₁ tk₁ ⟨rfl, hq1⟩ hle₁ R₁ va
  rw [evalPart_some]
  refine hq1 F₁ (hB.trans hle₁) A _ E _ hr R₁ ?_
  rintro c1 c1' ρ₂ σ₂ F₂ h₂ tk₂ ⟨rfl, hq2⟩ hle₂ R₂ vc1
  rw [evalPart_some]
  refine hq2 F₂ (hB.trans (hle₁.trans hle₂)) A _ E _ hr R₂ ?_
  rintro c2 c2' ρ₃ σ₃ F₃ h₃ tk₃ ⟨rfl, l, xs, i, j, rfl, rfl, rfl, hl, hij, hj, hz, hq3⟩ hle₃ R₃ vc2
  cases va
  obtain ⟨t1, rfl⟩ := vc1
  obtain ⟨t2, rfl⟩ := vc2
  refine held fun hn3 => ?_
  obtain ⟨vs, m, ho, rr, hs⟩ := R₃.list hl
  refine hn3 ?_
  refine ⟨l, vs, some (i : Int), some (j : Int), rfl, IsL.isList (n := m) ho, by rw [hs, sizeLine_eq]; (first | lia | omega), .int _ _, .int _ _, ?_⟩
  have R₄ := R₃.push { cls := .type "slice", data := .fields #[.int i t1, .int j t2, .none] }
  have hf := R₄.fresh
  have R₅ := R₄.alloc (o := { cls := .type "list", data := .seq (slicePick vs (some (i : Int)) (some (j : Int)) none) }) (p := .list ((xs.drop i).take (j - i))) ⟨_, _, rfl, ?_⟩ rfl
  · rw [Heap.size_push] at R₅ hf
    exact hK _ _ ρ₃ _ F₃ _ tk₃ ⟨rfl, hq3 _ hf⟩ (hle₁.trans (hle₂.trans hle₃)) R₅ rfl
  · rw [slicePick_run vs i j (by (first | lia | omega)) hij]
    simpa using (rr.drop i).take (j - i)
/-- b[:k] -/
theorem WE_sliceB {value u : Expr} {p pos : Pos} {Q : PV → St → Prop} (ht : ∀ o r, letTemporaryGo value o r = pure ())
    (h : WE C n env value ρ σ (fun a σ₁ => WE C n env u ρ σ₁ (fun c σ₂ => ∃ b, ∃ k : Nat, a = .bytes b ∧ c = .int k ∧ b.size ≤ 1000000 ∧ Q (.bytes (b.toList.take k).toArray) σ₂))) :
    WE C n env (.Subscript value (.Slice none (some u) none p) pos) ρ σ Q := by
  intro F hB A s E K hr hR hK
  refine wpAny_Subscript_Slice (T := "bytes") FB.slot_bytes_getitem.lookup (h F hB A s E _ hr hR ?_) ht
  rintro a a' ρ₁ σ₁ F₁ h₁ tk₁ ⟨rfl, hq1⟩ hle₁ R₁ va
  refine wpAny_Slice ?_
  rw [evalPart_none]
  refine wpAny_pure ?_
  rw [evalPart_some]
  refine hq1 F₁ (hB.trans hle₁) A _ E _ hr R₁ ?_
  rintro c c' ρ₂ σ₂ F₂ h₂ tk₂ ⟨rfl, b, k, rfl, rfl, hz, hq2⟩ hle₂ R₂ vc
  obtain ⟨t, rfl⟩ := va
  obtain ⟨tc, rfl⟩ := vc
  have hp : KBy.picked b none (some (k : Int)) = (b.toList.take k).toArray := by
    rw [KBc.picked_eq]
    simp only [Option.elim, clipAt_nat, List.drop_zero, Nat.sub_zero]
    congr 1
    by_cases hk : k ≤ b.size
    · rw [Nat.min_eq_left hk]
    · rw [Nat.min_eq_right (by (first | lia | omega)), List.take_of_length_le (by simp), List.take_of_length_le (by simp; (first | lia | omega))]
  refine wpAny_pure ⟨typeIs_bytes _ _ _, getItem_meets (typeIs_bytes _ _ _) (by decide) FB.slot_bytes_getitem FB.entry_bytes_getitem (FB.args_bytes_getitem_2 _ _) (KBc.meets_slice2 b t _ .none (.int _ _))
    ⟨Heap.IsSliceOf.new _ _ _ _, Nat.le_trans (KBc.size_picked_le b _ _) (by rw [sizeLine_eq]; (first | lia | omega)), fun t' k' => ?_⟩⟩
  rw [hp]
  exact hK _ _ ρ₂ σ₂ F₂ _ k' ⟨rfl, hq2⟩ (hle₁.trans hle₂) (R₂.push _) ⟨t', rfl⟩
/-- b[i] -/
theorem WSub_bytes {value slice : Expr} {b : Array UInt8} {i : Int} {Q : PV → St → Prop} (hs : ∀ o k, subscripted slice false o k = operate [o, k] (getItem o k)) (hz : b.size ≤ 1000000) (h0 : 0 ≤ i) (h1 : i < b.size)
    (h : Q (.int (b.toList.getD i.toNat 0).toNat) σ) : WSub C n value slice (.bytes b) (.int i) σ Q := by
  rintro F L ρ _ _ hB ⟨t, rfl⟩ ⟨u, rfl⟩ A s E K hr hR hK
  refine tail_any (typeIs_bytes _ _ _) FB.slot_bytes_getitem.lookup ?_ (hs _ _)
  have := getItem_bytes (prog := C.prog) (w := C.w) (A := A) (E := E) (s := s) (t := t) (u := u) (l := b.toList) (i := i) (Q := K) (by simp; (first | lia | omega)) h0 (by simpa using h1) (hK _ _ ρ σ F s.heap _ ⟨rfl, h⟩ (.refl F) hR ⟨_, rfl⟩)
  simpa using this
theorem WCall_lenB {b : Array UInt8} {Q : PV → St → Prop} (hz : b.size ≤ 1000000) (h : Q (.int b.size) σ) : WCall C n (.imm (.builtin "len")) [.bytes b] σ Q := by
  rintro F L ρ _ _ hB rfl hv A s E K hr hR hK
  cases hv with
  | cons r vv =>
    cases vv
    obtain ⟨t, rfl⟩ := r
    exact len_bytes (by (first | lia | omega)) (hK _ _ ρ σ F s.heap _ ⟨rfl, h⟩ (.refl F) hR ⟨_, rfl⟩)
/-- type(x) -/
theorem WCall_typeB {b : Array UInt8} {Q : PV → St → Prop} (h : Q (.imm (.type "bytes")) σ) : WCall C n (.imm (.type "type")) [.bytes b] σ Q := by
  rintro F L ρ _ _ hB rfl hv A s E K hr hR hK
  cases hv with
  | cons r vv =>
    cases vv
    obtain ⟨t, rfl⟩ := r
    exact call_type_of (Tx := "bytes") (typeIs_bytes _ _ _) (by decide +kernel) (hK _ _ ρ σ F s.heap s.toks ⟨rfl, h⟩ (.refl F) hR rfl)
theorem WCall_typeBool {b : Bool} {Q : PV → St → Prop} (h : Q (.imm (.type "bool")) σ) : WCall C n (.imm (.type "type")) [.bool b] σ Q := by
  rintro F L ρ _ _ hB rfl hv A s E K hr hR hK
  cases hv with
  | cons r vv =>
    cases vv
    cases r
    exact call_type_of (Tx := "bool") rfl (by decide +kernel) (hK _ _ ρ σ F s.heap s.toks ⟨rfl, h⟩ (.refl F) hR rfl)
/-- x is T -/
theorem WCmp_isT {T U : String} {Q : PV → St → Prop} (h : Q (.bool (Value.type T == Value.type U)) σ) : WCmp C n .Is (.imm (.type T)) (.imm (.type U)) σ Q := by
  rintro F L ρ _ _ hB rfl rfl A s E K hr hR hK
  exact wpAny_is_plain rfl (hK _ _ ρ σ F s.heap s.toks ⟨rfl, h⟩ (.refl F) hR rfl)
theorem WCmp_isNoneBool {b : Bool} {Q : PV → St → Prop} (h : Q (.bool false) σ) : WCmp C n .Is (.bool b) .none σ Q := by
  rintro F L ρ _ _ hB rfl rfl A s E K hr hR hK
  exact wpAny_is_other rfl (by intro z; cases z) (hK _ _ ρ σ F s.heap s.toks ⟨rfl, h⟩ (.refl F) hR rfl)
theorem WCmp_isNotNone {Q : PV → St → Prop} (h : Q (.bool false) σ) : WCmp C n .IsNot .none .none σ Q := by
  rintro F L ρ _ _ hB rfl rfl A s E K hr hR hK
  exact wpAny_isNot_self rfl (hK _ _ ρ σ F s.heap s.toks ⟨rfl, h⟩ (.refl F) hR rfl)
/-- x.bit_length() -/
theorem WE_bitLen {o : Expr} {apos pos : Pos} {Q : PV → St → Prop} (hbase : attributeBase o (Str.ofString "bit_length") env (eval o env) = eval o env) (hline : (apos.endLine == pos.line) = true)
    (h : WE C n env o ρ σ (fun a σ₁ => ∃ x : Int, a = .int x ∧ Q (.int (Builtin.Int.intBits x)) σ₁)) : WE C n env (.Call (.Attribute o (Str.ofString "bit_length") apos) [] [] pos) ρ σ Q := by
  intro F hB A s E K hr hR hK
  refine wpAny_Call_method0_late hbase hline (h F hB A s E _ hr hR ?_)
  rintro a a' ρ₁ σ₁ F₁ h₁ tk₁ ⟨rfl, x, rfl, hq⟩ hle₁ R₁ ⟨t, rfl⟩
  refine ⟨"int", "int.bit_length", PySem.F.plainAttrs_int, PySem.F.slot_int_bit_length, PySem.F.type_int_bit_length, typeIs_int _ _ _, (fun a e => nomatch e), ?_⟩
  refine Calls.callWith_builtin rfl (PySem.evalArgs_none ?_)
  exact call_int_bit_length (hK _ _ ρ₁ σ₁ F₁ h₁ _ ⟨rfl, hq⟩ hle₁ R₁ ⟨_, rfl⟩)
/-- a, b = pair -/
theorem WAsg_pair {x y : Str} {k : Nat} {p1 p2 pos : Pos} {a b : Int} {Q : Loc → St → Prop} (h : WStore C n env x (.int a) ρ σ (fun ρ₁ σ₁ => WStore C n env y (.int b) ρ₁ σ₁ Q)) :
    WAsg C n env (.Tuple [.Name x p1, .Name y p2] k pos) (.pair a b) ρ σ Q := by
  intro F v' hB rv A s E K hr hR hK
  refine held fun hn4 => ?_
  obtain ⟨ad, t, u, o, rfl, ha, hc, m, hd⟩ := rv
  refine hn4 ?_
  refine wpAny_assign_Tuple (items := #[.int a t, .int b u]) hr.2.2 ⟨o, (hR.fz _ _ ha).1, hc, m, hd⟩ rfl rfl fun h' hx => ?_
  have R' : Rep F env.locals ρ σ h' := hR.grow fun b o e => hx b o (Nat.ne_of_lt (Heap.lt_size e)) e
  show wpAny _ _ (assignInOrder [assign (.Name x p1) env, assign (.Name y p2) env] [.int a t, .int b u]) _ _ _
  refine assignInOrder_cons (wpAny_assign_Name (h F (.int a t) hB ⟨t, rfl⟩ A _ _ _ hr R' ?_))
  rintro _ _ ρ₁ σ₁ F₁ h₁ tk₁ hq1 hle₁ R₁ _
  refine assignInOrder_cons (wpAny_assign_Name (hq1 F₁ (.int b u) (hB.trans hle₁) ⟨u, rfl⟩ A _ _ _ hr R₁ ?_))
  rintro _ _ ρ₂ σ₂ F₂ h₂ tk₂ hq2 hle₂ R₂ _
  exact assignInOrder_nil (hK () () ρ₂ σ₂ F₂ h₂ tk₂ hq2 (hle₁.trans hle₂) R₂ trivial)
/-- list != list, of bytes -/
theorem WCmp_neB {a b : Addr} {xs ys : List (Array UInt8)} {Q : PV → St → Prop} (ea : σ a = some (.list (xs.map PV.bytes))) (eb : σ b = some (.list (ys.map PV.bytes))) (h : Q (.bool (!decide (xs = ys))) σ) : WCmp C n .NotEq (.ref a) (.ref b) σ Q := by
  rintro F L ρ _ _ hB rfl rfl A s E K hr hR hK
  refine held fun hn5 => ?_
  obtain ⟨vs, m, ho, rr, hs⟩ := hR.list ea
  refine hn5 ?_
  refine held fun hn6 => ?_
  obtain ⟨ws, m2, ho2, rr2, hs2⟩ := hR.list eb
  refine hn6 ?_
  have fin := hK (.bool (!decide (xs = ys))) _ ρ σ F s.heap s.toks ⟨rfl, h⟩ (.refl F) hR rfl
  have gv : ∀ j (hj : j < vs.size), ∃ t, vs[j] = .bytes (xs.getD j #[]) t := by
    intro j hj
    have hj' : j < xs.length := by simpa [hs] using hj
    refine held fun hn7 => ?_
    obtain ⟨v, ev, t, e⟩ := rr.get (i := j) (p := .bytes (xs.getD j #[])) (by simp [hj'])
    refine hn7 ?_
    refine ⟨t, ?_⟩
    rw [← e]
    have : vs[j]? = some v := by simpa using ev
    rw [Array.getElem?_eq_getElem hj] at this
    exact Option.some.inj this
  have gw : ∀ j (hj : j < ws.size), ∃ t, ws[j] = .bytes (ys.getD j #[]) t := by
    intro j hj
    have hj' : j < ys.length := by simpa [hs2] using hj
    refine held fun hn8 => ?_
    obtain ⟨v, ev, t, e⟩ := rr2.get (i := j) (p := .bytes (ys.getD j #[])) (by simp [hj'])
    refine hn8 ?_
    refine ⟨t, ?_⟩
    rw [← e]
    have : ws[j]? = some v := by simpa using ev
    rw [Array.getElem?_eq_getElem hj] at this
    exact Option.some.inj this
  simp only [List.length_map] at hs hs2
  by_cases hl : vs.size = ws.size
  · refine PySem.SeqAt.RcNeAt.lists (e := fun j => decide ((xs.getD j #[]).toList = (ys.getD j #[]).toList)) (IsL.isList (n := m) ho) (IsL.isList (n := m2) ho2) hl hr.units (fun j h1 h2 => ?_) _ _ _ _ ?_
    · obtain ⟨t, e1⟩ := gv j h1
      obtain ⟨u, e2⟩ := gw j h2
      rw [e1, e2]
      intro prog w E Q hq
      exact eqBool_bytes hq
    · have e : (List.range vs.size).all (fun j => decide ((xs.getD j #[]).toList = (ys.getD j #[]).toList)) = decide (xs = ys) := by
        rw [Bool.eq_iff_iff, List.all_eq_true, decide_eq_true_iff]
        constructor
        · intro hh
          refine List.ext_getElem (by (first | lia | omega)) fun i h1 h2 => ?_
          have := hh i (by simp; (first | lia | omega))
          simp only [decide_eq_true_eq] at this
          have q := Array.ext' this
          simpa [List.getD_eq_getElem?_getD, h1, h2] using q
        · rintro rfl j _
          simp
      rw [e]
      exact fin
  · have hne : xs ≠ ys := fun z => hl (by rw [hs, hs2, z])
    refine PySem.SeqAt.RcNeAt.lists_lengths (IsL.isList (n := m) ho) (IsL.isList (n := m2) ho2) (by simpa using hl) hr.units _ _ _ _ ?_
    simpa [hne] using fin
end
end Mine

namespace Mine
/-! ## Layer 2j: set(list of bytes), its length -/
noncomputable def ddS {K : Type} [DecidableEq K] (acc : List K) (k : K) : List K := if k ∈ acc then acc else acc ++ [k]
noncomputable def dd {K : Type} [DecidableEq K] (l : List K) : List K := l.foldl ddS []
section
variable {K : Type} [DecidableEq K]
theorem dd_snoc (l : List K) (v : K) : dd (l ++ [v]) = ddS (dd l) v := by simp [dd, List.foldl_append]
theorem mem_ddS (l : List K) (v k : K) : k ∈ ddS l v ↔ k ∈ l ∨ k = v := by
  unfold ddS
  split
  · rename_i h
    constructor
    · exact .inl
    · rintro (h' | rfl)
      · exact h'
      · exact h
  · simp
theorem ddS_length (l : List K) (v : K) : (ddS l v).length = if v ∈ l then l.length else l.length + 1 := by
  unfold ddS; split <;> simp
theorem dd_length_le (l : List K) : (dd l).length ≤ l.length := by
  have gen : ∀ (l acc : List K), (l.foldl ddS acc).length ≤ acc.length + l.length := by
    intro l
    induction l with
    | nil => intro acc; simp
    | cons v l ih =>
      intro acc
      rw [List.foldl_cons]
      refine Nat.le_trans (ih _) ?_
      rw [ddS_length]
      split <;> simp <;> (first | lia | omega)
  simpa [dd] using gen l []
end
section
variable {prog : Program} {w : World} {A : Around} {R : Result → Shared → Prop} {I : Addr} {fp wr : List Addr} {G : Array GenState → Array GenState → Prop} {n : Nat} {P : Nat → Value → Prop} {St : Nat → Shared → Prop}
theorem set_loopB (W : WalksS prog w A.in1 I fp wr G n P St) (S : Addr) (hSf : S ∉ fp) (xs : List (List UInt8)) (hn : n = xs.length)
    (hval : ∀ i v, P i v → ∃ t, v = Value.bytes (xs.getD i []).toArray t) (hb : n + 1 < scanBound) :
    ∀ (k i : Nat) (s : Shared), n - i = k → i ≤ n → St i s →
      s.heap.SetOf (bytesKind prog w) S (fun k' => decide (k' ∈ dd (xs.take i))) (dd (xs.take i)).length →
      (∀ s', Moved (S :: wr) G s s' → s'.heap.SetOf (bytesKind prog w) S (fun k' => decide (k' ∈ dd xs)) (dd xs).length → R (.ok (.ret .none)) s') →
      codeAny (model prog w) A (.builtin "set.update.loop" ⟨[.ref S, .ref I], []⟩) R s := by
  have hSw : S ∉ wr := fun h => hSf (W.sub _ h)
  have hsub : ∀ b ∈ wr, b ∈ S :: wr := fun b hb => List.mem_cons_of_mem _ hb
  intro k
  induction k with
  | zero =>
    intro i s hk hi hst hS hR
    have hin : i = n := by (first | lia | omega)
    subst hin
    rw [List.take_of_length_le (by (first | lia | omega))] at hS
    refine codeAny_builtin PyProof.Rows.F.entry_set_update_loop ?_
    rw [Around.under_plainId PyProof.Rows.F.plain_set_update_loop _]
    show wpAny _ A.in1 (pyNext (.ref I) >>= _) _ _ s
    refine wpAny_bind (W.done s _ _ hst fun s' hm => ?_)
    show wpAny _ A.in1 (ret Value.none) _ _ s'
    exact wpAny_pure (hR s' (hm.mono hsub) (by
      obtain ⟨o, es, ep, t, ho, rest⟩ := hS
      exact ⟨o, es, ep, t, hm.heap S _ hSw ho, rest⟩))
  | succ k ih =>
    intro i s hk hi hst hS hR
    have hlt : i < n := by (first | lia | omega)
    refine codeAny_builtin PyProof.Rows.F.entry_set_update_loop ?_
    rw [Around.under_plainId PyProof.Rows.F.plain_set_update_loop _]
    show wpAny _ A.in1 (pyNext (.ref I) >>= _) _ _ s
    refine wpAny_bind (W.item i s _ _ hlt hst fun v s' hP hst' hm => ?_)
    obtain ⟨t, rfl⟩ := hval i v hP
    have hS' : s'.heap.SetOf (bytesKind prog w) S (fun k' => decide (k' ∈ dd (xs.take i))) (dd (xs.take i)).length := by
      obtain ⟨o, es, ep, tb, ho, rest⟩ := hS
      exact ⟨o, es, ep, tb, hm.heap S _ hSw ho, rest⟩
    show wpAny _ A.in1 (holding [Value.bytes (xs.getD i []).toArray t] (setAdd S (.bytes (xs.getD i []).toArray t)) >>= _) _ _ s'
    refine wpAny_bind (wpAny_holding ?_)
    unfold setAdd
    refine wpAny_holding ?_
    have his : (bytesKind prog w).is (xs.getD i []) (.bytes (xs.getD i []).toArray t) = true := by
      show ((xs.getD i []).toArray.toList == xs.getD i []) = true
      simp
    refine wpAny_bind ((bytesKind prog w).pyHash (k := xs.getD i []) his ?_)
    have hroom : (dd (xs.take i)).length + 1 < scanBound := by
      have h1 := dd_length_le (xs.take i)
      have h2 : (xs.take i).length ≤ i := by simp; (first | lia | omega)
      (first | lia | omega)
    refine wpAny_setAddHashed_of (knd := bytesKind prog w) (s := { s' with toks := s'.toks + 1 }) his rfl hS' hroom fun h' hsb hS2 => ?_
    have htk : xs.take (i + 1) = xs.take i ++ [xs.getD i []] := by
      have : i < xs.length := by (first | lia | omega)
      rw [List.take_add_one]
      simp [List.getD_eq_getElem?_getD, this]
    have hSi : h'.SetOf (bytesKind prog w) S (fun k' => decide (k' ∈ dd (xs.take (i + 1)))) (dd (xs.take (i + 1))).length :=
      SetOf_congr hS2 (fun k' => by
        rw [htk, dd_snoc, Bool.eq_iff_iff]
        simp [mem_ddS]) (by
        rw [htk, dd_snoc, ddS_length]
        by_cases hm : xs.getD i [] ∈ dd (xs.take i) <;> simp only [hm, decide_true, decide_false, if_true, if_false, Bool.false_eq_true])
    refine wpAny_pure ⟨plainId_quiet PyProof.Rows.F.plain_set_update_loop _, ih (i + 1) _ (by (first | lia | omega)) hlt (W.frame _ s' _ _ hst' (Nat.le_succ _) fun b hb o e => ?_) hSi fun s'' hm'' hS'' => ?_⟩
    · rw [hsb.2 b (fun h : b = S => hSf (by rw [← h]; exact hb))]; exact e
    · refine hR s'' (Moved.trans W.gtrans ((hm.mono hsub).then_heap (Nat.le_succ _) fun b o hb e => ?_) hm'') hS''
      rw [hsb.2 b (fun h : b = S => hb (by rw [h]; exact List.mem_cons_self))]; exact e
end
section
variable {prog : Program} {w : World} {A : Around} {E : Value → Shared → Prop} {s : Shared}
set_option maxHeartbeats 3200000 in
theorem call_set_bytes {l : Addr} {items : Array Value} {xs : List (List UInt8)} {Q : Value → Shared → Prop}
    (hh : A.handled = none) (hl : s.heap.IsList l items) (hn : items.size = xs.length) (hval : ∀ i v, items[i]? = some v → ∃ t, v = Value.bytes (xs.getD i []).toArray t) (hb : items.size + 1 < scanBound)
    (h : ∀ (h' : Heap) (tk : Nat), h'.SetOf (bytesKind prog w) s.heap.objs.size (fun k' => decide (k' ∈ dd xs)) (dd xs).length →
      (∀ b o, s.heap.get? b = some o → h'.get? b = some o) → Q (.ref s.heap.objs.size) { s with heap := h', toks := tk }) :
    wpAny (model prog w) A (call (.type "set") [.ref l]) Q E s := by
  obtain ⟨c, tl, hmro⟩ := PySem.F.called_set.mro
  have hmade := PySem.F.called_set.made
  have hsub := PySem.F.called_set.sub
  refine wpAny_call (codeAny_of_tree ?_)
  show wpAny _ _ (callAny (.type "set") _) _ _ _
  refine wpAny_pure ⟨Code.quiet_builtin _ (by decide +kernel), codeAny_builtin PySem.F.entry_type_call ?_⟩
  rw [Around.under_plain (weight_type_call_type "set" [.ref l] []) rfl]
  have h1 := PySem.F.called_set.notType
  have h2 := PySem.F.called_set.canCreate
  have hct := PySem.F.typeCall_set_1 (.ref l)
  repeat (any_goals (first | assumption | wp_step))
  refine codeAny_mono (code_set_new_1 (.ref l) (E := E) (Q₁ := fun obj s₁ => ∃ led : Bool, obj = .ref s.heap.objs.size ∧ s₁ = { s with heap := s.heap.push { cls := .type "set", dict := none, data := .set #[] 0 (.fresh 0 0 led) } }) fun led => ⟨led, rfl, rfl⟩) fun r s₁ hr => ?_
  cases r with
  | error e => exact hr
  | ok fl =>
    cases fl with
    | ret obj =>
      obtain ⟨led, rfl, rfl⟩ := hr
      have hS : (s.heap.push { cls := .type "set", dict := none, data := .set #[] 0 (.fresh 0 0 led) }).get? s.heap.objs.size = some { cls := .type "set", dict := none, data := .set #[] 0 (.fresh 0 0 led) } := Heap.get?_push_size _ rfl
      have hT : Shared.TypeIs { s with heap := s.heap.push { cls := .type "set", dict := none, data := .set #[] 0 (.fresh 0 0 led) } } (.ref s.heap.objs.size) "set" := ⟨_, hS, rfl⟩
      have hli := PySem.F.called_set.init.lookup
      have hbi := PySem.F.called_set.init.bind (.ref s.heap.objs.size)
      repeat (any_goals (first | assumption | wp_step))
      refine codeAny_mono (codeAny_call_builtin (R := wants (fun r s₂ => r = .none ∧ ∃ h' tk, s₂ = { s with heap := h', toks := tk } ∧
          h'.SetOf (bytesKind prog w) s.heap.objs.size (fun k' => decide (k' ∈ dd xs)) (dd xs).length ∧
          (∀ b o, s.heap.get? b = some o → h'.get? b = some o)) E) PySem.F.called_set.init.plain PySem.F.entry_set_init (check_set_init_1 hT ?_)) fun r₂ s₂ hr₂ => ?_
      · obtain ⟨ol, hol, hcl, nl, hdl⟩ := hl
        obtain ⟨ocls, odict, odata, oslots⟩ := ol
        simp only at hcl hdl
        subst hcl; subst hdl
        have hol' : (s.heap.push { cls := .type "set", dict := none, data := .set #[] 0 (.fresh 0 0 led) }).get? l = some { cls := .type "list", dict := odict, data := .seq items nl, slots := oslots } := Heap.get?_push_of_some _ hol
        have hsls := PySem.F.sub_list_set
        have hslf := PySem.F.sub_list_frozenset
        have hne : (Value.type "list" == Value.type "dict") = false := by decide
        have hl1 : (s.heap.push { cls := .type "set", dict := none, data := .set #[] 0 (.fresh 0 0 led) }).IsList l items := ⟨_, hol', rfl, nl, rfl⟩
        unfold Builtin.«set.__init__» noKeywords Builtin.Frozenset.updateFrom
        generalize hPI : pyIter = PI
        wp_walk
        subst hPI
        refine wpAny_pyIter_list hl1 ?_
        refine wpAny_bind (wpAny_runValue ?_)
        have hlS : l < s.heap.objs.size := Heap.lt_size hol
        have hh3 : A.in1.in1.in1.handled = none := by simp [hh]
        have hneI : l ≠ (s.heap.push { cls := .type "set", dict := none, data := .set #[] 0 (.fresh 0 0 led) }).objs.size := by
          rw [Heap.size_push]; exact Nat.ne_of_lt (Nat.lt_succ_of_lt hlS)
        have hSf : s.heap.objs.size ∉ [(s.heap.push { cls := .type "set", dict := none, data := .set #[] 0 (.fresh 0 0 led) }).objs.size, l] := by
          rw [Heap.size_push]; simp only [List.mem_cons, List.not_mem_nil, or_false, not_or]
          exact ⟨Nat.ne_of_lt (Nat.lt_succ_self _), Nat.ne_of_gt hlS⟩
        refine set_loopB ((Walks.list hh3 _ l hneI items).toS) s.heap.objs.size
          hSf xs hn hval hb (items.size - 0) 0 _ (by (first | lia | omega)) (Nat.zero_le _)
          ⟨⟨_, Heap.get?_push_size _ rfl, rfl, rfl⟩, (hl1.push _)⟩ ?hS0 ?hR
        case hS0 =>
          have hget : ((s.heap.push { cls := .type "set", dict := none, data := .set #[] 0 (.fresh 0 0 led) }).push { cls := .type "list_iterator", data := .fields #[.ref l, .int 0 0] }).get? s.heap.objs.size
              = some { cls := .type "set", dict := none, data := .set #[] 0 (.fresh 0 0 led) } := Heap.get?_push_of_some _ hS
          exact SetOf_congr ((setObjOf_fresh (knd := bytesKind prog w) led).setOf hget (by unfold scanBound; (first | lia | omega))) (fun _ => rfl) rfl
        case hR =>
          intro s' hm hS'
          obtain ⟨h', g', d', tk', os'⟩ := s'
          have eg : g' = s.gens := hm.gens
          have ed : d' = s.drawn := hm.drawn
          have eo : os' = s.os := hm.os
          subst eg; subst ed; subst eo
          show wpAny _ _ _ _ _ _
          refine wpAny_pure ?_
          show wpAny _ _ (ret Value.none) _ _ _
          refine wpAny_pure ⟨rfl, h', tk', rfl, hS', fun b o e => ?_⟩
          have hb : b < s.heap.objs.size := Heap.lt_size e
          have hb1 : b ≠ s.heap.objs.size := Nat.ne_of_lt hb
          have hb2 : b ≠ (s.heap.push { cls := .type "set", dict := none, data := .set #[] 0 (.fresh 0 0 led) }).objs.size := by
            rw [Heap.size_push]; exact Nat.ne_of_lt (Nat.lt_succ_of_lt hb)
          exact hm.heap b o (by simp only [List.mem_cons, List.not_mem_nil, or_false, not_or]; exact ⟨hb1, hb2⟩) (Heap.get?_push_of_some _ (Heap.get?_push_of_some _ e))
      · cases r₂ with
        | error e => exact hr₂
        | ok fl₂ =>
          cases fl₂ with
          | ret r =>
            obtain ⟨rfl, h', tk, rfl, hS', hk'⟩ := hr₂
            repeat (any_goals (first | assumption | wp_step))
            exact h _ _ hS' hk'
          | _ => exact hr₂.elim
    | _ => exact hr.elim
end
section
variable {C : Cx} {n : Nat} {env : Env} {ρ : Loc} {σ : St}
structure SetObj (o : Obj) (m : Nat) : Prop where
  ex : o.ExactSet
  dt : ∃ es ep t, o.data = .set es ep t ∧ t.fits es.size = true ∧ es.size = m
theorem WCall_setB {a : Addr} {xs : List (Array UInt8)} {Q : PV → St → Prop} (e : σ a = some (.list (xs.map PV.bytes))) (hz : xs.length ≤ 1000) (h : ∀ D o, σ D = none → SetObj o (dd (xs.map (·.toList))).length → Q (.ref D) (σ.set D (.raw o))) :
    WCall C n (.imm (.type "set")) [.ref a] σ Q := by
  rintro F L ρ _ _ hB rfl hv A s E K hr hR hK
  cases hv with
  | cons r vv =>
    cases vv
    cases r
    obtain ⟨vs, m, ho, rr, hs⟩ := hR.list e
    rw [List.length_map] at hs
    refine call_set_bytes (xs := xs.map (·.toList)) hr.2.2 (IsL.isList (n := m) ho) (by simpa using hs) (fun i v hv => ?_) (by unfold scanBound; (first | lia | omega)) fun h' tk hS hk => ?_
    · have hi : i < xs.length := by
        have := (Array.getElem?_eq_some_iff.mp hv).1
        (first | lia | omega)
      obtain ⟨v', ev, t, rfl⟩ := rr.get (i := i) (p := .bytes (xs.getD i #[])) (by simp [hi])
      have : vs[i]? = some (.bytes (xs.getD i #[]) t) := by simpa using ev
      rw [hv] at this
      cases this
      refine ⟨t, ?_⟩
      simp [List.getD_eq_getElem?_getD, hi]
    · obtain ⟨o, es, ep, t, ho', hex, hd, _, _, _, hf, hsz⟩ := hS
      exact hK _ _ ρ _ F h' tk ⟨rfl, h _ o hR.fresh ⟨hex, es, ep, t, hd, hf, hsz⟩⟩ (.refl F) (hR.allocAt hk (Nat.le_refl _) ho' (p := .raw o) rfl) rfl
theorem WCall_lenSet {D : Addr} {o : Obj} {m : Nat} {Q : PV → St → Prop} (e : σ D = some (.raw o)) (hs : SetObj o m) (hm : m ≤ 1000000) (h : Q (.int m) σ) : WCall C n (.imm (.builtin "len")) [.ref D] σ Q := by
  rintro F L ρ _ _ hB rfl hv A s E K hr hR hK
  cases hv with
  | cons r vv =>
    cases vv
    cases r
    obtain ⟨_, o', ho, rfl⟩ := hR.st D _ e
    obtain ⟨hex, es, ep, t, hd, hf, rfl⟩ := hs
    exact call_len_set ho hex hd hf (by (first | lia | omega)) (hK _ _ ρ σ F s.heap _ ⟨rfl, h⟩ (.refl F) hR ⟨_, rfl⟩)
end
end Mine

namespace Mine
/-! ## Layer 2k: sorted: the plain part -/
section
variable (key : Nat → Int) (n : Nat)
noncomputable def cmpP (i j : Nat) (C : Bool → Shared → Prop) (s : Shared) : Prop := i < n ∧ j < n ∧ C (decide (key i < key j)) s
noncomputable def kAt (p : Array Nat) (i : Nat) : Int := key (p[i]?.getD 0)
noncomputable def SortTo (p : Array Nat) (m : Nat) : Prop := ∀ i j, i ≤ j → j < m → kAt key p i ≤ kAt key p j
noncomputable def NonUp (p : Array Nat) (m : Nat) : Prop := ∀ i j, i ≤ j → j < m → kAt key p j ≤ kAt key p i
noncomputable def AllLt (p : Array Nat) : Prop := ∀ i : Nat, p[i]?.getD 0 < n
end
section
variable {key : Nat → Int} {n : Nat} {s : Shared}
theorem AllLt.perm {p q : Array Nat} (h : AllLt n p) (hp : q.Perm p) (hn : 0 < n) : AllLt n q := by
  intro i
  cases e : q[i]? with
  | none => exact hn
  | some v =>
    have hm : v ∈ p.toList := (hp.toList.mem_iff).mp (by simpa using Array.mem_of_getElem? e)
    obtain ⟨j, hj, ej⟩ := List.getElem_of_mem hm
    have := h j
    have e2 : p[j]? = some v := by rw [← ej]; simp
    rw [e2] at this
    exact this
theorem kAt_rev {p : Array Nat} {i j k : Nat} (hj : j ≤ p.size) : kAt key (kas_rev p i j) k = if i ≤ k ∧ k < j then kAt key p (i + j - 1 - k) else kAt key p k := by
  unfold kAt kas_rev
  rw [getElem?_mirror_all hj]
  split <;> rfl
theorem rev_perm (p : Array Nat) (i j : Nat) : (kas_rev p i j).Perm p := mirror_perm ..
theorem rev_size (p : Array Nat) (i j : Nat) : (kas_rev p i j).size = p.size := mirror_size ..
theorem asc_ok {p : Array Nat} (hA : AllLt n p) {nrem : Nat} {Q : Nat → Shared → Prop} : ∀ (f a : Nat), a + f = nrem → 1 ≤ a → SortTo key p a →
    (∀ m, a ≤ m → m ≤ nrem → SortTo key p m → (m = nrem ∨ kAt key p m < kAt key p (m - 1)) → Q m s) → (kas_asc p f a).kasWp (cmpP key n) Q s
  | 0, a, hf, h1, hs, hQ => hQ a (Nat.le_refl _) (by (first | lia | omega)) hs (.inl (by (first | lia | omega)))
  | f + 1, a, hf, h1, hs, hQ => by
    show cmpP key n _ _ _ s
    have e1 : ∀ i, p.getD i 0 = p[i]?.getD 0 := fun i => Array.getD_eq_getD_getElem? ..
    rw [e1, e1]
    refine ⟨hA _, hA _, ?_⟩
    by_cases hc : kAt key p a < kAt key p (a - 1)
    · have : decide (key (p[a]?.getD 0) < key (p[a - 1]?.getD 0)) = true := decide_eq_true hc
      rw [this]
      show KasT.kasWp _ (.ret a) _ _
      exact hQ a (Nat.le_refl _) (by (first | lia | omega)) hs (.inr hc)
    · have : decide (key (p[a]?.getD 0) < key (p[a - 1]?.getD 0)) = false := decide_eq_false hc
      rw [this]
      show KasT.kasWp _ (kas_asc p f (a + 1)) _ _
      refine asc_ok hA f (a + 1) (by (first | lia | omega)) (by (first | lia | omega)) ?_ fun m h1 h2 h3 h4 => hQ m (by (first | lia | omega)) h2 h3 h4
      intro i j hij hj
      by_cases hja : j = a
      · subst hja
        by_cases hia : i = j
        · subst hia; exact Int.le_refl _
        · have := hs i (j - 1) (by (first | lia | omega)) (by (first | lia | omega))
          (first | lia | omega)
      · exact hs i j hij (by (first | lia | omega))
theorem desc_ok (hn : 0 < n) {nrem : Nat} {Q : Array Nat × Nat × Nat → Shared → Prop} {p0 : Array Nat} : ∀ (f : Nat) (p : Array Nat) (a q : Nat), p.Perm p0 → AllLt n p → a + f = nrem → nrem ≤ p.size → q + 1 ≤ a → NonUp key p a →
    (∀ i, a - (q + 1) ≤ i → i < a → kAt key p i = kAt key p (a - 1)) →
    (∀ p' m q', p'.Perm p0 → AllLt n p' → m ≤ nrem → q' + 1 ≤ m → NonUp key p' m → (∀ i, m - (q' + 1) ≤ i → i < m → kAt key p' i = kAt key p' (m - 1)) → Q (p', m, q') s) → (kas_desc f p a q).kasWp (cmpP key n) Q s
  | 0, p, a, q, hp, hA, hf, hz, hq, hs, he, hQ => hQ p a q hp hA (by (first | lia | omega)) hq hs he
  | f + 1, p, a, q, hp, hA, hf, hz, hq, hs, he, hQ => by
    show cmpP key n _ _ _ s
    have e1 : ∀ i, p.getD i 0 = p[i]?.getD 0 := fun i => Array.getD_eq_getD_getElem? ..
    rw [e1, e1]
    refine ⟨hA _, hA _, ?_⟩
    by_cases hc : kAt key p a < kAt key p (a - 1)
    · have : decide (key (p[a]?.getD 0) < key (p[a - 1]?.getD 0)) = true := decide_eq_true hc
      rw [this]
      have hs1 : NonUp key p (a + 1) := by
        intro i j hij hj
        by_cases hja : j = a
        · subst hja
          by_cases hia : i = j
          · subst hia; exact Int.le_refl _
          · have := hs i (j - 1) (by (first | lia | omega)) (by (first | lia | omega))
            (first | lia | omega)
        · exact hs i j hij (by (first | lia | omega))
      show KasT.kasWp _ (if q > 0 then kas_desc f (kas_rev p (a - (q + 1)) a) (a + 1) 0 else kas_desc f p (a + 1) 0) _ _
      by_cases hq0 : q > 0
      · rw [if_pos hq0]
        have hk : ∀ k, k < a + 1 → kAt key (kas_rev p (a - (q + 1)) a) k = kAt key p k := by
          intro k hk
          rw [kAt_rev (by (first | lia | omega))]
          split
          · rename_i h
            rw [he _ (by (first | lia | omega)) (by (first | lia | omega)), he k h.1 h.2]
          · rfl
        refine desc_ok hn f _ (a + 1) 0 ((rev_perm ..).trans hp) (hA.perm (rev_perm ..) hn) (by (first | lia | omega)) (by rw [rev_size]; exact hz) (by (first | lia | omega)) ?_ ?_ hQ
        · intro i j hij hj
          rw [hk i (by (first | lia | omega)), hk j hj]
          exact hs1 i j hij hj
        · intro i h1 h2
          have : i = a := by (first | lia | omega)
          subst this; rfl
      · rw [if_neg hq0]
        refine desc_ok hn f p (a + 1) 0 hp hA (by (first | lia | omega)) hz (by (first | lia | omega)) hs1 ?_ hQ
        intro i h1 h2
        have : i = a := by (first | lia | omega)
        subst this; rfl
    · have : decide (key (p[a]?.getD 0) < key (p[a - 1]?.getD 0)) = false := decide_eq_false hc
      rw [this]
      show cmpP key n _ _ _ s
      refine ⟨hA _, hA _, ?_⟩
      by_cases hd : kAt key p (a - 1) < kAt key p a
      · have : decide (key (p[a - 1]?.getD 0) < key (p[a]?.getD 0)) = true := decide_eq_true hd
        rw [this]
        show KasT.kasWp _ (.ret (p, a, q)) _ _
        exact hQ p a q hp hA (by (first | lia | omega)) hq hs he
      · have : decide (key (p[a - 1]?.getD 0) < key (p[a]?.getD 0)) = false := decide_eq_false hd
        rw [this]
        show KasT.kasWp _ (kas_desc f p (a + 1) (q + 1)) _ _
        have heq : kAt key p a = kAt key p (a - 1) := by (first | lia | omega)
        refine desc_ok hn f p (a + 1) (q + 1) hp hA (by (first | lia | omega)) hz (by (first | lia | omega)) ?_ ?_ hQ
        · intro i j hij hj
          by_cases hja : j = a
          · subst hja
            by_cases hia : i = j
            · subst hia; exact Int.le_refl _
            · have := hs i (j - 1) (by (first | lia | omega)) (by (first | lia | omega))
              (first | lia | omega)
          · exact hs i j hij (by (first | lia | omega))
        · intro i h1 h2
          by_cases hia : i = a
          · subst hia; rfl
          · rw [he i (by (first | lia | omega)) (by (first | lia | omega))]
            show kAt key p (a - 1) = kAt key p (a + 1 - 1)
            rw [Nat.add_sub_cancel]
            exact heq.symm
theorem tail3_ok (hn : 0 < n) {nrem : Nat} {Q : Nat × Array Nat → Shared → Prop} {p0 p : Array Nat} {a : Nat} (hp : p.Perm p0) (hA : AllLt n p) (h1 : 1 ≤ a) (ha : a ≤ nrem) (hz : nrem ≤ p.size) (hs : NonUp key p a)
    (hQ : ∀ m p', p'.Perm p0 → AllLt n p' → 1 ≤ m → m ≤ nrem → SortTo key p' m → Q (m, p') s) : (kas_tail3 a nrem p).kasWp (cmpP key n) Q s := by
  unfold kas_tail3
  rw [KasT.kasWp_bind]
  have hA' := hA.perm (rev_perm p 0 a) hn
  refine asc_ok hA' (nrem := nrem) _ _ (by (first | lia | omega)) h1 ?_ fun m h2 h3 h4 _ => ?_
  · intro i j hij hj
    rw [kAt_rev (by (first | lia | omega)), kAt_rev (by (first | lia | omega)), if_pos ⟨by (first | lia | omega), by (first | lia | omega)⟩, if_pos ⟨by (first | lia | omega), hj⟩]
    exact hs _ _ (by (first | lia | omega)) (by (first | lia | omega))
  · exact hQ m _ ((rev_perm ..).trans hp) hA' (by (first | lia | omega)) h3 h4
theorem descPart_ok (hn : 0 < n) {nrem : Nat} {Q : Nat × Array Nat → Shared → Prop} {p0 p : Array Nat} {a : Nat} (hp : p.Perm p0) (hA : AllLt n p) (ha : a + 1 ≤ nrem) (hz : nrem ≤ p.size) (hs : NonUp key p (a + 1))
    (hQ : ∀ m p', p'.Perm p0 → AllLt n p' → 1 ≤ m → m ≤ nrem → SortTo key p' m → Q (m, p') s) : (kas_descPart a nrem p).kasWp (cmpP key n) Q s := by
  unfold kas_descPart
  rw [KasT.kasWp_bind]
  refine desc_ok hn (p0 := p0) (nrem := nrem) _ p (a + 1) 0 hp hA (by (first | lia | omega)) hz (by (first | lia | omega)) hs ?_ ?_
  · intro i h1 h2
    have : i = a := by (first | lia | omega)
    subst this; rfl
  · intro p' m q' hp' hA' hm hq' hs' he'
    have hz' : nrem ≤ p'.size := by rw [hp'.size_eq, ← hp.size_eq]; exact hz
    dsimp only
    by_cases hq0 : q' > 0
    · rw [if_pos hq0]
      refine tail3_ok hn (p0 := p0) ((rev_perm ..).trans hp') (hA'.perm (rev_perm ..) hn) (by (first | lia | omega)) hm (by rw [rev_size]; exact hz') ?_ hQ
      have hk : ∀ k, k < m → kAt key (kas_rev p' (m - (q' + 1)) m) k = kAt key p' k := by
        intro k hk
        rw [kAt_rev (by (first | lia | omega))]
        split
        · rename_i h
          rw [he' _ (by (first | lia | omega)) (by (first | lia | omega)), he' k h.1 h.2]
        · rfl
      intro i j hij hj
      rw [hk i (by (first | lia | omega)), hk j hj]
      exact hs' i j hij hj
    · rw [if_neg hq0]
      exact tail3_ok hn hp' hA' (by (first | lia | omega)) hm hz' hs' hQ
theorem count_ok (hn : 0 < n) {nrem : Nat} {Q : Nat × Array Nat → Shared → Prop} {p : Array Nat} (hA : AllLt n p) (h1 : 1 ≤ nrem) (hz : nrem ≤ p.size)
    (hQ : ∀ m p', p'.Perm p → AllLt n p' → 1 ≤ m → m ≤ nrem → SortTo key p' m → Q (m, p') s) : (kas_count nrem p).kasWp (cmpP key n) Q s := by
  unfold kas_count
  rw [KasT.kasWp_bind]
  refine asc_ok hA (nrem := nrem) _ _ (by (first | lia | omega)) (Nat.le_refl _) ?_ fun m h2 h3 h4 h5 => ?_
  · intro i j hij hj
    have : i = j := by (first | lia | omega)
    subst this; exact Int.le_refl _
  · by_cases hm : m = nrem
    · subst hm
      rw [if_pos (by simp)]
      exact hQ m p (Array.Perm.refl _) hA h2 (Nat.le_refl _) h4
    · have h5' : kAt key p m < kAt key p (m - 1) := h5.resolve_left hm
      rw [if_neg (by simpa using hm)]
      by_cases h1m : m > 1
      · rw [if_pos h1m]
        show cmpP key n _ _ _ s
        have e1 : ∀ i, p.getD i 0 = p[i]?.getD 0 := fun i => Array.getD_eq_getD_getElem? ..
        rw [e1, e1]
        refine ⟨hA _, hA _, ?_⟩
        by_cases hc : kAt key p 0 < kAt key p (m - 1)
        · have : decide (key (p[0]?.getD 0) < key (p[m - 1]?.getD 0)) = true := decide_eq_true hc
          rw [this]
          exact hQ m p (Array.Perm.refl _) hA h2 h3 h4
        · have : decide (key (p[0]?.getD 0) < key (p[m - 1]?.getD 0)) = false := decide_eq_false hc
          rw [this]
          show KasT.kasWp _ (kas_descPart m nrem (kas_rev p 0 m)) _ _
          have all : ∀ i, i < m → kAt key p i = kAt key p 0 := by
            intro i hi
            have a1 := h4 0 i (Nat.zero_le _) hi
            have a2 := h4 i (m - 1) (by (first | lia | omega)) (by (first | lia | omega))
            (first | lia | omega)
          have hk : ∀ k, k < m → kAt key (kas_rev p 0 m) k = kAt key p 0 := by
            intro k hk
            rw [kAt_rev (by (first | lia | omega)), if_pos ⟨by (first | lia | omega), hk⟩]
            exact all _ (by (first | lia | omega))
          have hkm : kAt key (kas_rev p 0 m) m = kAt key p m := by
            rw [kAt_rev (by (first | lia | omega)), if_neg (by (first | lia | omega))]
          refine descPart_ok hn (p0 := p) (rev_perm ..) (hA.perm (rev_perm ..) hn) (by (first | lia | omega)) (by rw [rev_size]; exact hz) ?_ hQ
          intro i j hij hj
          have := all (m - 1) (by (first | lia | omega))
          by_cases hjm : j = m
          · subst hjm
            by_cases him : i = j
            · subst him; exact Int.le_refl _
            · rw [hkm, hk i (by (first | lia | omega))]; (first | lia | omega)
          · rw [hk i (by (first | lia | omega)), hk j (by (first | lia | omega))]; exact Int.le_refl _
      · rw [if_neg h1m]
        have hm1 : m = 1 := by (first | lia | omega)
        subst hm1
        refine descPart_ok hn (p0 := p) (Array.Perm.refl _) hA (by (first | lia | omega)) hz ?_ hQ
        intro i j hij hj
        by_cases hij' : i = j
        · subst hij'; exact Int.le_refl _
        · have : i = 0 ∧ j = 1 := by (first | lia | omega)
          obtain ⟨rfl, rfl⟩ := this
          exact Int.le_of_lt h5'
theorem place_ok {p : Array Nat} {k : Nat} (hA : AllLt n p) (hs : SortTo key p k) {Q : Nat → Shared → Prop} : ∀ (f l r : Nat), r - l ≤ f → l ≤ r → r ≤ k → (∀ i, i < l → kAt key p i ≤ kAt key p k) → (∀ i, r ≤ i → i < k → kAt key p k < kAt key p i) →
    (∀ m, m ≤ k → (∀ i, i < m → kAt key p i ≤ kAt key p k) → (∀ i, m ≤ i → i < k → kAt key p k < kAt key p i) → Q m s) → (kas_place p k f l r).kasWp (cmpP key n) Q s
  | 0, l, r, hf, hlr, hrk, h1, h2, hQ => hQ l (by (first | lia | omega)) h1 fun i hi hik => h2 i (by (first | lia | omega)) hik
  | f + 1, l, r, hf, hlr, hrk, h1, h2, hQ => by
    unfold kas_place
    by_cases hc : l ≥ r
    · rw [if_pos hc]
      exact hQ l (by (first | lia | omega)) h1 fun i hi hik => h2 i (by (first | lia | omega)) hik
    · rw [if_neg hc]
      show cmpP key n _ _ _ s
      have e1 : ∀ i, p.getD i 0 = p[i]?.getD 0 := fun i => Array.getD_eq_getD_getElem? ..
      rw [e1, e1]
      refine ⟨hA _, hA _, ?_⟩
      by_cases hd : kAt key p k < kAt key p ((l + r) / 2)
      · have : decide (key (p[k]?.getD 0) < key (p[(l + r) / 2]?.getD 0)) = true := decide_eq_true hd
        rw [this]
        show KasT.kasWp _ (kas_place p k f l ((l + r) / 2)) _ _
        refine place_ok hA hs f l _ (by (first | lia | omega)) (by (first | lia | omega)) (by (first | lia | omega)) h1 (fun i hi hik => ?_) hQ
        have := hs ((l + r) / 2) i hi hik
        (first | lia | omega)
      · have : decide (key (p[k]?.getD 0) < key (p[(l + r) / 2]?.getD 0)) = false := decide_eq_false hd
        rw [this]
        show KasT.kasWp _ (kas_place p k f ((l + r) / 2 + 1) r) _ _
        refine place_ok hA hs f _ r (by (first | lia | omega)) (by (first | lia | omega)) hrk (fun i hi => ?_) h2 hQ
        have := hs i ((l + r) / 2) (by (first | lia | omega)) (by (first | lia | omega))
        (first | lia | omega)
theorem bin_ok (hn : 0 < n) {Q : Array Nat → Shared → Prop} {p0 : Array Nat} {N : Nat} : ∀ (f : Nat) (p : Array Nat) (k : Nat), k + f = N → p.Perm p0 → AllLt n p → N ≤ p.size → SortTo key p k →
    (∀ p', p'.Perm p0 → SortTo key p' N → Q p' s) → (kas_bin f p k).kasWp (cmpP key n) Q s
  | 0, p, k, hk, hp, hA, hz, hs, hQ => hQ p hp (by have : k = N := by (first | lia | omega)
                                                   exact this ▸ hs)
  | f + 1, p, k, hk, hp, hA, hz, hs, hQ => by
    unfold kas_bin
    rw [KasT.kasWp_bind]
    refine place_ok hA hs _ _ _ (by (first | lia | omega)) (by (first | lia | omega)) (Nat.le_refl _) (fun i hi => by (first | lia | omega)) (fun i hi hik => by (first | lia | omega)) fun m hm h1 h2 => ?_
    have hbp : (bubble p k (k - m)).Perm p := bubble_perm ..
    have kb : ∀ j, kAt key (bubble p k (k - m)) j = if j = m then kAt key p k else if m < j ∧ j ≤ k then kAt key p (j - 1) else kAt key p j := by
      intro j
      unfold kAt
      rw [getElem?_bubble (by (first | lia | omega)) (k - m) (by (first | lia | omega))]
      have : k - (k - m) = m := by (first | lia | omega)
      rw [this]
      split
      · rfl
      · split <;> rfl
    refine bin_ok hn f _ (k + 1) (by (first | lia | omega)) (hbp.trans hp) (hA.perm hbp hn) (by rw [hbp.size_eq]; exact hz) ?_ hQ
    intro i j hij hj
    rw [kb i, kb j]
    by_cases him : i = m
    · rw [if_pos him]
      by_cases hjm : j = m
      · rw [if_pos hjm]; exact Int.le_refl _
      · rw [if_neg hjm, if_pos ⟨by (first | lia | omega), by (first | lia | omega)⟩]
        exact Int.le_of_lt (h2 (j - 1) (by (first | lia | omega)) (by (first | lia | omega)))
    · rw [if_neg him]
      by_cases hjm : j = m
      · rw [if_pos hjm, if_neg (by (first | lia | omega))]
        exact h1 i (by (first | lia | omega))
      · rw [if_neg hjm]
        by_cases hi2 : m < i ∧ i ≤ k
        · rw [if_pos hi2, if_pos ⟨by (first | lia | omega), by (first | lia | omega)⟩]
          exact hs (i - 1) (j - 1) (by (first | lia | omega)) (by (first | lia | omega))
        · rw [if_neg hi2]
          by_cases hj2 : m < j ∧ j ≤ k
          · rw [if_pos hj2]
            exact hs i (j - 1) (by (first | lia | omega)) (by (first | lia | omega))
          · rw [if_neg hj2]
            exact hs i j hij (by (first | lia | omega))
theorem sort_ok (hn : 1 ≤ n) {Q : Array Nat → Shared → Prop} (hQ : ∀ p : Array Nat, p.Perm (List.range n).toArray → SortTo key p n → Q p s) : (kas_sort n).kasWp (cmpP key n) Q s := by
  unfold kas_sort
  rw [KasT.kasWp_bind]
  have hA : AllLt n (List.range n).toArray := by
    intro i
    by_cases hi : i < n
    · simp [hi]
    · simp [hi]; (first | lia | omega)
  refine count_ok hn hA hn (by simp) fun m p' hp' hA' h1 h2 h3 => ?_
  dsimp only
  have hz : p'.size = n := by rw [hp'.size_eq]; simp
  by_cases hlt : m < n
  · rw [if_pos hlt]
    refine bin_ok hn (p0 := (List.range n).toArray) (N := n) _ _ _ (by (first | lia | omega)) hp' hA' (by (first | lia | omega)) ?_ fun p'' a b => hQ p'' a b
    have : max m 1 = m := by (first | lia | omega)
    rw [this]; exact h3
  · rw [if_neg hlt]
    have : m = n := by (first | lia | omega)
    subst this
    exact hQ p' hp' h3
theorem kasWp_weak {α : Type} {c1 c2 : Nat → Nat → (Bool → Shared → Prop) → Shared → Prop} {Q : α → Shared → Prop} (hc : ∀ i j C, c1 i j C s → c2 i j C s) (hmono : ∀ i j C C', (∀ b, C b s → C' b s) → c1 i j C s → c1 i j C' s) : ∀ (t : KasT α), t.kasWp c1 Q s → t.kasWp c2 Q s
  | .ret _, h => h
  | .ask i j k, h => hc i j _ (hmono i j _ _ (fun b hb => kasWp_weak hc hmono (k b) hb) h)
end
end Mine

namespace Mine
/-! ## Layer 2l: list < list; sorted(list of lists of ints) -/
noncomputable def lexI : List Int → List Int → Bool
  | a :: as, b :: bs => if a = b then lexI as bs else decide (a < b)
  | _, _ => false
open AutoSeq1 (wpAny_loadPart')
set_option maxHeartbeats 4000000 in
theorem lt_loop (l b : Addr) (items items2 : Array Value) (n n2 : Nat) (dd dd2 : Option Addr) (sl sl2 : Array (Option Value)) (hsz : items.size = items2.size) (ns ms : List Int) (hv : IntsAre items.toList ns) (hw : IntsAre items2.toList ms) (k : Nat) :
    ∀ i : Nat, items.size - i = k → Meets (Builtin.«list.__eq__.loop» ⟨[.ref l, .ref b, rawInt i, rawInt 0], []⟩)
      (fun A R s => s.heap.get? l = some { cls := .type "list", dict := dd, data := .seq items n, slots := sl } ∧ s.heap.get? b = some { cls := .type "list", dict := dd2, data := .seq items2 n2, slots := sl2 } ∧
        R (.ok (.ret (.bool (lexI (ns.drop i) (ms.drop i))))) s) := by
  have l1 : ns.length = items.size := by rw [← hv.length]; simp
  have l2 : ms.length = items2.size := by rw [← hw.length]; simp
  induction k with
  | zero =>
    intro i hk prog w A R s h
    obtain ⟨hp, g, d, tk, os⟩ := s; obtain ⟨hl, hb, h⟩ := h
    wp_walk using wpAny_loadPart' hl, wpAny_loadPart' hb
    have hi1 : items[((i : Nat) : Int).toNat]? = none := by simp; (first | lia | omega)
    have hi2 : items2[((i : Nat) : Int).toNat]? = none := by simp; (first | lia | omega)
    have hd : ns.drop i = [] := by simp; (first | lia | omega)
    rw [hd] at h
    rw [hi1, hi2]
    wp_walk using wpAny_loadPart' hl, wpAny_loadPart' hb
    show R (.ok (.ret (.bool (decide (items.size < items2.size))))) _
    rw [hsz]
    simpa [lexI] using h
  | succ k ih =>
    intro i hk prog w A R s h
    obtain ⟨hp, g, d, tk, os⟩ := s; obtain ⟨hl, hb, h⟩ := h
    wp_walk using wpAny_loadPart' hl, wpAny_loadPart' hb
    have hlt : i < items.size := by (first | lia | omega)
    have hlt2 : i < items2.size := by (first | lia | omega)
    obtain ⟨t, et⟩ := hv.int_at i items[i] (by simp [hlt])
    obtain ⟨u, eu⟩ := hw.int_at i items2[i] (by simp [hlt2])
    have hi1 : items[((i : Nat) : Int).toNat]? = some (.int (ns.getD i 0) t) := by simp [hlt, et]
    have hi2 : items2[((i : Nat) : Int).toNat]? = some (.int (ms.getD i 0) u) := by simp [hlt2, eu]
    have hc : ((i : Int) + 1) = ((i + 1 : Nat) : Int) := by push_cast; rfl
    have d1 : ns.drop i = ns.getD i 0 :: ns.drop (i + 1) := by rw [List.drop_eq_getElem_cons (by (first | lia | omega))]; simp [List.getD_eq_getElem?_getD, show i < ns.length by (first | lia | omega)]
    have d2 : ms.drop i = ms.getD i 0 :: ms.drop (i + 1) := by rw [List.drop_eq_getElem_cons (by (first | lia | omega))]; simp [List.getD_eq_getElem?_getD, show i < ms.length by (first | lia | omega)]
    rw [d1, d2] at h
    generalize ns.getD i 0 = x at *
    generalize ms.getD i 0 = y at *
    rw [hi1, hi2]
    refine wpAny_bind (eqBool_int ?_)
    by_cases hxy : x = y
    · subst hxy
      have q : (x == x) = true := by simp
      rw [q]
      wp_walk
      rw [hc]
      exact ⟨plainId_quiet PySem.MeetsSeq3.plain_eq_loop _, codeAny_builtin PySem.MeetsSeq3.entry_eq_loop (by
        rw [Around.under_plainId PySem.MeetsSeq3.plain_eq_loop _]
        exact ih (i + 1) (by (first | lia | omega)) prog w A R _ ⟨hl, hb, by simpa [lexI] using h⟩)⟩
    · have q : (x == y) = false := by simpa using hxy
      rw [q]
      wp_walk using wpAny_loadPart' hl, wpAny_loadPart' hb
      rw [hi1, hi2]
      refine wpAny_bind (rich_lt_int ?_)
      wp_walk
      simpa [lexI, hxy] using h
theorem list_lt (l b : Addr) (items items2 : Array Value) (n n2 : Nat) (dd dd2 : Option Addr) (sl sl2 : Array (Option Value)) (hsz : items.size = items2.size) (ns ms : List Int) (hv : IntsAre items.toList ns) (hw : IntsAre items2.toList ms) :
    Meets (Builtin.«list.__lt__» ⟨[.ref l, .ref b], []⟩)
      (fun A R s => s.heap.get? l = some { cls := .type "list", dict := dd, data := .seq items n, slots := sl } ∧ s.heap.get? b = some { cls := .type "list", dict := dd2, data := .seq items2 n2, slots := sl2 } ∧
        R (.ok (.ret (.bool (lexI ns ms)))) s) := by
  intro prog w A R s h
  obtain ⟨hp, g, d, tk, os⟩ := s; obtain ⟨hl, hb, h⟩ := h
  have f3 := AutoSeq1.sub_list_list
  wp_walk using wpAny_loadPart' hl, wpAny_loadPart' hb
  exact ⟨plainId_quiet PySem.MeetsSeq3.plain_eq_loop _, codeAny_builtin PySem.MeetsSeq3.entry_eq_loop (by
    rw [Around.under_plainId PySem.MeetsSeq3.plain_eq_loop _]
    exact lt_loop l b items items2 n n2 dd dd2 sl sl2 hsz ns ms hv hw _ 0 rfl prog w A R _ ⟨hl, hb, by simpa using h⟩)⟩
section
variable {prog : Program} {w : World} {A : Around} {E : Value → Shared → Prop} {s : Shared}
theorem keyLt_lists {l b : Addr} {vs ws : Array Value} {m m2 : Nat} {ns ms : List Int} {Q : Bool → Shared → Prop} (hl : s.heap.get? l = some (listOf vs m)) (hb : s.heap.get? b = some (listOf ws m2)) (hsz : vs.size = ws.size) (hv : IntsAre vs.toList ns) (hw : IntsAre ws.toList ms)
    (hu : A.units < cLine) (h : Q (lexI ns ms) s) : wpAny (model prog w) A (keyLt' oneType' (.ref l) (.ref b)) Q E s := by
  rw [keyLt'_oneType, oneLt'_eq]
  simp only [if_true]
  refine wpAny_bind (wpAny_cRoomFor hu ?_)
  refine wpAny_bind (wpAny_callSpecialIfBound?_slot (T := "list") ⟨_, hl, rfl⟩ PySem.F.slot_list_lt (call_meets PySem.F.slot_list_lt ⟨_, hl, rfl⟩ PySem.F.entry_list_lt (PySem.F.args_list_lt_2 _ _) (list_lt l b vs ws m m2 none none #[] #[] hsz ns ms hv hw) ⟨hl, hb, ?_⟩))
  exact wpAny_truthy_bool h
end
/-! the heap cut below a frame, for the library's rule of sorted -/
noncomputable def cutH (h : Heap) (L : Nat) : Heap := { h with objs := h.objs.extract 0 L }
noncomputable def newsOf (h : Heap) (L : Nat) : List (Addr × Obj) := (List.range h.objs.size).filterMap fun a => if L < a then (h.get? a).map (fun o => (a, o)) else none
theorem cutH_get {h : Heap} {L a : Nat} : (cutH h L).get? a = if a < L then h.get? a else none := by
  by_cases hl : a < L
  · rw [if_pos hl]
    have : (h.objs.extract 0 L)[a]? = h.objs[a]? := by
      rw [Array.getElem?_extract]
      simp only [Nat.zero_add, Nat.sub_zero]
      by_cases hs : a < h.objs.size
      · rw [if_pos (by (first | lia | omega))]
      · rw [if_neg (by (first | lia | omega)), Array.getElem?_eq_none (by (first | lia | omega))]
    simp only [Heap.get?, cutH, this]
  · rw [if_neg hl]
    have : (h.objs.extract 0 L)[a]? = none := by
      rw [Array.getElem?_extract]
      rw [if_neg (by (first | lia | omega))]
    simp only [Heap.get?, cutH, this]
theorem mem_newsOf {h : Heap} {L : Nat} {b : Addr} {o : Obj} : (b, o) ∈ newsOf h L ↔ @LT.lt Nat _ L b ∧ h.get? b = some o := by
  unfold newsOf
  rw [List.mem_filterMap]
  constructor
  · rintro ⟨a, ha, e⟩
    by_cases hl : L < a
    · rw [if_pos hl] at e
      cases q : h.get? a with
      | none => rw [q] at e; cases e
      | some o' =>
        rw [q] at e
        cases e
        exact ⟨hl, q⟩
    · rw [if_neg hl] at e; cases e
  · rintro ⟨hl, e⟩
    refine ⟨b, by simpa using Heap.lt_size e, ?_⟩
    rw [if_pos hl, e]
    rfl
theorem cut_fr {h : Heap} {L : Addr} {m : Str → Option Value} (hn : h.Ns L m) : Fr (cutH h L) L h m where
  ns := hn
  keep b o e := by
    rw [cutH_get] at e
    split at e
    · exact e
    · cases e
  above := by
    show (h.objs.extract 0 L).size ≤ L
    rw [Array.size_extract]
    show min L h.objs.size - 0 ≤ L
    exact Nat.le_trans (Nat.sub_le ..) (Nat.min_le_left ..)
theorem cut_news {h : Heap} {L : Addr} : News (cutH h L) L h (newsOf h L) := by
  rintro ⟨b, o⟩ hp
  obtain ⟨hl, e⟩ := mem_newsOf.mp hp
  refine ⟨e, Nat.ne_of_gt hl, ?_⟩
  rw [cutH_get, if_neg (Nat.not_lt.mpr (Nat.le_of_lt hl))]
theorem cut_keep {h h' : Heap} {L : Addr} {m : Str → Option Value} {x : List (Addr × Obj)} (F' : Fr (cutH h L) L h' m) (N' : News (cutH h L) L h' (x ++ newsOf h L)) : ∀ b o, b ≠ L → h.get? b = some o → h'.get? b = some o := by
  intro b o hb e
  by_cases hl : @LT.lt Nat _ b L
  · exact F'.keep b o (by rw [cutH_get, if_pos hl]; exact e)
  · have hgt : @LT.lt Nat _ L b := by
      rcases Nat.lt_or_ge L b with q | q
      · exact q
      · exact absurd (Nat.le_antisymm q (Nat.not_lt.mp hl)) hb
    exact (N' (b, o) (List.mem_append_right _ (mem_newsOf.mpr ⟨hgt, e⟩))).1
theorem Rep.framed {F : Fz} {L : Addr} {ρ : Loc} {σ : St} {h h' : Heap} {m : Str → Option Value} (R : Rep F L ρ σ h) (hm : ∀ x v, ρ.lookup x = some v → ∃ v', m x = some v' ∧ VR F v v') (hn : h'.Ns L m) (k : ∀ b o, b ≠ L → h.get? b = some o → h'.get? b = some o) : Rep F L ρ σ h' where
  fz b o e := let ⟨x, y, z⟩ := R.fz b o e; ⟨k b o z x, y, z⟩
  st a p e := let ⟨x, o, y, z⟩ := R.st a p e; ⟨x, o, k a o x y, z⟩
  ns := ⟨m, hn, hm⟩
section
variable {C : Cx} {n : Nat} {env : Env} {ρ : Loc} {σ : St}
theorem VRs.refs {F : Fz} : ∀ {as : List Addr} {vs : List Value}, VRs F (as.map PV.ref) vs → vs = as.map Value.ref
  | [], _, h => by cases h; rfl
  | a :: as, _, h => by
    cases h with
    | cons r h =>
      cases r
      rw [VRs.refs h]; rfl
theorem VRs.ofRefs {F : Fz} : ∀ (as : List Addr), VRs F (as.map PV.ref) (as.map Value.ref)
  | [] => .nil
  | _ :: as => .cons rfl (VRs.ofRefs as)
/-- sorted(list of lists of ints of one length) -/
theorem WCall_sortedL {l : Addr} {as : List Addr} {row : Nat → List Int} {key : Nat → Int} {len : Nat} {Q : PV → St → Prop} (e : σ l = some (.list (as.map PV.ref))) (h2 : 2 ≤ as.length) (h64 : as.length < 64)
    (hrow : ∀ i a, as[i]? = some a → σ a = some (.list (iL (row i))) ∧ (row i).length = len) (hkey : ∀ i j, i < as.length → j < as.length → lexI (row i) (row j) = decide (key i < key j))
    (h : ∀ D (p : List Nat), σ D = none → p.Perm (List.range as.length) → p.Pairwise (fun i j => key i ≤ key j) → Q (.ref D) (σ.set D (.list (p.map fun i => PV.ref (as.getD i 0))))) :
    WCall C n (.imm (.builtin "sorted")) [.ref l] σ Q := by
  rintro F L ρ _ _ hB rfl hv A s E K hr hR hK
  cases hv with
  | cons r vv =>
    cases vv
    cases r
    obtain ⟨vs, m, ho, rr, hs⟩ := hR.list e
    have hvs : vs.toList = as.map Value.ref := rr.refs
    have hvs' : vs = (as.map Value.ref).toArray := by rw [← hvs]
    obtain ⟨ml, hns, hm⟩ := hR.ns
    have hlen : (as.map Value.ref).length = as.length := List.length_map ..
    have hobj : ∀ i a, as[i]? = some a → a ≠ L ∧ ∃ ws mm, s.heap.get? a = some (listOf ws mm) ∧ IntsAre ws.toList (row i) ∧ ws.size = len := by
      intro i a ha
      obtain ⟨x, y⟩ := hrow i a ha
      obtain ⟨ws, mm, hw, rw', hsw⟩ := hR.list x
      refine ⟨(hR.st a _ x).1, ws, mm, hw, rw'.intsAre, ?_⟩
      rw [hsw, List.length_map, y]
    refine kas_sorted (T := .type "list") (vs := as.map Value.ref) (cut_fr hns) (cut_news (h := s.heap) (L := L)) (by rw [← hvs']; exact IsL.isList (n := m) ho) (by rw [hlen]; exact h2) (by rw [hlen]; exact h64) ?_ (by decide +kernel) ?_
    · intro h' F' N' v hv
      obtain ⟨a, ha, rfl⟩ := List.mem_map.mp hv
      obtain ⟨i, hi⟩ := List.getElem?_of_mem ha
      obtain ⟨hL, ws, mm, hw, _⟩ := hobj i a hi
      have hw' := cut_keep (x := []) F' N' a _ hL hw
      intro A Q E s' hk hq
      exact wpAny_typeOf (T := "list") ⟨_, hk _ _ hw', rfl⟩ hq
    · intro D e1 h' F' N' hD
      have hkeep := cut_keep (x := [(D, seqObj "list" #[] e1)]) F' N'
      rw [hlen]
      refine kasWp_weak (c1 := cmpP key as.length) ?_ ?_ _ (sort_ok (by (first | lia | omega)) ?_)
      · rintro i j C' ⟨hi, hj, hc⟩
        have gi : (as.map Value.ref).getD i Value.none = .ref (as.getD i 0) := by simp [List.getD_eq_getElem?_getD, hi]
        have gj : (as.map Value.ref).getD j Value.none = .ref (as.getD j 0) := by simp [List.getD_eq_getElem?_getD, hj]
        have ai : as[i]? = some (as.getD i 0) := by simp [List.getD_eq_getElem?_getD, hi]
        have aj : as[j]? = some (as.getD j 0) := by simp [List.getD_eq_getElem?_getD, hj]
        obtain ⟨hLi, ws, mm, hw, hwi, hwl⟩ := hobj i _ ai
        obtain ⟨hLj, us, mu, hu, hui, hul⟩ := hobj j _ aj
        show wpAny _ _ (keyLt' oneType' _ _) _ _ _
        rw [gi, gj]
        refine keyLt_lists (s := { s with heap := h' }) (hkeep _ _ hLi hw) (hkeep _ _ hLj hu) (by rw [hwl, hul]) hwi hui ?_ ?_
        · have := hr.2.1
          show A.units + 1 + 1 < cLine
          (first | lia | omega)
        · rw [hkey i j hi hj]; exact hc
      · rintro i j C1 C2 hcc ⟨hi, hj, hc⟩
        exact ⟨hi, hj, hcc _ hc⟩
      · intro p hp hsort
        refine ⟨(D, seqObj "list" #[] e1) :: newsOf s.heap L, fun o => (D, o) :: newsOf s.heap L, F', N', ?_, ?_⟩
        · exact .head fun p hp => Nat.ne_of_lt (hD p hp)
        · intro h'' c F'' N''
          have hkeep2 := cut_keep (x := [(D, listOf (p.toList.map fun i => (as.map Value.ref).getD i Value.none).toArray c)]) F'' N''
          obtain ⟨hoD, hDL, hDc⟩ := N'' _ (.head _)
          have hDn : ∀ o, s.heap.get? D = some o → False := by
            intro o ho
            by_cases hl : @LT.lt Nat _ D L
            · rw [cutH_get, if_pos hl] at hDc
              rw [ho] at hDc; cases hDc
            · have hgt : @LT.lt Nat _ L D := by
                rcases Nat.lt_or_ge L D with q | q
                · exact q
                · exact absurd (Nat.le_antisymm q (Nat.not_lt.mp hl)) hDL
              exact Nat.lt_irrefl _ (hD (D, o) (mem_newsOf.mpr ⟨hgt, ho⟩))
          have hσD : σ D = none := by
            cases q : σ D with
            | none => rfl
            | some x => obtain ⟨_, o, ho, _⟩ := hR.st D x q; exact (hDn o ho).elim
          have hFD : F D = none := by
            cases q : F D with
            | none => rfl
            | some x => exact (hDn x (hR.fz D x q).1).elim
          have hpp : p.toList.Perm (List.range as.length) := by simpa using hp.toList
          have hin : ∀ i ∈ p.toList, i < as.length := fun i hi => by simpa using (hpp.mem_iff).mp hi
          have R2 := (hR.framed hm F''.ns hkeep2).adopt (p := .list (p.toList.map fun i => PV.ref (as.getD i 0))) hoD ⟨_, _, rfl, ?_⟩ hFD hDL
          · refine hK _ _ ρ _ F h'' s.toks ⟨rfl, h D p.toList hσD hpp ?_⟩ (.refl F) R2 rfl
            rw [List.pairwise_iff_getElem]
            intro i j hi hj hij
            have hsz : p.size = as.length := by have := hpp.length_eq; simpa using this
            have := hsort i j (Nat.le_of_lt hij) (by simpa [hsz] using hj)
            unfold kAt at this
            have hi' : i < p.size := by simpa using hi
            have hj' : j < p.size := by simpa using hj
            simpa [hi', hj'] using this
          · have e1 : (p.toList.map fun i => (as.map Value.ref).getD i Value.none) = (p.toList.map fun i => as.getD i 0).map Value.ref := by
              rw [List.map_map]
              refine List.map_congr_left fun i hi => ?_
              simp [List.getD_eq_getElem?_getD, hin i hi]
            have e2 : (p.toList.map fun i => PV.ref (as.getD i 0)) = (p.toList.map fun i => as.getD i 0).map PV.ref := by rw [List.map_map]; rfl
            rw [e1, e2]
            simpa using VRs.ofRefs (F := F) (p.toList.map fun i => as.getD i 0)
end
end Mine

namespace Mine
/-! ## Layer 2m: defs with cells of their own, inner defs, keywords -/
noncomputable def ORl (F : Fz) : Option PV → Option Value → Prop
  | none, v => v = none
  | some p, v => ∃ v', v = some v' ∧ VR F p v'
theorem cellOR {F : Fz} {i : Option PV} {v : Option Value} {o : Obj} (h : ORl F i v) (ho : o.data = .cell v) : OR F (.cell i) o := by
  cases i with
  | none => cases h; exact ho
  | some p => obtain ⟨v', rfl, r⟩ := h; exact ⟨v', ho, r⟩
noncomputable def st3 (σ : St) (L : Addr) (i1 i2 i3 : Option PV) : St := ((σ.set (L + 1) (.cell i1)).set (L + 2) (.cell i2)).set (L + 3) (.cell i3)
structure Binds3 (F : Fz) (k : FnI) (vs : List Value) (ρ' : Loc) (x1 x2 x3 : Str) (i1 i2 i3 : Option PV) (mb : List (Str × Value)) : Prop where
  to : ∀ (fd : FuncData), FnF F k fd → bindArgs fd ⟨vs, []⟩ = pure mb
  kind : ∀ x ∈ mb, k.scope.names.lookup x.1 = some .local ∨ (k.scope.names.lookup x.1 = some .cell ∧ (x.1 = x1 ∨ x.1 = x2 ∨ x.1 = x3))
  rel : ∀ x v, ρ'.lookup x = some v → ∃ v', bindL (fun y => k.scope.names.lookup y) mb (fun _ => none) x = some v' ∧ VR F v v'
  c1 : ORl F i1 (bindC (fun y => k.scope.names.lookup y) mb (fun _ => none) x1)
  c2 : ORl F i2 (bindC (fun y => k.scope.names.lookup y) mb (fun _ => none) x2)
  c3 : ORl F i3 (bindC (fun y => k.scope.names.lookup y) mb (fun _ => none) x3)
section
variable {C : Cx} {n : Nat} {env : Env} {ρ : Loc} {σ : St}
theorem callEnvC_eq {F : Fz} {k : FnI} {fd : FuncData} (x : FnF F k fd) {x1 x2 x3 : Str} (hcf : ∀ m, cellsFrom m k.scope.names [] = [(x3, m + 2), (x2, m + 1), (x1, m)]) (L a : Addr) : callEnvC fd L a = mkEnv k L a [(x3, L + 3), (x2, L + 2), (x1, L + 1)] := by
  unfold callEnvC newEnv mkEnv
  rw [x.scope, hcf]
  simp only [x.globals, x.qual, x.code, x.builtins]
theorem WCall_fn3 {k : FnI} {args : List PV} {ρ' : Loc} {x1 x2 x3 : Str} {i1 i2 i3 : Option PV} {Q : PV → St → Prop} (hN : ∀ F, C.B.Le F → ∀ h : Heap, (∀ b o, F b = some o → h.get? b = some o) → h.NoLimit)
    (hclo : k.closure = []) (hcf : ∀ m, cellsFrom m k.scope.names [] = [(x3, m + 2), (x2, m + 1), (x1, m)]) (h12 : (x1 == x2) = false) (h13 : (x1 == x3) = false) (h23 : (x2 == x3) = false)
    (hb : ∀ F vs, C.B.Le F → VRs F args vs → ∃ mb, Binds3 F k vs ρ' x1 x2 x3 i1 i2 i3 mb)
    (hco : k.scope.isCoroutine = false) (hgen : k.scope.isGenerator = false) (hk : k.scope.kind = .function)
    (h : ∀ L a, σ (L + 1) = none → σ (L + 2) = none → σ (L + 3) = none → WSs C n (mkEnv k L a [(x3, L + 3), (x2, L + 2), (x1, L + 1)]) k.body ρ' (st3 σ L i1 i2 i3) (fun fl _ σ' => Q (retOf fl) σ')) : WCall C (n + 1) (.fn k) args σ Q := by
  rintro F L ρ _ vs hB ⟨a, o, fd, rfl, ha, hd, hf⟩ hv A s E K hr hR hK
  obtain ⟨mb, bT, bK, bR, b1, b2, b3⟩ := hb F vs hB hv
  have hF : ∀ b o, F b = some o → s.heap.get? b = some o := fun b o e => (hR.fz b o e).1
  have hcd : s.heap.CodeRec fd.code fd.qualname := let ⟨c, o, vs, t, e, x, r⟩ := hf.crec; ⟨c, o, vs, t, e, hF _ _ x, r⟩
  have lk1 : ∀ m : Addr, List.lookup x1 [(x3, m + 2), (x2, m + 1), (x1, m)] = some m := fun m => by simp [List.lookup_cons, h12, h13]
  have lk2 : ∀ m : Addr, List.lookup x2 [(x3, m + 2), (x2, m + 1), (x1, m)] = some (m + 1) := fun m => by simp [List.lookup_cons, h23]
  have lk3 : ∀ m : Addr, List.lookup x3 [(x3, m + 2), (x2, m + 1), (x1, m)] = some (m + 2) := fun m => by simp [List.lookup_cons]
  refine wpAny_call (codeAny_call_cells (fd := fd) (body := k.body) (binds := mb) (by have := hr.1; (first | lia | omega)) (hF _ _ ha) hd (hN F hB _ hF) hcd hf.body (bT fd hf) (by rw [hf.closure, hclo]) ?_ ?_ (by rw [hf.scope]; exact hco) (by rw [hf.scope]; exact hgen) (by rw [hf.scope]; exact hk))
  · intro x hx
    rw [hf.scope, hcf]
    rcases bK x hx with q | ⟨q, q2⟩
    · exact .inl q
    · refine .inr ⟨q, ?_⟩
      rcases q2 with e | e | e
      · rw [e, lk1]; rfl
      · rw [e, lk2]; rfl
      · rw [e, lk3]; rfl
  rw [callEnvC_eq hf hcf]
  rintro s₁ ⟨⟨⟨h₁, tk, rfl⟩, hns, hkeep, _⟩, hcell, _, _⟩
  have g1 := hcell x1 _ (lk1 (s.heap.objs.size + 1))
  have g2 := hcell x2 _ (lk2 (s.heap.objs.size + 1))
  have g3 := hcell x3 _ (lk3 (s.heap.objs.size + 1))
  have nn : ∀ j : Nat, 0 < j → σ (s.heap.objs.size + j) = none := fun j hj => by
    cases e : σ (s.heap.objs.size + j) with
    | none => rfl
    | some p => exact absurd (hR.lt e) (Nat.not_lt.mpr (Nat.le_add_right ..))
  obtain ⟨oL, hdL, hoL, hle, R₁⟩ := hR.suspend (σ' := st3 σ s.heap.objs.size i1 i2 i3) hkeep (Nat.le_refl _) (by
    intro c p e
    unfold st3 at e
    by_cases e3 : c = s.heap.objs.size + 3
    · rw [e3, St.set_same] at e; cases e
      obtain ⟨o3, y, z⟩ := g3
      exact .inr ⟨by rw [e3]; exact Nat.le_add_right .., by rw [e3]; exact Nat.ne_of_gt (Nat.lt_add_of_pos_right (by decide)), o3, by rw [e3]; exact y, cellOR b3 z⟩
    · rw [St.set_ne e3] at e
      by_cases e2 : c = s.heap.objs.size + 2
      · rw [e2, St.set_same] at e; cases e
        obtain ⟨o2, y, z⟩ := g2
        exact .inr ⟨by rw [e2]; exact Nat.le_add_right .., by rw [e2]; exact Nat.ne_of_gt (Nat.lt_add_of_pos_right (by decide)), o2, by rw [e2]; exact y, cellOR b2 z⟩
      · rw [St.set_ne e2] at e
        by_cases e1 : c = s.heap.objs.size + 1
        · rw [e1, St.set_same] at e; cases e
          obtain ⟨o1, y, z⟩ := g1
          exact .inr ⟨by rw [e1]; exact Nat.le_add_right .., by rw [e1]; exact Nat.ne_of_gt (Nat.lt_add_of_pos_right (by decide)), o1, by rw [e1]; exact y, cellOR b1 z⟩
        · rw [St.set_ne e1] at e; exact .inl e) hns bR
  refine h s.heap.objs.size a (nn 1 (by decide)) (nn 2 (by decide)) (nn 3 (by decide)) (F.add L oL) (hB.trans hle) _ _ _ _ ⟨?_, ?_, hr.2.2⟩ R₁ ?_
  · show A.depth + 1 + n < _; have := hr.1; (first | lia | omega)
  · show A.units + 3 + 20 * n + 100 < _; have := hr.2.1; (first | lia | omega)
  intro fl fl' ρ₂ σ₂ F₂ h₂ tk₂ q hle₂ R₂ vf
  obtain ⟨le₃, FL, R₃⟩ := hR.resume hdL hoL hle₂ R₂
  refine hK (retOf fl) _ ρ σ₂ (F₂.sub L) h₂ tk₂ ⟨rfl, q⟩ le₃ R₃ ?_
  cases fl with
  | next => cases vf; exact rfl
  | brk => cases vf; exact rfl
  | cont => cases vf; exact rfl
  | ret v => obtain ⟨v', rfl, r⟩ := vf; exact r.sub FL hdL

/-! ### a call with a keyword -/
noncomputable def WCallK (C : Cx) (n : Nat) (f : PV) (args : List PV) (ks : List Str) (kws : List PV) (σ : St) (Q : PV → St → Prop) : Prop :=
  ∀ F L ρ f' args' kvs, C.B.Le F → VR F f f' → VRs F args args' → VRs F kws kvs → Tri C.prog C.w VR n L ρ σ F (call f' args' (ks.zip kvs)) (fun v ρ' σ' => ρ' = ρ ∧ Q v σ')
structure BindsK (F : Fz) (k : FnI) (args : Args) (ρ : Loc) (mb : List (Str × Value)) : Prop where
  to : ∀ (s : Shared) (fd : FuncData), FnF F k fd → (∀ b o, F b = some o → s.heap.get? b = some o) → BindsTo s fd args mb
  kind : ∀ x ∈ mb, k.scope.names.lookup x.1 = some .local
  rel : ∀ x v, ρ.lookup x = some v → ∃ v', mb.reverse.lookup x = some v' ∧ VR F v v'
theorem WCallK_fn {k : FnI} {args kws : List PV} {ks : List Str} {ρ' : Loc} {Q : PV → St → Prop} (hN : ∀ F, C.B.Le F → ∀ h : Heap, (∀ b o, F b = some o → h.get? b = some o) → h.NoLimit)
    (hb : ∀ F vs kvs, C.B.Le F → VRs F args vs → VRs F kws kvs → ∃ mb, BindsK F k ⟨vs, ks.zip kvs⟩ ρ' mb)
    (hcell : ∀ x ∈ k.scope.names, x.2 ≠ .cell) (hco : k.scope.isCoroutine = false) (hgen : k.scope.isGenerator = false) (hk : k.scope.kind = .function)
    (h : ∀ L a, WSs C n (mkEnv k L a k.closure) k.body ρ' σ (fun fl _ σ' => Q (retOf fl) σ')) : WCallK C (n + 1) (.fn k) args ks kws σ Q := by
  rintro F L ρ _ vs kvs hB ⟨a, o, fd, rfl, ha, hd, hf⟩ hv hkv A s E K hr hR hK
  obtain ⟨mb, bT, bK, bR⟩ := hb F vs kvs hB hv hkv
  have hF : ∀ b o, F b = some o → s.heap.get? b = some o := fun b o e => (hR.fz b o e).1
  have hcd : s.heap.CodeRec fd.code fd.qualname := let ⟨c, o, vs, t, e, x, r⟩ := hf.crec; ⟨c, o, vs, t, e, hF _ _ x, r⟩
  refine wpAny_call (codeAny_call_def (fd := fd) (body := k.body) (binds := mb) (by have := hr.1; (first | lia | omega)) (hF _ _ ha) hd (hN F hB _ hF) hcd hf.body (bT s fd hf hF) (by rw [hf.scope]; exact hcell) (by rw [hf.scope]; exact bK) ?_ (by rw [hf.scope]; exact hco) (by rw [hf.scope]; exact hgen) (by rw [hf.scope]; exact hk))
  intro h₁ hn₁ hk₁
  rw [callEnv_eq hf]
  obtain ⟨oL, hdL, hoL, hle, R₁⟩ := hR.suspend (σ' := σ) hk₁ (Nat.le_refl _) (fun a p e => .inl e) hn₁ bR
  refine h s.heap.objs.size a (F.add L oL) (hB.trans hle) _ _ _ _ ⟨?_, ?_, hr.2.2⟩ R₁ ?_
  · show A.depth + 1 + n < _; have := hr.1; (first | lia | omega)
  · show A.units + 3 + 20 * n + 100 < _; have := hr.2.1; (first | lia | omega)
  intro fl fl' ρ₂ σ₂ F₂ h₂ tk₂ q hle₂ R₂ vf
  obtain ⟨le₃, FL, R₃⟩ := hR.resume hdL hoL hle₂ R₂
  refine hK (retOf fl) _ ρ σ₂ (F₂.sub L) h₂ tk₂ ⟨rfl, q⟩ le₃ R₃ ?_
  cases fl with
  | next => cases vf; exact rfl
  | brk => cases vf; exact rfl
  | cont => cases vf; exact rfl
  | ret v => obtain ⟨v', rfl, r⟩ := vf; exact r.sub FL hdL
/-- f(e, k=x) for a def -/
theorem WE_CallK1 {nm kn : Str} {np pos kp : Pos} {e ke : Expr} {Q : PV → St → Prop}
    (he : backTo pos (starEach [e] env) = [(false, eval e env)]) (hke : backToKw pos (keywordEach [⟨some kn, ke, kp⟩] env) = [(some kn, do let v ← eval ke env; standAt pos; pure v)])
    (h : WE C n env (.Name nm np) ρ σ (fun f σ₁ => ∃ k, f = .fn k ∧ WE C n env e ρ σ₁ (fun v σ₂ => WE C n env ke ρ σ₂ (fun w σ₃ => WCallK C n f [v] [kn] [w] σ₃ Q)))) :
    WE C n env (.Call (.Name nm np) [e] [⟨some kn, ke, kp⟩] pos) ρ σ Q := by
  intro F hB A s E K hr hR hK
  refine wpAny_Call_Name_kw (h F hB A s E _ hr hR ?_)
  rintro f f' ρ₁ σ₁ F₁ h₁ tk₁ ⟨rfl, k, rfl, hq1⟩ hle₁ R₁ vf
  rw [he, hke]
  obtain ⟨a, o, fd, rfl, ea, ed, hff⟩ := id vf
  refine callWith_function_kw (o := o) (fd := fd) (evalArgs_kw rfl (Calls.spliced_cons (hq1 F₁ (hB.trans hle₁) A _ E _ hr R₁ ?_)))
  rintro v v' ρ₂ σ₂ F₂ h₂ tk₂ ⟨rfl, hq2⟩ hle₂ R₂ vv
  refine Calls.spliced_nil ?_
  refine wpAny_evalAll_cons (wpAny_bind (hq2 F₂ (hB.trans (hle₁.trans hle₂)) A _ E _ hr R₂ ?_))
  rintro w w' ρ₃ σ₃ F₃ h₃ tk₃ ⟨rfl, hq3⟩ hle₃ R₃ vw
  refine wpAny_bind (wpAny_standAt (wpAny_pure ?_))
  refine wpAny_evalAll_nil ⟨⟨(R₃.fz a o (hle₃ _ _ (hle₂ _ _ ea))).1, ed⟩, ?_⟩
  exact hq3 F₃ _ _ _ [v'] [w'] (hB.trans (hle₁.trans (hle₂.trans hle₃))) (vf.mono (hle₂.trans hle₃)) (.cons (vv.mono hle₃) .nil) (.cons vw .nil) A _ E K hr R₃ (fun v v' ρ₄ σ₄ F₄ h₄ tk₄ q hle₄ R₄ r => hK v v' ρ₄ σ₄ F₄ h₄ tk₄ q (hle₁.trans (hle₂.trans (hle₃.trans hle₄))) R₄ r)

/-! ### def within a def -/
noncomputable def fnOf (qual : Str) (params : Arguments) (body : List Stmt) (scope : Scope) (clos : List (Str × Addr)) (c' : Addr) : FnI := { qual, params, body, scope, closure := clos, code := .ref c', dflt := .none, kwd := .none }
noncomputable def tabIs (e : Option (Pos × Str)) (pos : Pos) (qual : Str) : Prop := e = none ∨ e = some (pos, qual)
theorem WS_Def {name : Str} {params : Arguments} {body : List Stmt} {scope : Scope} {pos : Pos} {clos : List (Str × Addr)} {c P : Addr} {e : Option (Pos × Str)} {Q : PF → Loc → St → Prop}
    (hd0 : params.defaults = []) (hk0 : params.kw_defaults = []) (ha : annTrees params none env = []) (hcl : closureFor scope env = pure clos) (hge : env.globals = mainGlobals) (hcode : env.code = .ref c)
    (hS : ∀ F, C.B.Le F → ∀ h : Heap, (∀ b o, F b = some o → h.get? b = some o) → CodeHd h c P ∧ mainGlobals ≠ P ∧ ∃ mg, h.Ns mainGlobals mg ∧ h.BuiltinsAt mg P)
    (hP : σ P = some (.tab e)) (he : tabIs e pos (qualnameIn env name name))
    (h : ∀ c', WStore C n env name (.fn (fnOf (qualnameIn env name name) params body scope clos c')) ρ (σ.set P (.tab (some (pos, qualnameIn env name name)))) (Q .next)) :
    WS C n env (.FunctionDef name params body [] none [] scope none name pos) ρ σ Q := by
  intro F hB A s E K hr hR hK
  have hF : ∀ b o, F b = some o → s.heap.get? b = some o := fun b o e => (hR.fz b o e).1
  obtain ⟨hC, hgP, mg, hmg, hbu⟩ := hS F hB s.heap hF
  obtain ⟨hPL, oP, hoP, horP⟩ := hR.st P _ hP
  have hFP : F P = none := by
    cases q : F P with
    | none => rfl
    | some x => have := (hR.fz P x q).2.1; rw [hP] at this; cases this
  refine nestDef_K hd0 hk0 ha ?_
  rcases he with rfl | rfl
  · cases horP
    refine makeFunction_K (mg := mg) (ps := #[]) hcl hge hmg hcode hC hoP trivial rfl hgP hbu fun c' ctv doc h' tk hx hge' hlt hrec htb => ?_
    obtain ⟨c₂, oc, vs, t, e2, hoc, hd, hv⟩ := hrec
    cases e2
    have R1 := hR.forget hP hx
    have hsc : (σ.del P) c' = none := by
      unfold St.del
      split
      · rfl
      · cases q : σ c' with
        | none => rfl
        | some x => exact absurd (hR.lt q) (Nat.not_lt.mpr hge')
    have hFc : F c' = none := by
      cases q : F c' with
      | none => rfl
      | some x => exact absurd (Heap.lt_size (hF _ _ q)) (Nat.not_lt.mpr hge')
    have hcL : c' ≠ env.locals := ne_gt hR.ltL hge'
    obtain ⟨le2, R2⟩ := R1.hide hoc hsc hFc hcL
    have hcP : P ≠ c' := ne_lt (hR.lt hP) hge'
    have hF2P : (F.add c' oc) P = none := by unfold Fz.add; rw [if_neg hcP]; exact hFP
    have crec : CodeF (F.add c' oc) (.ref c') (qualnameIn env name name) := ⟨c', oc, vs, t, rfl, Fz.add_same .., hd, hv⟩
    have R3 := R2.adopt (p := .tab (some (pos, qualnameIn env name name))) htb ⟨c', crec, rfl⟩ hF2P hPL
    have eσ : (σ.del P).set P (.tab (some (pos, qualnameIn env name name))) = σ.set P (.tab (some (pos, qualnameIn env name name))) := by
      funext b; unfold St.set St.del; by_cases q : b = P <;> simp [q]
    rw [eσ] at R3
    have hfr := R3.freshF
    have R4 := R3.freeze (o := fnMade name (qualnameIn env name name) params body scope clos doc ((mg "__name__").getD .none) c' ctv) rfl
    have le4 := Fz.add_le (o := fnMade name (qualnameIn env name name) params body scope clos doc ((mg "__name__").getD .none) c' ctv) hfr
    refine h c' _ _ (hB.trans (le2.trans le4)) ?_ A _ E _ hr R4 ?_
    · exact ⟨_, _, _, rfl, Fz.add_same .., rfl, ⟨rfl, rfl, rfl, rfl, rfl, rfl, rfl, rfl, rfl, rfl, crec.mono le4⟩⟩
    · intro _ _ ρ₂ σ₂ F₂ h₂ tk₂ q hle₂ R₅ _
      exact hK .next .next ρ₂ σ₂ F₂ h₂ tk₂ q (le2.trans (le4.trans hle₂)) R₅ rfl
  · obtain ⟨c', crec, rfl⟩ := horP
    have hps : TriplesOk (#[rawInt pos.line, rawInt pos.col, .ref c'] : Array Value).toList := trivial
    have hf : codeAmong pos (#[rawInt pos.line, rawInt pos.col, .ref c'] : Array Value).toList = some (.ref c') := by
      exact codeAmong_snoc [] trivial rfl
    refine makeFunction_hit (mg := mg) (ps := #[rawInt pos.line, rawInt pos.col, .ref c']) hcl hge hmg hcode hC hoP hps hf hbu fun ctv doc h' tk hk hsz => ?_
    have R3 := hR.grow hk
    have hfr := R3.freshF
    have R4 := R3.freeze (o := { cls := .type "function", data := .func (fnX name (qualnameIn env name name) params body scope clos .none .none doc ((mg "__name__").getD .none) none (.ref c') ctv) }) rfl
    have le4 := Fz.add_le (o := { cls := .type "function", data := .func (fnX name (qualnameIn env name name) params body scope clos .none .none doc ((mg "__name__").getD .none) none (.ref c') ctv) }) hfr
    have hq := h c'
    have eσ : σ.set P (.tab (some (pos, qualnameIn env name name))) = σ := by
      funext b; unfold St.set; by_cases q : b = P
      · subst q; simp [hP]
      · simp [q]
    rw [eσ] at hq
    refine hq _ _ (hB.trans le4) ?_ A _ E _ hr R4 ?_
    · exact ⟨_, _, _, rfl, Fz.add_same .., rfl, ⟨rfl, rfl, rfl, rfl, rfl, rfl, rfl, rfl, rfl, rfl, crec.mono le4⟩⟩
    · intro _ _ ρ₂ σ₂ F₂ h₂ tk₂ q hle₂ R₅ _
      exact hK .next .next ρ₂ σ₂ F₂ h₂ tk₂ q (le4.trans hle₂) R₅ rfl
end
end Mine

namespace Mine
/-! ## The program's names -/
noncomputable def stmtAt (i : Nat) : Stmt := (PySem.Challenge.pw_oc0047_01.main.body)[i]?.getD (.Pass default)
noncomputable def bodyOf : Stmt → List Stmt
  | .FunctionDef _ _ b .. => b
  | _ => []
noncomputable def paramsOf : Stmt → Arguments
  | .FunctionDef _ p .. => p
  | _ => default
noncomputable def scopeOf : Stmt → Scope
  | .FunctionDef _ _ _ _ _ _ s .. => s
  | _ => default
noncomputable def nameOf : Stmt → Str
  | .FunctionDef n .. => n
  | _ => default
noncomputable def plainK (i c : Nat) : FnI := { qual := nameOf (stmtAt i), params := paramsOf (stmtAt i), body := bodyOf (stmtAt i), scope := scopeOf (stmtAt i), closure := [], code := .ref c, dflt := .none, kwd := .none }
noncomputable def k_int2digits := plainK 2 27
noncomputable def k_digits2int := plainK 3 34
noncomputable def k_heappush := plainK 5 41
noncomputable def k_heappop := plainK 6 48
noncomputable def k_heapify := plainK 7 55
noncomputable def k_siftdown := plainK 8 62
noncomputable def k_siftup := plainK 9 69
noncomputable def k_buffer := plainK 11 76
noncomputable def k_truth := plainK 12 83
noncomputable def k_b2a : FnI := { plainK 14 91 with kwd := .ref 85 }
noncomputable def k_b64 : FnI := { plainK 16 99 with dflt := .ref 93 }
noncomputable def k_figures := plainK 18 106
noncomputable def k_sign := plainK 19 113
noncomputable def k_octets := plainK 20 120
noncomputable def k_in_order := plainK 21 127
noncomputable def k_common := plainK 22 134
noncomputable def k_net := plainK 23 141
noncomputable def b64tab : Array UInt8 := #[65, 66, 67, 68, 69, 70, 71, 72, 73, 74, 75, 76, 77, 78, 79, 80, 81, 82, 83, 84, 85, 86, 87, 88, 89, 90, 97, 98, 99, 100, 101, 102, 103, 104, 105, 106, 107, 108, 109, 110, 111, 112, 113, 114, 115, 116, 117, 118, 119, 120, 121, 122, 48, 49, 50, 51, 52, 53, 54, 55, 56, 57, 43, 47]
noncomputable abbrev gl (s : String) (v : PV) : Str × PV := (Str.ofString s, v)
noncomputable def GLs : List (Str × PV) := [gl "_int2digits" (.fn k_int2digits), gl "_digits2int" (.fn k_digits2int), gl "heappush" (.fn k_heappush), gl "heappop" (.fn k_heappop), gl "heapify" (.fn k_heapify), gl "_siftdown" (.fn k_siftdown), gl "_siftup" (.fn k_siftup),
  gl "_buffer" (.fn k_buffer), gl "_truth" (.fn k_truth), gl "_B64" (.bytes b64tab), gl "b2a_base64" (.fn k_b2a), gl "b64encode" (.fn k_b64), gl "_law_figures" (.fn k_figures), gl "_law_sign" (.fn k_sign), gl "_law_octets" (.fn k_octets), gl "_law_in_order" (.fn k_in_order),
  gl "_law_common" (.fn k_common), gl "_law_net" (.fn k_net), gl "len" (.imm (.builtin "len")), gl "sorted" (.imm (.builtin "sorted")), gl "min" (.imm (.builtin "min")), gl "max" (.imm (.builtin "max")), gl "sum" (.imm (.builtin "sum")),
  gl "range" (.imm (.type "range")), gl "list" (.imm (.type "list")), gl "reversed" (.imm (.type "reversed")), gl "bytes" (.imm (.type "bytes")), gl "set" (.imm (.type "set")), gl "type" (.imm (.type "type")), gl "bool" (.imm (.type "bool")), gl "int" (.imm (.type "int")),
  gl "bytearray" (.imm (.type "bytearray")), gl "float" (.imm (.type "float")), gl "complex" (.imm (.type "complex")), gl "str" (.imm (.type "str")), gl "tuple" (.imm (.type "tuple")), gl "dict" (.imm (.type "dict")), gl "frozenset" (.imm (.type "frozenset"))]
noncomputable def GL (x : Str) : Option PV := GLs.lookup x
noncomputable def NestOk (C : Cx) (c P : Addr) : Prop := ∀ F, C.B.Le F → ∀ h : Heap, (∀ b o, F b = some o → h.get? b = some o) → CodeHd h c P ∧ mainGlobals ≠ P ∧ ∃ mg, h.Ns mainGlobals mg ∧ h.BuiltinsAt mg P
structure Stat (C : Cx) : Prop where
  dflt : ∃ o m, C.B 93 = some o ∧ o.data = .seq #[.none] m
  nest1 : NestOk C 27 23
  nest2 : NestOk C 34 30
  nolim : ∀ F, C.B.Le F → ∀ h : Heap, (∀ b o, F b = some o → h.get? b = some o) → h.NoLimit
  glob : ∀ x v, GL x = some v → ∀ F, C.B.Le F → ∀ h : Heap, (∀ b o, F b = some o → h.get? b = some o) →
    ∃ v' mg, VR F v v' ∧ h.Ns mainGlobals mg ∧ (mg x = some v' ∨ mg x = none ∧ ∃ mb, h.Ns builtinsNs mb ∧ mb x = some v')
section
variable {C : Cx} {n : Nat} {env : Env} {ρ : Loc} {σ : St}
theorem WE_glob {x : Str} {pos : Pos} {v : PV} {Q : PV → St → Prop} (S : Stat C) (hv : GL x = some v) (h : Q v σ) (hk : env.scope.kind = .function) (hx : env.kindOf x = some .globalImplicit) (hg : env.globals = mainGlobals) (hb : env.builtins = builtinsNs)
    (hd : (x == ("__debug__" : Str)) = false) : WE C n env (.Name x pos) ρ σ Q := by
  intro F hB A s E K hr hR hK
  obtain ⟨v', mg, r, hn, hm⟩ := S.glob x v hv F hB s.heap fun b o e => (hR.fz b o e).1
  have fin := hK v v' ρ σ F s.heap s.toks ⟨rfl, h⟩ (.refl F) hR r
  refine Calls.Name_function_global hk hx ?_ hd
  rcases hm with hm | ⟨hm, mb, hnb, hmb⟩
  · exact Calls.loadGlobal_global (by rw [hg]; exact hn) hm fin
  · exact Calls.loadGlobal_builtin (by rw [hg]; exact hn) hm (by rw [hb]; exact hnb) hmb fin

noncomputable def callable : PV → Bool
  | .fn _ => true
  | .imm (.builtin _) => true
  | .imm (.type _) => true
  | _ => false
theorem callable_or {v : PV} (h : callable v = true) : (∃ k, v = .fn k) ∨ (∃ id, v = .imm (.builtin id)) ∨ (∃ T, v = .imm (.type T)) := by
  unfold callable at h
  split at h
  · exact .inl ⟨_, rfl⟩
  · exact .inr (.inl ⟨_, rfl⟩)
  · exact .inr (.inr ⟨_, rfl⟩)
  · cases h
/-- a global called -/
theorem WE_CallG {x : Str} {np pos : Pos} {e : Expr} {rest : List Expr} {v : PV} {Q : PV → St → Prop} (S : Stat C) (hv : GL x = some v) (hf : callable v = true) (hk : env.scope.kind = .function) (hx : env.kindOf x = some .globalImplicit)
    (hg : env.globals = mainGlobals) (hb : env.builtins = builtinsNs) (hd : (x == ("__debug__" : Str)) = false)
    (he : starEach (e :: rest) env = (false, eval e env) :: starEach rest env) (hp : (backTo pos (starEach rest env)).any (·.1) = false)
    (h : WEs C n env (e :: rest) ρ σ (fun vs σ₁ => WCall C n v vs σ₁ Q)) : WE C n env (.Call (.Name x np) (e :: rest) [] pos) ρ σ Q :=
  WE_Call rfl he hp (WE_glob S hv ⟨callable_or hf, h⟩ hk hx hg hb hd)
/-- plain binding: as many values as parameters -/
theorem binds1 {k : FnI} {x : Str} {p : PV} (hb : ∀ fd v, fd.params = k.params → fd.defaults = k.dflt → fd.kwdefaults = k.kwd → bindArgs fd ⟨[v], []⟩ = pure [(x, v)]) (hk : k.scope.names.lookup x = some .local) :
    ∀ F vs, C.B.Le F → VRs F [p] vs → ∃ mb, Binds F k vs [(x, p)] mb := by
  intro F vs _ hv
  cases hv with
  | cons r hv =>
    cases hv
    rename_i v
    refine ⟨[(x, v)], fun s fd hf _ => .of_eq (hb fd v hf.params hf.dflt hf.kwd), ?_, ?_⟩
    · intro y hy; simp at hy; subst hy; exact hk
    · intro y u e
      rw [List.lookup_cons] at e
      cases q : y == x with
      | true => rw [q] at e; cases e; exact ⟨v, by simp [List.lookup_cons, q], r⟩
      | false => rw [q] at e; cases e
theorem binds2 {k : FnI} {x y : Str} {p q : PV} (hxy : (y == x) = false) (hb : ∀ fd v w, fd.params = k.params → fd.defaults = k.dflt → fd.kwdefaults = k.kwd → bindArgs fd ⟨[v, w], []⟩ = pure [(x, v), (y, w)]) (hk : k.scope.names.lookup x = some .local) (hk2 : k.scope.names.lookup y = some .local) :
    ∀ F vs, C.B.Le F → VRs F [p, q] vs → ∃ mb, Binds F k vs [(x, p), (y, q)] mb := by
  intro F vs _ hv
  cases hv with
  | cons r hv =>
    cases hv with
    | cons r2 hv =>
      cases hv
      rename_i v w
      have hyx : (x == y) = false := by have : y ≠ x := by simpa using hxy
                                        simpa using Ne.symm this
      refine ⟨[(x, v), (y, w)], fun s fd hf _ => .of_eq (hb fd v w hf.params hf.dflt hf.kwd), ?_, ?_⟩
      · intro z hz; simp at hz; rcases hz with rfl | rfl
        · exact hk
        · exact hk2
      · intro z u e
        simp only [List.lookup_cons] at e
        cases q1 : z == x with
        | true =>
          have hz : z = x := by simpa using q1
          subst hz
          simp at e; subst e
          exact ⟨v, by simp [List.lookup_cons, hyx], r⟩
        | false =>
          rw [q1] at e
          cases q2 : z == y with
          | true => rw [q2] at e; simp at e; subst e; exact ⟨w, by simp [List.lookup_cons, q2], r2⟩
          | false => rw [q2] at e; cases e
theorem binds3 {k : FnI} {x y z : Str} {p q r : PV} (hxy : (y == x) = false) (hxz : (z == x) = false) (hyz : (z == y) = false)
    (hb : ∀ fd u v w, fd.params = k.params → fd.defaults = k.dflt → fd.kwdefaults = k.kwd → bindArgs fd ⟨[u, v, w], []⟩ = pure [(x, u), (y, v), (z, w)]) (hk : k.scope.names.lookup x = some .local) (hk2 : k.scope.names.lookup y = some .local) (hk3 : k.scope.names.lookup z = some .local) :
    ∀ F vs, C.B.Le F → VRs F [p, q, r] vs → ∃ mb, Binds F k vs [(x, p), (y, q), (z, r)] mb := by
  intro F vs _ hv
  cases hv with
  | cons r1 hv =>
    cases hv with
    | cons r2 hv =>
      cases hv with
      | cons r3 hv =>
        cases hv
        rename_i u v w
        have a1 : y ≠ x := by simpa using hxy
        have a2 : z ≠ x := by simpa using hxz
        have a3 : z ≠ y := by simpa using hyz
        refine ⟨[(x, u), (y, v), (z, w)], fun s fd hf _ => .of_eq (hb fd u v w hf.params hf.dflt hf.kwd), ?_, ?_⟩
        · intro t ht; simp at ht; rcases ht with rfl | rfl | rfl
          · exact hk
          · exact hk2
          · exact hk3
        · intro t o e
          simp only [List.lookup_cons] at e
          by_cases q1 : t = x
          · subst q1
            simp at e; subst e
            have b1 : (t == z) = false := by simpa using Ne.symm a2
            have b2 : (t == y) = false := by simpa using Ne.symm a1
            exact ⟨u, by simp [List.lookup_cons, b1, b2], r1⟩
          · have b0 : (t == x) = false := by simpa using q1
            rw [b0] at e
            by_cases q2 : t = y
            · subst q2
              simp at e; subst e
              have b1 : (t == z) = false := by simpa using Ne.symm a3
              exact ⟨v, by simp [List.lookup_cons, b1], r2⟩
            · have b1 : (t == y) = false := by simpa using q2
              rw [b1] at e
              by_cases q3 : t = z
              · subst q3
                simp at e; subst e
                exact ⟨w, by simp, r3⟩
              · have b2 : (t == z) = false := by simpa using q3
                rw [b2] at e; cases e
end
end Mine

namespace Mine
/-! ## the part of the heap behind the top that the walk needs -/
noncomputable def frE (P : Params) (x : Str) (t : Tok) (v : Value) : DictEntry := { hash := PyData.keyHash P x, key := .str x t, val := v }
noncomputable def frF (x : Str) (i : Nat) (c : Addr) (mo : Str) (t : Tok) (df kd : Value) : Obj :=
  { cls := .type "function", data := .func { name := x, qualname := x, params := paramsOf (stmtAt i), body := .stmts (bodyOf (stmtAt i)), scope := scopeOf (stmtAt i), globals := mainGlobals, closure := [], defaults := df, kwdefaults := kd, pyModule := .str mo t, code := .ref c, builtins := builtinsNs } }
noncomputable def frC (x f : Str) (t : Tok) (ln ac po ko fl : Int) (a b c d e : Addr) (u : Int) (t2 : Tok) : Obj :=
  { cls := .type "code", data := .fields #[.str x t, .str x (t + 1), .str f (t + 2), .int ln 0, .int ac 0, .int po 0, .int ko 0, .int fl 0, .ref a, .bool true, .int 181 0, .ref b, .none, .ref c, .ref d, .ref e, .int u 0, .int ln 0, .str f t2] }
noncomputable def frag (P : Params) : Frag :=
  (nat_lit 3, { cls := .type "dict", data := .dict #[frE P (Str.ofString "__name__") 165 (.str (Str.ofString "law_oc0047_01") 316), frE P (Str.ofString "__doc__") 166 (.none), frE P (Str.ofString "__package__") 167 (.none), frE P (Str.ofString "__loader__") 168 (.builtin "__main__.__loader__#opaque"), frE P (Str.ofString "__spec__") 169 (.none), frE P (Str.ofString "__annotations__") 170 (.ref 6), frE P (Str.ofString "__builtins__") 171 (.ref 4), frE P (Str.ofString "__file__") 173 (.str (Str.ofString "/claim/cut.py") 172), frE P (Str.ofString "__cached__") 174 (.none), frE P (Str.ofString "_wall") 193 (.ref 21), frE P (Str.ofString "_int2digits") 206 (.ref 28), frE P (Str.ofString "_digits2int") 217 (.ref 35), frE P (Str.ofString "heappush") 227 (.ref 42), frE P (Str.ofString "heappop") 236 (.ref 49), frE P (Str.ofString "heapify") 245 (.ref 56), frE P (Str.ofString "_siftdown") 257 (.ref 63), frE P (Str.ofString "_siftup") 270 (.ref 70), frE P (Str.ofString "_buffer") 280 (.ref 77), frE P (Str.ofString "_truth") 288 (.ref 84), frE P (Str.ofString "_B64") 290 (.bytes b64tab 289), frE P (Str.ofString "b2a_base64") 304 (.ref 92), frE P (Str.ofString "b64encode") 315 (.ref 100), frE P (Str.ofString "_law_figures") 324 (.ref 107), frE P (Str.ofString "_law_sign") 331 (.ref 114), frE P (Str.ofString "_law_octets") 339 (.ref 121), frE P (Str.ofString "_law_in_order") 348 (.ref 128), frE P (Str.ofString "_law_common") 357 (.ref 135), frE P (Str.ofString "_law_net") 371 (.ref 142), frE P (Str.ofString "law") 377 (.ref 147)] 29 }) ::
  (nat_lit 27, frC (Str.ofString "_int2digits") (Str.ofString "/claim/cut.py") 196 5 2 0 0 3 22 23 24 25 26 204 205) ::
  (nat_lit 28, frF (Str.ofString "_int2digits") 2 27 (Str.ofString "cpy313._pylong") 194 (.none) (.none)) ::
  (nat_lit 34, frC (Str.ofString "_digits2int") (Str.ofString "/claim/cut.py") 207 21 2 0 0 3 29 30 31 32 33 215 216) ::
  (nat_lit 35, frF (Str.ofString "_digits2int") 3 34 (Str.ofString "cpy313._pylong") 194 (.none) (.none)) ::
  (nat_lit 41, frC (Str.ofString "heappush") (Str.ofString "/claim/cut.py") 220 31 2 0 0 3 36 37 38 39 40 225 226) ::
  (nat_lit 42, frF (Str.ofString "heappush") 5 41 (Str.ofString "cpy313.heapq") 218 (.none) (.none)) ::
  (nat_lit 48, frC (Str.ofString "heappop") (Str.ofString "/claim/cut.py") 228 34 1 0 0 3 43 44 45 46 47 234 235) ::
  (nat_lit 49, frF (Str.ofString "heappop") 6 48 (Str.ofString "cpy313.heapq") 218 (.none) (.none)) ::
  (nat_lit 55, frC (Str.ofString "heapify") (Str.ofString "/claim/cut.py") 237 42 1 0 0 3 50 51 52 53 54 243 244) ::
  (nat_lit 56, frF (Str.ofString "heapify") 7 55 (Str.ofString "cpy313.heapq") 218 (.none) (.none)) ::
  (nat_lit 62, frC (Str.ofString "_siftdown") (Str.ofString "/claim/cut.py") 246 46 3 0 0 3 57 58 59 60 61 255 256) ::
  (nat_lit 63, frF (Str.ofString "_siftdown") 8 62 (Str.ofString "cpy313.heapq") 218 (.none) (.none)) ::
  (nat_lit 69, frC (Str.ofString "_siftup") (Str.ofString "/claim/cut.py") 258 57 2 0 0 3 64 65 66 67 68 268 269) ::
  (nat_lit 70, frF (Str.ofString "_siftup") 9 69 (Str.ofString "cpy313.heapq") 218 (.none) (.none)) ::
  (nat_lit 76, frC (Str.ofString "_buffer") (Str.ofString "/claim/cut.py") 273 72 1 0 0 3 71 72 73 74 75 278 279) ::
  (nat_lit 77, frF (Str.ofString "_buffer") 11 76 (Str.ofString "binascii") 271 (.none) (.none)) ::
  (nat_lit 83, frC (Str.ofString "_truth") (Str.ofString "/claim/cut.py") 281 79 1 0 0 3 78 79 80 81 82 286 287) ::
  (nat_lit 84, frF (Str.ofString "_truth") 12 83 (Str.ofString "binascii") 271 (.none) (.none)) ::
  (nat_lit 91, frC (Str.ofString "b2a_base64") (Str.ofString "/claim/cut.py") 292 85 1 1 1 3 86 87 88 89 90 302 303) ::
  (nat_lit 92, frF (Str.ofString "b2a_base64") 14 91 (Str.ofString "binascii") 271 (.none) (.ref 85)) ::
  (nat_lit 93, { cls := .type "tuple", data := .seq #[.none] }) ::
  (nat_lit 99, frC (Str.ofString "b64encode") (Str.ofString "/claim/cut.py") 307 108 2 0 0 3 94 95 96 97 98 313 314) ::
  (nat_lit 100, frF (Str.ofString "b64encode") 16 99 (Str.ofString "cpy313.base64") 305 (.ref 93) (.none)) ::
  (nat_lit 106, frC (Str.ofString "_law_figures") (Str.ofString "/claim/cut.py") 318 115 1 0 0 3 101 102 103 104 105 322 323) ::
  (nat_lit 107, frF (Str.ofString "_law_figures") 18 106 (Str.ofString "law_oc0047_01") 316 (.none) (.none)) ::
  (nat_lit 113, frC (Str.ofString "_law_sign") (Str.ofString "/claim/cut.py") 325 117 1 0 0 3 108 109 110 111 112 329 330) ::
  (nat_lit 114, frF (Str.ofString "_law_sign") 19 113 (Str.ofString "law_oc0047_01") 316 (.none) (.none)) ::
  (nat_lit 120, frC (Str.ofString "_law_octets") (Str.ofString "/claim/cut.py") 332 125 1 0 0 3 115 116 117 118 119 337 338) ::
  (nat_lit 121, frF (Str.ofString "_law_octets") 20 120 (Str.ofString "law_oc0047_01") 316 (.none) (.none)) ::
  (nat_lit 127, frC (Str.ofString "_law_in_order") (Str.ofString "/claim/cut.py") 340 128 1 0 0 3 122 123 124 125 126 346 347) ::
  (nat_lit 128, frF (Str.ofString "_law_in_order") 21 127 (Str.ofString "law_oc0047_01") 316 (.none) (.none)) ::
  (nat_lit 134, frC (Str.ofString "_law_common") (Str.ofString "/claim/cut.py") 349 135 2 0 0 3 129 130 131 132 133 355 356) ::
  (nat_lit 135, frF (Str.ofString "_law_common") 22 134 (Str.ofString "law_oc0047_01") 316 (.none) (.none)) ::
  (nat_lit 141, frC (Str.ofString "_law_net") (Str.ofString "/claim/cut.py") 358 140 2 0 0 3 136 137 138 139 140 369 370) ::
  (nat_lit 142, frF (Str.ofString "_law_net") 23 141 (Str.ofString "law_oc0047_01") 316 (.none) (.none)) ::
  (nat_lit 147, frF (Str.ofString "law") 24 146 (Str.ofString "law_oc0047_01") 316 (.none) (.none)) :: []
noncomputable def fragAt : List Addr := nat_lit 3 :: nat_lit 27 :: nat_lit 28 :: nat_lit 34 :: nat_lit 35 :: nat_lit 41 :: nat_lit 42 :: nat_lit 48 :: nat_lit 49 :: nat_lit 55 :: nat_lit 56 :: nat_lit 62 :: nat_lit 63 :: nat_lit 69 :: nat_lit 70 :: nat_lit 76 :: nat_lit 77 :: nat_lit 83 :: nat_lit 84 :: nat_lit 91 :: nat_lit 92 :: nat_lit 93 :: nat_lit 99 :: nat_lit 100 :: nat_lit 106 :: nat_lit 107 :: nat_lit 113 :: nat_lit 114 :: nat_lit 120 :: nat_lit 121 :: nat_lit 127 :: nat_lit 128 :: nat_lit 134 :: nat_lit 135 :: nat_lit 141 :: nat_lit 142 :: nat_lit 147 :: []
end Mine

namespace Mine
/-! ## the head: the top runs, and leaves what the walk needs -/
noncomputable def view : Program := { PySem.Challenge.pw_oc0047_01 with main := { PySem.Challenge.pw_oc0047_01.main with body := [stmtAt 0, stmtAt 2, stmtAt 3, stmtAt 5, stmtAt 6, stmtAt 7, stmtAt 8, stmtAt 9, stmtAt 11, stmtAt 12, stmtAt 13, stmtAt 18, stmtAt 19, stmtAt 20, stmtAt 21, stmtAt 22, stmtAt 23, stmtAt 24] } }
theorem fragAt_eq : ∀ P, fragAt = (frag P).map (·.1) := fun _ => by kernel_rfl
noncomputable abbrev vhook : Hook := kmHook frag fragAt fragAt_eq [30, 23]
set_option maxHeartbeats 8000000 in
theorem left1 : LeftO PySem.Challenge.rw_oc0047_01.row.prog view [Str.ofString "b2a_base64", Str.ofString "b64encode"] (fun s => xlAt view [] s && recOk (RowW.records PySem.Challenge.rw_oc0047_01.row.toRowW) s) (Hook.obs vhook) (Hook.val vhook) 1434 := by
  intro w
  kernel_rfl
end Mine

namespace Mine

/-! ## heapq: what it computes -/
section
variable {κ : Type}
/-- _siftdown's loop: x wanders up from pos, not above start -/
noncomputable def sd (lt : κ → κ → Bool) (x : κ) (start : Nat) (pos : Nat) (ks : List κ) : List κ :=
  if h : start < pos then
    if lt x (ks.getD ((pos - 1) / 2) x) then sd lt x start ((pos - 1) / 2) (ks.set pos (ks.getD ((pos - 1) / 2) x)) else ks.set pos x
  else ks.set pos x
termination_by pos
decreasing_by (first | lia | omega)
/-- _siftup's loop: the hole wanders down to a leaf -/
noncomputable def child (lt : κ → κ → Bool) (e pos : Nat) (ks : List κ) (d : κ) : Nat :=
  if 2 * pos + 2 < e ∧ lt (ks.getD (2 * pos + 1) d) (ks.getD (2 * pos + 2) d) = false then 2 * pos + 2 else 2 * pos + 1
noncomputable def suL (lt : κ → κ → Bool) (d : κ) (e : Nat) (pos : Nat) (ks : List κ) : Nat × List κ :=
  if _h : 2 * pos + 1 < e then suL lt d e (child lt e pos ks d) (ks.set pos (ks.getD (child lt e pos ks d) d)) else (pos, ks)
termination_by e - pos
decreasing_by unfold child; split <;> (first | lia | omega)
noncomputable def su (lt : κ → κ → Bool) (d : κ) (pos : Nat) (ks : List κ) : List κ :=
  let r := suL lt d ks.length pos ks
  sd lt (ks.getD pos d) pos r.1 (r.2.set r.1 (ks.getD pos d))
noncomputable def hpush (lt : κ → κ → Bool) (ks : List κ) (x : κ) : List κ := sd lt x 0 ks.length (ks ++ [x])
/-- heappop of a list that ends in l -/
noncomputable def hpop (lt : κ → κ → Bool) (ks : List κ) (l : κ) : κ × List κ :=
  match ks with
  | [] => (l, [])
  | k :: r => (k, su lt l 0 (l :: r))
noncomputable def hify (lt : κ → κ → Bool) (d : κ) : Nat → List κ → List κ
  | 0, ks => ks
  | i + 1, ks => hify lt d i (su lt (ks.getD i d) i ks)
end

local macro_rules | `(tactic| walk_at "go1") => `(tactic| first
  | ((with_reducible refine' WE_local ?ka ?kb ?kc ?_ ?kd); (case ka => exact rfl); (case kb => exact rfl); (case kc => exact rfl); (case kd => exact rfl))
  | (with_reducible refine' WE_int ?_)
  | (with_reducible refine' WE_BinOp ?_)
  | (with_reducible refine' WE_Sub ?_)
  | (with_reducible refine' WSs_cons ?_)
  | ((with_reducible refine' WS_Assign ?ka ?_); (case ka => exact rfl))
  | ((with_reducible refine' WS_AssignT ?ka ?kb ?kc ?_); (case ka => exact rfl); (case kb => exact rfl); (case kc => exact rfl))
  | ((with_reducible refine' WStore_local ?ka ?kb ?_); (case ka => exact rfl); (case kb => exact rfl))
  | (with_reducible refine' WBin_add ?_)
  | (with_reducible refine' WBin_sub ?_)
  | (with_reducible refine' WCmp_lt ?_)
  | (with_reducible refine' WTru_bool ?_)
  | ((with_reducible refine' WT_Compare ?ka ?_); (case ka => exact rfl))
  | ((with_reducible refine' WEs_cons ?ka ?_); (case ka => exact rfl))
  | (with_reducible refine' WEs_nil ?_)
  | (with_reducible refine' WS_If ?_)
  | (with_reducible refine' WSs_nil ?_)
  | (with_reducible refine' WS_Return ?_)
  | (with_reducible refine' WS_Return0 ?_)
  | (with_reducible refine' WS_Break ?_)
  | (with_reducible refine' WS_Continue ?_)
  | ((with_reducible refine' WS_Expr ?ka ?kb ?_); (case ka => exact rfl); (case kb => exact rfl))
  | (with_reducible refine' WAsg_Name ?_)
  | (with_reducible refine' WAsg_Sub ?_)
  | (with_reducible refine' WE_bool ?_)
  | (with_reducible refine' WE_none ?_)
  | (with_reducible refine' WE_IfExp ?_)
  | ((with_reducible refine' WE_Compare ?ka ?_); (case ka => exact rfl))
  | (with_reducible refine' WT_Not ?_)
  | (with_reducible refine' WT_BoolOp ?_)
  | (with_reducible refine' WAll_And_nil ?_)
  | (with_reducible refine' WAll_Or_nil ?_)
  | (with_reducible refine' WAll_And_cons ?_)
  | (with_reducible refine' WAll_Or_cons ?_)
  | (with_reducible refine' WBin_xor ?_)
  | (with_reducible refine' WCmp_gt ?_)
  | (with_reducible refine' WCmp_ge ?_)
  | (with_reducible refine' WCmp_eq ?_)
  | (with_reducible refine' WCmp_ne ?_)
  | (with_reducible refine' WTru_int ?_)
  | ((with_reducible refine' WE_CallG ?kS ?ka ?kb ?kc ?kd ?ke ?kf ?kg ?kh ?ki ?_); (case kS => assumption); (case ka => exact rfl); (case kb => exact rfl); (case kc => exact rfl); (case kd => exact rfl); (case ke => exact rfl); (case kf => exact rfl); (case kg => exact rfl); (case kh => exact rfl); (case ki => exact rfl))
  | (with_reducible refine' WBin_and ?_)
  | (with_reducible refine' WBin_or ?_)
  | ((with_reducible refine' WE_glob ?kS ?ka ?_ ?kc ?kd ?ke ?kf ?kg); (case kS => assumption); (case ka => exact rfl); (case kc => exact rfl); (case kd => exact rfl); (case ke => exact rfl); (case kf => exact rfl); (case kg => exact rfl))
  )
local macro_rules | `(tactic| walk_at "go") => `(tactic| repeat walk_at "go1")

section
variable {C : Cx} {n : Nat} {σ : St} {κ : Type} {lt : κ → κ → Bool} {mk : κ → PV}
theorem getD_of {κ : Type} {ks : List κ} {i : Nat} (h : i < ks.length) (d : κ) : ks[i]? = some (ks.getD i d) := by
  rw [List.getD_eq_getElem?_getD, List.getElem?_eq_getElem h]; rfl
theorem map_get (ks : List κ) {i : Nat} (h : i < ks.length) (d : κ) : (ks.map mk)[i]? = some (mk (ks.getD i d)) := by
  rw [List.getElem?_map, getD_of h d]; rfl
theorem set_set (σ : St) (a : Addr) (p q : PO) : (σ.set a p).set a q = σ.set a q := by
  funext b; unfold St.set; by_cases h : b = a <;> simp [h]
theorem set_self {σ : St} {a : Addr} {p : PO} (h : σ a = some p) : σ.set a p = σ := by
  funext b; unfold St.set; by_cases q : b = a
  · subst q; simp [h]
  · simp [q]
set_option maxHeartbeats 4000000 in
theorem siftdown_call (S : Stat C) (hlt : ∀ m x y σ Q, Q (.bool (lt x y)) σ → WCmp C m .Lt (mk x) (mk y) σ Q) {h : Addr} {ks : List κ} {s p : Nat} {x : κ} {Q : PV → St → Prop}
    (hσ : σ h = some (.list (ks.map mk))) (hp : p < ks.length) (hx : ks.getD p x = x) (hz : ks.length ≤ 1000000) (hq : Q .none (σ.set h (.list ((sd lt x s p ks).map mk)))) :
    WCall C (n + 1) (.fn k_siftdown) [.ref h, .int s, .int p] σ Q := by
  refine WCall_fn S.nolim (binds3 (x := "heap") (y := "startpos") (z := "pos") rfl rfl rfl ?_ rfl rfl rfl) (by decide) rfl rfl rfl ?_
  · intro fd u v w h1 h2 h3
    obtain ⟨⟩ := fd
    cases h1; cases h2; cases h3
    rfl
  intro L a
  refine WSs_cons ?_
  walk_at "go"
  refine WSub_list (fun _ _ => rfl) hσ (by (first | lia | omega)) (by (first | lia | omega)) (by rw [Int.toNat_natCast]; exact map_get ks hp x) ?_
  rw [hx]
  walk_at "go"
  have fin : ∀ (p' : Nat) (ks' : List κ), p' < ks'.length → ks'.length = ks.length → ks'.set p' x = sd lt x s p ks → ∀ ρ, LSub [(Str.ofString "heap", PV.ref h), (Str.ofString "pos", PV.int p'), (Str.ofString "newitem", mk x)] ρ →
      WSs C n (mkEnv k_siftdown L a k_siftdown.closure) (k_siftdown.body.drop 2) ρ (σ.set h (.list (ks'.map mk))) (fun fl _ σ' => Q (retOf fl) σ') := by
    intro p' ks' hp' hl' e ρ ⟨e1, e2, e3, _⟩
    refine WSs_cons (WS_AssignT rfl rfl rfl (WE_local rfl rfl e3 (WAsg_Sub (WE_local rfl rfl e1 (WE_local rfl rfl e2 (WPut_list (St.set_same ..) (by (first | lia | omega)) (by (first | lia | omega)) (by simpa using hp') ?_) rfl) rfl)) rfl))
    walk_at "go"
    rw [set_set, Int.toNat_natCast, ← List.map_set, e]
    exact hq
  refine WS_While (fun k ρ σ' => ∃ (p' : Nat) (ks' : List κ), ρ = [(Str.ofString "heap", PV.ref h), (Str.ofString "startpos", PV.int s), (Str.ofString "pos", PV.int p'), (Str.ofString "newitem", mk x)] ∧ p' = k ∧
    σ' = σ.set h (.list (ks'.map mk)) ∧ p' < ks'.length ∧ ks'.length = ks.length ∧ sd lt x s p' ks' = sd lt x s p ks) [(Str.ofString "heap", PV.ref h), (Str.ofString "startpos", PV.int s), (Str.ofString "pos", PV.int p), (Str.ofString "newitem", mk x)]
    ?_ p ⟨rfl, rfl, rfl, rfl, trivial⟩ ⟨p, ks, rfl, rfl, (set_self hσ).symm, hp, rfl, rfl⟩
  rintro _ ρ σ' ⟨p', ks', rfl, rfl, rfl, hp', hl', hsd⟩
  walk_at "go"
  refine ⟨fun hb => ?_, fun hb => ?_⟩
  · have hb' : s < p' := by simpa using hb
    have hpp : (p' - 1) / 2 < ks'.length := by (first | lia | omega)
    have e2 : ((p' : Int) - 1).fdiv (2 ^ (1 : Int).toNat) = (((p' - 1) / 2 : Nat) : Int) := by
      rw [Int.fdiv_eq_ediv_of_nonneg _ (by decide)]
      show ((p' : Int) - 1) / 2 = _
      (first | lia | omega)
    walk_at "go"
    refine WBin_shr (by decide) ?_
    rw [e2]
    walk_at "go"
    refine WSub_list (fun _ _ => rfl) (St.set_same ..) (by (first | lia | omega)) (by (first | lia | omega)) (by rw [Int.toNat_natCast]; exact map_get ks' hpp x) ?_
    walk_at "go"
    refine hlt _ _ _ _ _ ?_
    walk_at "go"
    refine ⟨fun hc => ?_, fun hc => ?_⟩
    · walk_at "go"
      refine WPut_list (St.set_same ..) (by (first | lia | omega)) (by (first | lia | omega)) (by simpa using hp') ?_
      walk_at "go"
      refine ⟨(p' - 1) / 2, [(Str.ofString "heap", PV.ref h), (Str.ofString "startpos", PV.int s), (Str.ofString "pos", PV.int ((p' - 1) / 2 : Nat)), (Str.ofString "newitem", mk x)], _, by (first | lia | omega), ⟨rfl, rfl, rfl, rfl, trivial⟩, .refl _, _, ks'.set p' (ks'.getD ((p' - 1) / 2) x), rfl, rfl, ?_, by simpa using hpp, by simpa using hl', ?_⟩
      · rw [set_set, Int.toNat_natCast, ← List.map_set]
      · rw [← hsd]
        conv => rhs; rw [sd, dif_pos hb', if_pos hc]
    · walk_at "go"
      refine WPut_list (St.set_same ..) (by (first | lia | omega)) (by (first | lia | omega)) (by simpa using hp') ?_
      walk_at "go"
      rw [set_set, Int.toNat_natCast, ← List.map_set]
      have e : ks'.set p' x = sd lt x s p ks := by rw [← hsd, sd, dif_pos hb', if_neg (by rw [hc]; decide)]
      rw [e]
      exact hq
  · have hb' : ¬ s < p' := by simpa using hb
    exact fin p' ks' hp' hl' (by rw [← hsd, sd, dif_neg hb']) _ ⟨rfl, rfl, rfl, trivial⟩

noncomputable abbrev suρ (h : Addr) (e p : Nat) (v : PV) (p' : Nat) (c : Int) : Loc := [(Str.ofString "heap", PV.ref h), (Str.ofString "pos", PV.int p'), (Str.ofString "endpos", PV.int e), (Str.ofString "startpos", PV.int p), (Str.ofString "newitem", v), (Str.ofString "childpos", PV.int c)]
theorem child_lt {e pos : Nat} {ks : List κ} {d : κ} (h : 2 * pos + 1 < e) : child lt e pos ks d < e := by unfold child; split <;> (first | lia | omega)
theorem suL_spec (d : κ) (e : Nat) : ∀ (m pos : Nat) (ks : List κ), e - pos ≤ m → pos < e → e = ks.length → (suL lt d e pos ks).1 < e ∧ (suL lt d e pos ks).2.length = ks.length := by
  intro m
  induction m with
  | zero => intro pos ks h1 h2 _; (first | lia | omega)
  | succ m ih =>
    intro pos ks h1 h2 h3
    rw [suL]
    split
    · rename_i h
      have hc := child_lt (lt := lt) (ks := ks) (d := d) h
      have hg : pos < child lt e pos ks d := by unfold child; split <;> (first | lia | omega)
      have := ih (child lt e pos ks d) (ks.set pos (ks.getD (child lt e pos ks d) d)) (by (first | lia | omega)) hc (by simpa using h3)
      simpa using this
    · exact ⟨h2, rfl⟩
set_option maxHeartbeats 4000000 in
theorem siftup_call (S : Stat C) (hlt : ∀ m x y σ Q, Q (.bool (lt x y)) σ → WCmp C m .Lt (mk x) (mk y) σ Q) {h : Addr} {ks : List κ} {p : Nat} {d : κ} {Q : PV → St → Prop}
    (hσ : σ h = some (.list (ks.map mk))) (hp : p < ks.length) (hd : ks.getD p d = d) (hz : ks.length ≤ 1000000) (hq : Q .none (σ.set h (.list ((su lt d p ks).map mk)))) :
    WCall C (n + 2) (.fn k_siftup) [.ref h, .int p] σ Q := by
  refine WCall_fn S.nolim (binds2 (x := "heap") (y := "pos") rfl ?_ rfl rfl) (by decide) rfl rfl rfl ?_
  · intro fd u v h1 h2 h3
    obtain ⟨⟩ := fd
    cases h1; cases h2; cases h3
    rfl
  intro L a
  refine WSs_cons ?_
  walk_at "go"
  refine WCall_len hσ (by simpa using Nat.le_trans hz (by decide)) ?_
  rw [List.length_map]
  walk_at "go"
  refine WSub_list (fun _ _ => rfl) hσ (by (first | lia | omega)) (by (first | lia | omega)) (by rw [Int.toNat_natCast]; exact map_get ks hp d) ?_
  rw [hd]
  walk_at "go"
  refine WBin_mul (IntMulOk.of_left (by decide)) ?_
  walk_at "go"
  refine WS_While (fun k ρ σ' => ∃ (p' : Nat) (ks' : List κ), ρ = suρ h ks.length p (mk d) p' (2 * p' + 1) ∧ ks.length - p' = k ∧
    σ' = σ.set h (.list (ks'.map mk)) ∧ p' < ks'.length ∧ ks'.length = ks.length ∧ suL lt d ks.length p' ks' = suL lt d ks.length p ks)
    (suρ h ks.length p (mk d) p (2 * p + 1))
    ?_ (ks.length - p) ⟨rfl, rfl, rfl, rfl, rfl, rfl, trivial⟩ ⟨p, ks, rfl, rfl, (set_self hσ).symm, hp, rfl, rfl⟩
  · rintro _ ρ σ' ⟨p', ks', rfl, rfl, rfl, hp', hl', hsd⟩
    walk_at "go"
    refine ⟨fun hb => ?_, fun hb => ?_⟩
    · have hb' : 2 * p' + 1 < ks.length := by
        have := of_decide_eq_true hb; (first | lia | omega)
      have hcl : child lt ks.length p' ks' d < ks'.length := by rw [hl']; exact child_lt hb'
      have hcp : p' < child lt ks.length p' ks' d := by unfold child; split <;> (first | lia | omega)
      refine WSs_cons ?_
      walk_at "go1"
      walk_at "go1"
      walk_at "go1"
      walk_at "go1"
      walk_at "go1"
      walk_at "go1"
      refine WSs_cut (suρ h ks.length p (mk d) p' (child lt ks.length p' ks' d)) (σ.set h (.list (ks'.map mk))) ?_ ?_
      · walk_at "go"
        have e1 : (2 * (p' : Int) + 1).toNat = 2 * p' + 1 := by (first | lia | omega)
        have e2 : (2 * (p' : Int) + 1 + 1).toNat = 2 * p' + 2 := by (first | lia | omega)
        have hl1 : 2 * p' + 1 < ks'.length := by (first | lia | omega)
        refine ⟨fun h1 => ?_, fun h1 => ⟨fun z => (nomatch z), fun _ => ?_⟩⟩
        · have h1' : 2 * p' + 2 < ks.length := by have := of_decide_eq_true h1; (first | lia | omega)
          have hl2 : 2 * p' + 2 < ks'.length := by (first | lia | omega)
          walk_at "go"
          refine WSub_list (fun _ _ => rfl) (St.set_same ..) (by (first | lia | omega)) (by (first | lia | omega)) (by rw [e1]; exact map_get ks' hl1 d) ?_
          walk_at "go"
          refine WSub_list (fun _ _ => rfl) (St.set_same ..) (by (first | lia | omega)) (by (first | lia | omega)) (by rw [e2]; exact map_get ks' hl2 d) ?_
          refine hlt _ _ _ _ _ ?_
          walk_at "go"
          refine ⟨fun hc => ?_, fun hc => ⟨fun z => (nomatch z), fun _ => ?_⟩⟩
          · walk_at "go"
            refine ⟨fun _ => ?_, fun z => (nomatch z)⟩
            walk_at "go"
            have hc' : child lt ks.length p' ks' d = 2 * p' + 2 := by unfold child; rw [if_pos ⟨h1', by simpa using hc⟩]
            have e3 : (2 * (p' : Int) + 1 + 1) = ((child lt ks.length p' ks' d : Nat) : Int) := by rw [hc']; (first | lia | omega)
            refine ⟨rfl, ?_, .refl _⟩
            rw [e3]
            exact ⟨rfl, rfl, rfl, rfl, rfl, rfl, trivial⟩
          · walk_at "go"
            have hc' : child lt ks.length p' ks' d = 2 * p' + 1 := by unfold child; rw [if_neg fun z => by rw [z.2] at hc; cases hc]
            have e3 : (2 * (p' : Int) + 1) = ((child lt ks.length p' ks' d : Nat) : Int) := by rw [hc']; (first | lia | omega)
            refine ⟨rfl, ?_, .refl _⟩
            rw [e3]
            exact ⟨rfl, rfl, rfl, rfl, rfl, rfl, trivial⟩
        · have h1' : ¬ 2 * p' + 2 < ks.length := by have := of_decide_eq_false h1; (first | lia | omega)
          walk_at "go"
          have hc' : child lt ks.length p' ks' d = 2 * p' + 1 := by unfold child; rw [if_neg fun z => h1' z.1]
          have e3 : (2 * (p' : Int) + 1) = ((child lt ks.length p' ks' d : Nat) : Int) := by rw [hc']; (first | lia | omega)
          refine ⟨rfl, ?_, .refl _⟩
          rw [e3]
          exact ⟨rfl, rfl, rfl, rfl, rfl, rfl, trivial⟩
      · walk_at "go"
        refine WSub_list (fun _ _ => rfl) (St.set_same ..) (by (first | lia | omega)) (by (first | lia | omega)) (by rw [Int.toNat_natCast]; exact map_get ks' hcl d) ?_
        walk_at "go"
        refine WPut_list (St.set_same ..) (by (first | lia | omega)) (by (first | lia | omega)) (by simpa using hp') ?_
        walk_at "go"
        refine WBin_mul (IntMulOk.of_left (by decide)) ?_
        walk_at "go"
        refine ⟨_, suρ h ks.length p (mk d) (child lt ks.length p' ks' d) (2 * (child lt ks.length p' ks' d) + 1), _, ?_, ⟨rfl, rfl, rfl, rfl, rfl, rfl, trivial⟩, .refl _, child lt ks.length p' ks' d, ks'.set p' (ks'.getD (child lt ks.length p' ks' d) d), rfl, rfl, ?_, by simpa using hcl, by simpa using hl', ?_⟩
        · (first | lia | omega)
        · rw [set_set, Int.toNat_natCast, ← List.map_set]
        · rw [← hsd]
          conv => rhs; rw [suL, dif_pos hb']
    · have hb' : ¬ 2 * p' + 1 < ks.length := by
        have := of_decide_eq_false hb; (first | lia | omega)
      have he : (p', ks') = suL lt d ks.length p ks := by rw [← hsd, suL, dif_neg hb']
      walk_at "go"
      refine WPut_list (St.set_same ..) (by (first | lia | omega)) (by (first | lia | omega)) (by simpa using hp') ?_
      walk_at "go"
      rw [set_set, Int.toNat_natCast, ← List.map_set]
      refine siftdown_call S hlt (x := d) (St.set_same ..) (by simpa using hp') (by simp [hp']) (by simpa [hl'] using hz) ?_
      refine ⟨rfl, ?_⟩
      walk_at "go"
      rw [set_set]
      have e2 : su lt d p ks = sd lt d p p' (ks'.set p' d) := by
        unfold su
        rw [hd, ← he]
      rw [← e2]
      exact hq

set_option maxHeartbeats 4000000 in
theorem heappush_call (S : Stat C) (hlt : ∀ m x y σ Q, Q (.bool (lt x y)) σ → WCmp C m .Lt (mk x) (mk y) σ Q) {h : Addr} {ks : List κ} {x : κ} {Q : PV → St → Prop}
    (hσ : σ h = some (.list (ks.map mk))) (hz : ks.length < 1000000) (hq : Q .none (σ.set h (.list ((hpush lt ks x).map mk)))) :
    WCall C (n + 2) (.fn k_heappush) [.ref h, mk x] σ Q := by
  refine WCall_fn S.nolim (binds2 (x := "heap") (y := "item") rfl ?_ rfl rfl) (by decide) rfl rfl rfl ?_
  · intro fd u v h1 h2 h3
    obtain ⟨⟩ := fd
    cases h1; cases h2; cases h3
    rfl
  intro L a
  refine WSs_cons ?_
  walk_at "go"
  refine WE_lmeth1 PySem.F.slot_list_append PySem.F.type_list_append rfl rfl rfl ?_
  walk_at "go"
  refine ⟨h, _, rfl, hσ, ?_⟩
  walk_at "go"
  refine WCall_append hσ (by simp; (first | lia | omega)) ⟨rfl, ?_⟩
  walk_at "go"
  refine WCall_len (St.set_same ..) (by simp; (first | lia | omega)) ?_
  walk_at "go"
  have e1 : (((ks.map mk ++ [mk x]).length : Nat) : Int) - 1 = ((ks.length : Nat) : Int) := by simp
  rw [e1]
  refine siftdown_call (s := 0) S hlt (ks := ks ++ [x]) (x := x) (p := ks.length) (by rw [St.set_same]; simp) (by simp) (by simp) (by simp; (first | lia | omega)) ⟨rfl, ?_⟩
  walk_at "go"
  rw [set_set]
  exact hq
set_option maxHeartbeats 4000000 in
theorem heappop_call (S : Stat C) (hlt : ∀ m x y σ Q, Q (.bool (lt x y)) σ → WCmp C m .Lt (mk x) (mk y) σ Q) {h : Addr} {ks : List κ} {l : κ} {Q : PV → St → Prop}
    (hσ : σ h = some (.list ((ks ++ [l]).map mk))) (hz : ks.length < 1000000) (hq : Q (mk (hpop lt ks l).1) (σ.set h (.list ((hpop lt ks l).2.map mk)))) :
    WCall C (n + 3) (.fn k_heappop) [.ref h] σ Q := by
  refine WCall_fn S.nolim (binds1 (x := "heap") ?_ rfl) (by decide) rfl rfl rfl ?_
  · intro fd u h1 h2 h3
    obtain ⟨⟩ := fd
    cases h1; cases h2; cases h3
    rfl
  intro L a
  refine WSs_cons ?_
  walk_at "go"
  refine WE_lmeth0 PySem.F.slot_list_pop PySem.F.type_list_pop rfl rfl ?_
  walk_at "go"
  refine ⟨h, _, rfl, hσ, ?_⟩
  refine WCall_pop (xs := ks.map mk) (v := mk l) (by rw [hσ]; simp) (by simp; (first | lia | omega)) ?_
  walk_at "go"
  refine WT_val (fun _ => rfl) ?_
  walk_at "go"
  refine WTru_list (St.set_same ..) (by simp; (first | lia | omega)) ?_
  refine ⟨fun hb => ?_, fun hb => ?_⟩
  · cases ks with
    | nil => simp at hb
    | cons k r =>
      walk_at "go"
      refine WSub_list (fun _ _ => rfl) (St.set_same ..) (by (first | lia | omega)) (by (first | lia | omega)) (v := mk k) rfl ?_
      walk_at "go"
      refine WPut_list (St.set_same ..) (by (first | lia | omega)) (by (first | lia | omega)) (by simp) ?_
      walk_at "go"
      rw [set_set]
      refine siftup_call S hlt (ks := l :: r) (p := 0) (d := l) (by rw [St.set_same]; rfl) (by simp) rfl (by simpa using Nat.le_of_lt hz) ⟨rfl, ?_⟩
      walk_at "go"
      rw [set_set]
      exact hq
  · cases ks with
    | cons k r => simp at hb
    | nil =>
      walk_at "go"
      exact hq
end

/-! ## heapify, _law_in_order -/


theorem WS_cut {C : Cx} {n : Nat} {env : Env} {ρ : Loc} {σ : St} {st : Stmt} {rest : List Stmt} {Q : PF → Loc → St → Prop} (ρ' : Loc) (σ' : St) (h1 : WS C n env st ρ σ (fun f ρ₁ σ₁ => f = .next ∧ LSub ρ' ρ₁ ∧ SubS σ' σ₁)) (h2 : WSs C n env rest ρ' σ' Q) :
    WS C n env st ρ σ (fun f ρ₁ σ₁ => match f with | .next => WSs C n env rest ρ₁ σ₁ Q | f => Q f ρ₁ σ₁) := by
  refine h1.mono ?_
  rintro f ρ₁ σ₁ ⟨rfl, a, b⟩
  exact h2.more a b
section
variable {C : Cx} {n : Nat} {σ : St} {κ : Type} {lt : κ → κ → Bool} {mk : κ → PV}
theorem sd_length (x : κ) (s : Nat) : ∀ (p : Nat) (ks : List κ), (sd lt x s p ks).length = ks.length := by
  intro p
  induction p using Nat.strongRecOn with
  | ind p ih =>
    intro ks
    rw [sd]
    split
    · split
      · rw [ih _ (by (first | lia | omega))]; simp
      · simp
    · simp
theorem su_length (d : κ) {p : Nat} {ks : List κ} (hp : p < ks.length) : (su lt d p ks).length = ks.length := by
  unfold su
  dsimp only
  rw [sd_length, List.length_set]
  exact (suL_spec d ks.length _ p ks (Nat.le_refl _) hp rfl).2
noncomputable abbrev hfρ (h : Addr) (m : Nat) : Loc := [(Str.ofString "x", PV.ref h), (Str.ofString "n", PV.int m)]
set_option maxHeartbeats 4000000 in
theorem heapify_call (S : Stat C) (hlt : ∀ m x y σ Q, Q (.bool (lt x y)) σ → WCmp C m .Lt (mk x) (mk y) σ Q) {h : Addr} {ks : List κ} {d : κ} {Q : PV → St → Prop}
    (hσ : σ h = some (.list (ks.map mk))) (hz : ks.length ≤ 1000000) (hq : Q .none (σ.set h (.list ((hify lt d (ks.length / 2) ks).map mk)))) :
    WCall C (n + 3) (.fn k_heapify) [.ref h] σ Q := by
  refine WCall_fn S.nolim (binds1 (x := "x") ?_ rfl) (by decide) rfl rfl rfl ?_
  · intro fd u h1 h2 h3
    obtain ⟨⟩ := fd
    cases h1; cases h2; cases h3
    rfl
  intro L a
  refine WSs_cons ?_
  walk_at "go"
  refine WCall_len hσ (by simpa using Nat.le_trans hz (by decide)) ?_
  rw [List.length_map]
  walk_at "go"
  have e2 : ((ks.length : Int)).fdiv 2 = ((ks.length / 2 : Nat) : Int) := by
    rw [Int.fdiv_eq_ediv_of_nonneg _ (by decide)]; (first | lia | omega)
  refine WS_For (fun i ρ σ' => ∃ ks' : List κ, ρ = hfρ h ks.length ∧ σ' = σ.set h (.list (ks'.map mk)) ∧ ks'.length = ks.length ∧ hify lt d (ks.length / 2 - i) ks' = hify lt d (ks.length / 2) ks) (hfρ h ks.length)
    (fun _ => rfl) (fun _ _ => rfl) (rangeOk C (0 + (((ks.length / 2 : Nat) : Int) - 1)) (ks.length / 2) (-1)) ⟨rfl, rfl, trivial⟩ ?_ ?_ ?_
  · refine WIt_self (rangeOk C (0 + (((ks.length / 2 : Nat) : Int) - 1)) (ks.length / 2) (-1)) ?_
    walk_at "go"
    refine WBin_fdiv (by decide) (by decide) ?_
    rw [e2]
    walk_at "go"
    refine WCall_range1 ?_
    walk_at "go"
    refine WCall_revR (k := ks.length / 2) (by (first | lia | omega)) fun D hD => ?_
    refine ⟨D, _, rfl, St.set_same .., ?_, ks, rfl, ?_, rfl, rfl⟩
    · unfold rangeSt rritObj; simp
    · rw [set_self hσ]
      funext b
      unfold St.del St.set
      by_cases hb : b = D
      · subst hb; simp [hD]
      · simp [hb]
  · rintro i p ρ σ' hp ⟨ks', rfl, rfl, hl', he⟩
    obtain ⟨hlt', rfl⟩ := rangeItems_get hp
    refine ⟨trivial, ?_⟩
    have e3 : (0 + (((ks.length / 2 : Nat) : Int) - 1) + (i : Int) * (-1)) = ((ks.length / 2 - i - 1 : Nat) : Int) := by (first | lia | omega)
    rw [e3]
    walk_at "go"
    have hpl : ks.length / 2 - i - 1 < ks'.length := by (first | lia | omega)
    refine siftup_call S hlt (ks := ks') (p := ks.length / 2 - i - 1) (d := ks'.getD (ks.length / 2 - i - 1) d) (St.set_same ..) hpl (by simp [List.getD_eq_getElem?_getD, hpl]) (by (first | lia | omega)) ⟨rfl, ?_⟩
    walk_at "go"
    refine ⟨hfρ h ks.length, _, ⟨rfl, rfl, trivial⟩, .refl _, su lt (ks'.getD (ks.length / 2 - i - 1) d) (ks.length / 2 - i - 1) ks', rfl, by rw [set_set], ?_, ?_⟩
    · rw [su_length _ hpl, hl']
    · rw [← he]
      have : ks.length / 2 - i = (ks.length / 2 - i - 1) + 1 := by (first | lia | omega)
      have e5 : ks.length / 2 - (i + 1) = ks.length / 2 - i - 1 := by (first | lia | omega)
      rw [e5]
      conv => rhs; rw [this, hify]
  · rintro ρ σ' ⟨ks', rfl, rfl, hl', he⟩
    refine ⟨trivial, ?_⟩
    walk_at "go"
    have : (rangeItems (0 + (((ks.length / 2 : Nat) : Int) - 1)) (ks.length / 2) (-1)).length = ks.length / 2 := by simp [rangeItems]
    rw [this, Nat.sub_self] at he
    rw [hify] at he
    rw [he]
    exact hq
end
/-! ### _law_in_order -/
noncomputable def ltI (a b : Int) : Bool := decide (a < b)
/-- the list popped empty -/
noncomputable def drain {κ : Type} (lt : κ → κ → Bool) : Nat → List κ → List κ
  | 0, _ => []
  | f + 1, ks => match ks.reverse with
    | [] => []
    | l :: r => (hpop lt r.reverse l).1 :: drain lt f (hpop lt r.reverse l).2
noncomputable def inOrder (ns : List Int) : List Int := drain ltI ns.length (hify ltI 0 (ns.length / 2) ns)
theorem hify_length {κ : Type} (lt : κ → κ → Bool) (d : κ) : ∀ (i : Nat) (ks : List κ), i ≤ ks.length → (hify lt d i ks).length = ks.length
  | 0, _, _ => rfl
  | i + 1, ks, h => by
    rw [hify, hify_length lt d i _ (by rw [su_length _ h]; (first | lia | omega)), su_length _ h]
theorem hpop_length {κ : Type} (lt : κ → κ → Bool) (ks : List κ) (l : κ) : (hpop lt ks l).2.length = ks.length := by
  cases ks with
  | nil => rfl
  | cons k r => exact su_length (lt := lt) l (p := 0) (ks := l :: r) (by simp)
section
variable {C : Cx} {n : Nat} {σ : St}
noncomputable abbrev ioρ (a h o : Addr) : Loc := [(Str.ofString "numbers", PV.ref a), (Str.ofString "heap", PV.ref h), (Str.ofString "order", PV.ref o)]
set_option maxHeartbeats 4000000 in
theorem in_order_call (S : Stat C) {a : Addr} {ns : List Int} {Q : PV → St → Prop} (hσ : σ a = some (.list (iL ns))) (hz : ns.length ≤ 1000) (hq : ∀ b, σ b = none → Q (.ref b) (σ.set b (.list (iL (inOrder ns))))) :
    WCall C (n + 4) (.fn k_in_order) [.ref a] σ Q := by
  refine WCall_fn S.nolim (binds1 (x := "numbers") ?_ rfl) (by decide) rfl rfl rfl ?_
  · intro fd u h1 h2 h3
    obtain ⟨⟩ := fd
    cases h1; cases h2; cases h3
    rfl
  intro L ad
  refine WSs_cons ?_
  walk_at "go"
  refine WCall_listL hσ (by simp; (first | lia | omega)) fun h hh => ?_
  walk_at "go"
  have hlt : ∀ m x y σ Q, Q (.bool (ltI x y)) σ → WCmp C m .Lt (.int x) (.int y) σ Q := fun m x y σ Q q => WCmp_lt q
  refine heapify_call S hlt (ks := ns) (d := 0) (St.set_same ..) (by (first | lia | omega)) ⟨rfl, ?_⟩
  rw [set_set]
  walk_at "go"
  refine WE_List ?_
  walk_at "go"
  refine ⟨by simp, fun o ho => ?_⟩
  have hoh : o ≠ h := fun z => by subst z; simp at ho
  have hoσ : σ o = none := by rw [St.set_ne hoh] at ho; exact ho
  walk_at "go"
  generalize hk0 : hify ltI 0 (ns.length / 2) ns = ks0
  have hl0 : ks0.length = ns.length := by rw [← hk0]; exact hify_length _ _ _ _ (by (first | lia | omega))
  have hdr : inOrder ns = [] ++ drain ltI ns.length ks0 := by unfold inOrder; rw [hk0]; rfl
  refine WS_cut (ioρ a h o) (σ.set o (.list (iL (inOrder ns)))) ?_ ?_
  · refine WS_While (fun k ρ σ' => ∃ out ks, ρ = ioρ a h o ∧ ks.length = k ∧ k ≤ ns.length ∧ out.length + k = ns.length ∧ σ' = (σ.set h (.list (ks.map PV.int))).set o (.list (iL out)) ∧ inOrder ns = out ++ drain ltI k ks) (ioρ a h o) ?_ ns.length ⟨rfl, rfl, rfl, trivial⟩
      ⟨[], ks0, rfl, hl0, Nat.le_refl _, by simp, rfl, hdr⟩
    rintro k ρ σ' ⟨out, ks, rfl, rfl, hk, hol, rfl, he⟩
    have hσh : ((σ.set h (.list (ks.map PV.int))).set o (.list (iL out))) h = some (.list (ks.map PV.int)) := by rw [St.set_ne (Ne.symm hoh), St.set_same]
    refine WT_val (fun _ => rfl) ?_
    walk_at "go"
    refine WTru_list hσh (by simp; (first | lia | omega)) ⟨fun hb => ?_, fun hb => ?_⟩
    · cases hr : ks.reverse with
      | nil => rw [List.reverse_eq_nil_iff.mp hr] at hb; simp at hb
      | cons l r =>
        have hks : ks = r.reverse ++ [l] := by rw [← List.reverse_reverse ks, hr]; simp
        have hlen : ks.length = r.reverse.length + 1 := by rw [hks]; simp
        walk_at "go"
        refine WE_lmeth1 PySem.F.slot_list_append PySem.F.type_list_append rfl rfl rfl ?_
        walk_at "go"
        refine ⟨o, _, rfl, St.set_same .., ?_⟩
        walk_at "go"
        refine heappop_call S hlt (ks := r.reverse) (l := l) (by rw [hσh, hks]) (by (first | lia | omega)) ?_
        refine WCall_append (xs := iL out) (by rw [St.set_ne hoh, St.set_same]) (by simp; (first | lia | omega)) ⟨rfl, ?_⟩
        walk_at "go"
        refine ⟨(hpop ltI r.reverse l).2.length, ioρ a h o, _, ?_, ⟨rfl, rfl, rfl, trivial⟩, .refl _, out ++ [(hpop ltI r.reverse l).1], (hpop ltI r.reverse l).2, rfl, rfl, ?_, ?_, ?_, ?_⟩
        · rw [hpop_length]; (first | lia | omega)
        · rw [hpop_length]; (first | lia | omega)
        · rw [hpop_length]; simp only [List.length_append, List.length_cons, List.length_nil]; (first | lia | omega)
        · funext b
          unfold St.set
          by_cases b1 : b = o
          · subst b1; simp
          · by_cases b2 : b = h
            · subst b2; simp [b1]
            · simp [b1, b2]
        · rw [he, hlen, drain, hr]
          simp [hpop_length]
    · have : ks = [] := by cases ks with
        | nil => rfl
        | cons x l => simp at hb
      subst this
      refine ⟨rfl, ⟨rfl, rfl, rfl, trivial⟩, ?_⟩
      intro b p hb'
      unfold St.set at hb' ⊢
      by_cases b1 : b = o
      · subst b1; simp at hb' ⊢; rw [← hb', he]; simp [drain]
      · simp [b1] at hb' ⊢
        by_cases b2 : b = h
        · subst b2; rw [hh] at hb'; cases hb'
        · simp [b2]; exact hb'
  · walk_at "go"
    exact hq o hoσ
end

/-! ## _int2digits, _digits2int -/


/-! ### what they compute -/
noncomputable def dgR (n m : Nat) (x : Nat) : List Int :=
  if _h : m ≤ 1 then [(x : Int)] else dgR n (m / 2) (x % 2 ^ (n * (m / 2))) ++ dgR n (m - m / 2) (x / 2 ^ (n * (m / 2)))
termination_by m
decreasing_by all_goals (first | lia | omega)
theorem dgR_length (n : Nat) : ∀ (m x : Nat), 1 ≤ m → (dgR n m x).length = m := by
  intro m
  induction m using Nat.strongRecOn with
  | ind m ih =>
    intro x hm
    rw [dgR]
    split
    · simp; (first | lia | omega)
    · rw [List.length_append, ih _ (by (first | lia | omega)) _ (by (first | lia | omega)), ih _ (by (first | lia | omega)) _ (by (first | lia | omega))]; (first | lia | omega)
noncomputable def V64 : List Int → Int
  | [] => 0
  | d :: r => d + 64 * V64 r
theorem V64_append : ∀ (a b : List Int), V64 (a ++ b) = V64 a + 64 ^ a.length * V64 b
  | [], b => by simp [V64]
  | d :: a, b => by
    rw [List.cons_append, V64, V64, V64_append a b, List.length_cons, Int.pow_succ, Int.mul_add]
    rw [Int.mul_comm (64 ^ a.length) 64, ← Int.mul_assoc]; (first | lia | omega)
theorem V64_bound : ∀ (a : List Int), (∀ d ∈ a, 0 ≤ d ∧ d < 64) → 0 ≤ V64 a ∧ V64 a < 64 ^ a.length
  | [], _ => by simp [V64]
  | d :: a, h => by
    have h1 := h d (.head _)
    have h2 := V64_bound a fun x hx => h x (.tail _ hx)
    rw [V64, List.length_cons, Int.pow_succ]
    (first | lia | omega)
theorem xor_low (x s : Nat) : Builtin.bitXor (x : Int) (((x / 2 ^ s : Nat) : Int) * 2 ^ s) = ((x % 2 ^ s : Nat) : Int) := by
  have e : (((x / 2 ^ s : Nat) : Int) * 2 ^ s) = (((x / 2 ^ s * 2 ^ s : Nat)) : Int) := by push_cast; rfl
  rw [e, bitXor_and]
  have e2 : Builtin.bitAnd (x : Int) ((x / 2 ^ s * 2 ^ s : Nat) : Int) = ((x / 2 ^ s * 2 ^ s : Nat) : Int) := by
    have : x &&& (x / 2 ^ s * 2 ^ s) = x / 2 ^ s * 2 ^ s := by
      apply Nat.eq_of_testBit_eq
      intro i
      rw [Nat.testBit_and, Nat.testBit_mul_two_pow, Nat.testBit_div_two_pow]
      by_cases hi : s ≤ i
      · simp [hi, Nat.sub_add_cancel hi]
      · simp [hi]
    unfold Builtin.bitAnd
    have h1 : decide ((0 : Int) ≤ (x : Int)) = true := decide_eq_true (by (first | lia | omega))
    have h2 : decide ((0 : Int) ≤ ((x / 2 ^ s * 2 ^ s : Nat) : Int)) = true := decide_eq_true (by (first | lia | omega))
    rw [h1, h2]
    simp only [Int.toNat_natCast]
    rw [this]
  rw [e2]
  have := Nat.div_add_mod x (2 ^ s)
  rw [Nat.mul_comm] at this
  (first | lia | omega)
noncomputable def puts (ds : List Int) (L : Nat) (es : List Int) : List Int := ds.take L ++ es ++ ds.drop (L + es.length)
theorem puts_length {ds es : List Int} {L : Nat} (h : L + es.length ≤ ds.length) : (puts ds L es).length = ds.length := by
  unfold puts; simp; (first | lia | omega)
theorem puts_puts {ds e1 e2 : List Int} {L : Nat} (h : L + e1.length + e2.length ≤ ds.length) : puts (puts ds L e1) (L + e1.length) e2 = puts ds L (e1 ++ e2) := by
  unfold puts
  have hl : (ds.take L).length = L := by simp; (first | lia | omega)
  have a1 : (ds.take L ++ e1 ++ ds.drop (L + e1.length)).take (L + e1.length) = ds.take L ++ e1 := by
    rw [List.take_left' (by simp; (first | lia | omega))]
  have a2 : (ds.take L ++ e1 ++ ds.drop (L + e1.length)).drop (L + e1.length + e2.length) = ds.drop (L + (e1 ++ e2).length) := by
    rw [List.drop_append, List.drop_of_length_le (by simp; (first | lia | omega))]
    simp only [List.nil_append, List.drop_drop]
    congr 1
    simp; (first | lia | omega)
  rw [a1, a2]; simp
theorem set_puts {ds : List Int} {L : Nat} {x : Int} (h : L < ds.length) : ds.set L x = puts ds L [x] := by
  unfold puts
  rw [List.set_eq_take_append_cons_drop, if_pos h]; simp

/-! ### _int2digits -/
noncomputable def st1 : Stmt := k_int2digits.body[1]?.getD (.Pass default)
noncomputable def posOf : Stmt → Pos
  | .FunctionDef _ _ _ _ _ _ _ _ _ p => p
  | _ => default
noncomputable def q1 : Str := Str.ofString "_int2digits.<locals>.inner"
noncomputable def kin1 (L c' : Addr) : FnI := fnOf q1 (paramsOf st1) (bodyOf st1) (scopeOf st1) [("n", L + 1), ("inner", L + 3), ("a_digits", L + 2)] c'
section
variable {C : Cx} {n : Nat} {σ : St}
structure In1 (σ : St) (L c' d : Addr) (nn : Nat) (ds : List Int) : Prop where
  cn : σ (L + 1) = some (.cell (some (.int nn)))
  ca : σ (L + 2) = some (.cell (some (.ref d)))
  ci : σ (L + 3) = some (.cell (some (.fn (kin1 L c'))))
  dd : σ d = some (.list (iL ds))
theorem In1.set {σ : St} {L c' d : Addr} {nn : Nat} {ds : List Int} (h : In1 σ L c' d nn ds) (es : List Int) : In1 (σ.set d (.list (iL es))) L c' d nn es where
  cn := by rw [St.set_ne fun z => by have := h.cn; rw [z, h.dd] at this; cases this]; exact h.cn
  ca := by rw [St.set_ne fun z => by have := h.ca; rw [z, h.dd] at this; cases this]; exact h.ca
  ci := by rw [St.set_ne fun z => by have := h.ci; rw [z, h.dd] at this; cases this]; exact h.ci
  dd := St.set_same ..
theorem Room.down {n n' : Nat} {A : Around} (h : Room n' A) (hn : n ≤ n') : Room n A := ⟨by have := h.1; (first | lia | omega), by have := h.2.1; (first | lia | omega), h.2.2⟩
theorem WCall.up {n n' : Nat} {f : PV} {args : List PV} {Q : PV → St → Prop} (hn : n ≤ n') (h : WCall C n f args σ Q) : WCall C n' f args σ Q :=
  fun F L ρ f' args' hB a b A s E K hr hR hK => h F L ρ f' args' hB a b A s E K (hr.down hn) hR hK
theorem fdiv_pow (x s : Nat) : ((x : Int)).fdiv (2 ^ s) = ((x / 2 ^ s : Nat) : Int) := by
  rw [Int.fdiv_eq_ediv_of_nonneg _ (Int.le_of_lt (Int.pow_pos (by decide)))]
  push_cast
  rfl
theorem intBits_small {x : Nat} (h : x < 2 ^ 63) : Builtin.Int.intBits (x : Int) ≤ 64 := by
  unfold Builtin.Int.intBits
  split
  · (first | lia | omega)
  · rename_i hx
    have hx0 : x ≠ 0 := by intro z; subst z; exact hx rfl
    have := (Nat.log2_lt hx0 (k := 63)).mpr h
    show x.log2 + 1 ≤ 64
    (first | lia | omega)
set_option maxHeartbeats 4000000 in
theorem inner1_call (S : Stat C) {L c' d : Addr} {nn : Nat} (hnn : nn ≤ 64) : ∀ (m : Nat) {σ : St} {ds : List Int} {x l : Nat} {Q : PV → St → Prop}, In1 σ L c' d nn ds → 1 ≤ m → l + m ≤ ds.length → ds.length ≤ 1000 → x < 2 ^ 60 →
    Q .none (σ.set d (.list (iL (puts ds l (dgR nn m x))))) → WCall C (m + 1) (.fn (kin1 L c')) [.int x, .int l, .int ((l + m : Nat) : Int)] σ Q := by
  intro m
  induction m using Nat.strongRecOn with
  | ind m ih =>
    intro σ ds x l Q hI hm hlm hz hx hq
    refine WCall_fn S.nolim (binds3 (x := "x") (y := "L") (z := "R") rfl rfl rfl ?_ rfl rfl rfl) (by show ∀ x ∈ (scopeOf st1).names, x.2 ≠ .cell; decide) rfl rfl rfl ?_
    · intro fd u v w h1 h2 h3
      obtain ⟨⟩ := fd
      cases h1; cases h2; cases h3
      rfl
    intro L' a'
    refine WSs_cons ?_
    walk_at "go"
    refine ⟨fun hb => ?_, fun hb => ?_⟩
    · have hm1 : m = 1 := by
        have : (l : Int) + 1 = ((l + m : Nat) : Int) := by simpa using hb
        (first | lia | omega)
      subst hm1
      walk_at "go"
      refine WE_free rfl rfl rfl hI.ca ?_ rfl rfl
      walk_at "go"
      refine WPut_list hI.dd (by (first | lia | omega)) (by (first | lia | omega)) (by simp; (first | lia | omega)) ?_
      walk_at "go"
      rw [dgR, dif_pos (Nat.le_refl _)] at hq
      have e : List.set (iL ds) (l : Int).toNat (PV.int x) = iL (puts ds l [(x : Int)]) := by
        rw [Int.toNat_natCast, ← set_puts (by (first | lia | omega))]; exact (List.map_set ..).symm
      rw [e]
      exact hq
    · have hm2 : 2 ≤ m := by
        have : ¬ (l : Int) + 1 = ((l + m : Nat) : Int) := by simpa using hb
        (first | lia | omega)
      have e1 : ((l : Int) + ((l + m : Nat) : Int)).fdiv (2 ^ (1 : Int).toNat) = ((l + m / 2 : Nat) : Int) := by
        rw [Int.fdiv_eq_ediv_of_nonneg _ (by decide)]
        show ((l : Int) + ((l + m : Nat) : Int)) / 2 = _
        (first | lia | omega)
      have e2 : (((l + m / 2 : Nat) : Int) - (l : Int)) * (nn : Int) = ((nn * (m / 2) : Nat) : Int) := by
        have : ((l + m / 2 : Nat) : Int) - (l : Int) = ((m / 2 : Nat) : Int) := by (first | lia | omega)
        rw [this, Int.mul_comm]; push_cast; rfl
      have hsh : nn * (m / 2) ≤ 64 * 1000 := Nat.mul_le_mul hnn (by (first | lia | omega))
      have hup : x / 2 ^ (nn * (m / 2)) < 2 ^ 60 := Nat.lt_of_le_of_lt (Nat.div_le_self ..) hx
      have hlo : x % 2 ^ (nn * (m / 2)) < 2 ^ 60 := Nat.lt_of_le_of_lt (Nat.mod_le ..) hx
      walk_at "go"
      refine WBin_shr (by decide) ?_
      rw [e1]
      walk_at "go"
      refine WE_free rfl rfl rfl hI.cn ?_ rfl rfl
      refine WBin_mul (IntMulOk.of_right (intBits_small (by (first | lia | omega)))) ?_
      rw [e2]
      walk_at "go"
      refine WBin_shr (by (first | lia | omega)) ?_
      rw [Int.toNat_natCast, fdiv_pow]
      walk_at "go"
      refine WBin_shl (by (first | lia | omega)) (by (first | lia | omega)) (by rw [Int.natAbs_natCast]; exact Nat.lt_trans hup (by decide)) ?_
      rw [Int.toNat_natCast]
      walk_at "go"
      rw [xor_low]
      walk_at "go"
      have hI2 := hI.set (puts ds l (dgR nn (m / 2) (x % 2 ^ (nn * (m / 2)))))
      have len1 : (dgR nn (m / 2) (x % 2 ^ (nn * (m / 2)))).length = m / 2 := dgR_length _ _ _ (by (first | lia | omega))
      have len2 : (dgR nn (m - m / 2) (x / 2 ^ (nn * (m / 2)))).length = m - m / 2 := dgR_length _ _ _ (by (first | lia | omega))
      have plen : (puts ds l (dgR nn (m / 2) (x % 2 ^ (nn * (m / 2))))).length = ds.length := puts_length (by (first | lia | omega))
      refine WE_Call rfl rfl rfl (WE_free rfl rfl rfl hI.ci ⟨.inl ⟨_, rfl⟩, ?_⟩ rfl rfl)
      walk_at "go"
      refine (ih (m / 2) (by (first | lia | omega)) hI (by (first | lia | omega)) (by (first | lia | omega)) hz hlo ?_).up (by (first | lia | omega))
      refine ⟨rfl, ?_⟩
      walk_at "go"
      refine WE_Call rfl rfl rfl (WE_free rfl rfl rfl hI2.ci ⟨.inl ⟨_, rfl⟩, ?_⟩ rfl rfl)
      walk_at "go"
      have e3 : ((l + m : Nat) : Int) = (((l + m / 2) + (m - m / 2) : Nat) : Int) := by (first | lia | omega)
      rw [e3]
      refine (ih (m - m / 2) (by (first | lia | omega)) hI2 (by (first | lia | omega)) (by rw [plen]; (first | lia | omega)) (by rw [plen]; exact hz) hup ?_).up (by (first | lia | omega))
      refine ⟨rfl, ?_⟩
      walk_at "go"
      rw [set_set]
      rw [dgR, dif_neg (by (first | lia | omega))] at hq
      have := puts_puts (ds := ds) (L := l) (e1 := dgR nn (m / 2) (x % 2 ^ (nn * (m / 2)))) (e2 := dgR nn (m - m / 2) (x / 2 ^ (nn * (m / 2)))) (by (first | lia | omega))
      rw [len1] at this
      rw [this]
      exact hq
noncomputable def mlen (nn x : Nat) : Nat := (Builtin.Int.intBits (x : Int) + nn - 1) / nn
noncomputable def i2d (nn x : Nat) : List Int := if x = 0 then [] else dgR nn (mlen nn x) x
noncomputable def T1 : PO := .tab (some (posOf st1, q1))
theorem mlen_pos {nn x : Nat} (hn : 1 ≤ nn) (hx : x ≠ 0) : 1 ≤ mlen nn x := by
  unfold mlen
  have : 1 ≤ Builtin.Int.intBits (x : Int) := by
    unfold Builtin.Int.intBits
    split
    · rename_i h; exact absurd (by simpa using h) hx
    · (first | lia | omega)
  exact (Nat.le_div_iff_mul_le (by (first | lia | omega))).mpr (by (first | lia | omega))
set_option maxHeartbeats 4000000 in
theorem int2digits_call (S : Stat C) {nn x : Nat} (hnn : nn ≤ 64) (hn1 : 1 ≤ nn) (hx : x < 2 ^ 60) (hm : mlen nn x ≤ 8) {e : Option (Pos × Str)} {Q : PV → St → Prop} (hT : σ 23 = some (.tab e)) (he : tabIs e (posOf st1) q1)
    (hq : ∀ b, σ b = none → Q (.ref b) ((σ.set 23 T1).set b (.list (iL (i2d nn x))))) : WCall C (n + 12) (.fn k_int2digits) [.int x, .int nn] σ Q := by
  refine WCall.less ?_
  refine WCall_fn3 (x1 := "n") (x2 := "a_digits") (x3 := "inner") (ρ' := [("a", .int x)]) (i1 := some (.int nn)) (i2 := none) (i3 := none) S.nolim rfl (fun _ => rfl) rfl rfl rfl ?_ rfl rfl rfl ?_
  · intro F vs _ hv
    cases hv with
    | cons r hv =>
      cases hv with
      | cons r2 hv =>
        cases hv
        rename_i v w
        refine ⟨[("a", v), ("n", w)], ?_, ?_, ?_, ?_, ?_, ?_⟩
        · intro fd hf
          have h1 := hf.params; have h2 := hf.dflt; have h3 := hf.kwd
          obtain ⟨⟩ := fd
          cases h1; cases h2; cases h3
          rfl
        · intro y hy
          simp at hy
          rcases hy with rfl | rfl
          · exact .inl rfl
          · exact .inr ⟨rfl, .inl rfl⟩
        · intro y u hy
          rw [List.lookup_cons] at hy
          cases q : y == ("a" : Str) with
          | true =>
            rw [q] at hy; cases hy
            have : y = "a" := by simpa using q
            subst this
            exact ⟨v, rfl, r⟩
          | false => rw [q] at hy; cases hy
        · exact ⟨w, rfl, r2⟩
        · rfl
        · rfl
  intro L a f1 f2 f3
  have h23 : ∀ j : Nat, 0 < j → σ (L + j) = none → (23 : Addr) ≠ L + j := fun j _ hj z => by rw [← z, hT] at hj; cases hj
  have n1 := h23 1 (by decide) f1
  have n2 := h23 2 (by decide) f2
  have n3 := h23 3 (by decide) f3
  refine WSs_cons ?_
  walk_at "go"
  refine WE_List ?_
  walk_at "go"
  refine ⟨by simp, fun c0 hc0 => ?_⟩
  walk_at "go"
  refine WE_bitLen rfl rfl ?_
  walk_at "go"
  refine ⟨(x : Int), rfl, ?_⟩
  generalize hs1 : st3 σ L (some (.int nn)) none none = σ1 at *
  have gn : σ1 (L + 1) = some (.cell (some (.int nn))) := by
    rw [← hs1]; unfold st3
    rw [St.set_ne (Nat.ne_of_lt (Nat.add_lt_add_left (by decide) _)), St.set_ne (Nat.ne_of_lt (Nat.add_lt_add_left (by decide) _)), St.set_same]
  have ga : σ1 (L + 2) = some (.cell none) := by
    rw [← hs1]; unfold st3
    rw [St.set_ne (Nat.ne_of_lt (Nat.add_lt_add_left (by decide) _)), St.set_same]
  have gi : σ1 (L + 3) = some (.cell none) := by rw [← hs1]; unfold st3; rw [St.set_same]
  have gk : ∀ b p, σ b = some p → σ1 b = some p := by
    intro b p hb
    rw [← hs1]; unfold st3
    have z3 : b ≠ L + 3 := fun z => by rw [z, f3] at hb; cases hb
    have z2 : b ≠ L + 2 := fun z => by rw [z, f2] at hb; cases hb
    have z1 : b ≠ L + 1 := fun z => by rw [z, f1] at hb; cases hb
    rw [St.set_ne z3, St.set_ne z2, St.set_ne z1]
    exact hb
  have gT := gk _ _ hT
  have ne0 : ∀ {b p}, σ1 b = some p → b ≠ c0 := fun hb z => by rw [z, hc0] at hb; cases hb
  walk_at "go"
  refine WE_cell rfl rfl rfl (by rw [St.set_ne (ne0 gn)]; exact gn) ?_ rfl
  walk_at "go"
  refine WE_cell rfl rfl rfl (by rw [St.set_ne (ne0 gn)]; exact gn) ?_ rfl
  refine WBin_fdiv (by (first | lia | omega)) (by (first | lia | omega)) ?_
  have em : ((Builtin.Int.intBits (x : Int) : Int) + (nn : Int) - 1).fdiv nn = ((mlen nn x : Nat) : Int) := by
    unfold mlen
    rw [Int.fdiv_eq_ediv_of_nonneg _ (by (first | lia | omega))]
    have : ((Builtin.Int.intBits (x : Int) : Int) + (nn : Int) - 1) = ((Builtin.Int.intBits (x : Int) + nn - 1 : Nat) : Int) := by (first | lia | omega)
    rw [this]; push_cast; rfl
  rw [em]
  refine WBin_mulL (St.set_same ..) (by (first | lia | omega)) (by (first | lia | omega)) fun d hd => ?_
  have nd0 : d ≠ c0 := fun z => by rw [z, St.set_same] at hd; cases hd
  have hd1 : σ1 d = none := by rw [St.set_ne nd0] at hd; exact hd
  have hd2 : σ d = none := by cases q : σ d with
    | none => rfl
    | some p => rw [gk _ _ q] at hd1; cases hd1
  have ned : ∀ {b p}, σ1 b = some p → b ≠ d := fun hb z => by rw [z, hd1] at hb; cases hb
  rw [Int.toNat_natCast]
  refine WStore_cell (c := L + 2) (v₀ := none) rfl rfl rfl (by rw [St.set_ne (ned ga), St.set_ne (ne0 ga)]; exact ga) ?_
  generalize hs2 : (((σ1.set c0 (.list [.int 0])).set d (.list (List.replicate (mlen nn x) (.int 0)))).set (L + 2) (.cell (some (.ref d)))) = σ2
  have g2 : ∀ b p, σ1 b = some p → b ≠ L + 2 → σ2 b = some p := by
    intro b p hb hne
    rw [← hs2, St.set_ne hne, St.set_ne (ned hb), St.set_ne (ne0 hb)]; exact hb
  have n12 : L + 1 ≠ L + 2 := Nat.ne_of_lt (Nat.add_lt_add_left (by decide) _)
  have n32 : L + 3 ≠ L + 2 := Nat.ne_of_gt (Nat.add_lt_add_left (by decide) _)
  have n13 : L + 1 ≠ L + 3 := Nat.ne_of_lt (Nat.add_lt_add_left (by decide) _)
  have n23 : L + 2 ≠ L + 3 := Nat.ne_of_lt (Nat.add_lt_add_left (by decide) _)
  have g2n := g2 _ _ gn n12
  have g2i := g2 _ _ gi n32
  have g2T := g2 _ _ gT n2
  have g2a : σ2 (L + 2) = some (.cell (some (.ref d))) := by rw [← hs2, St.set_same]
  have g2d : σ2 d = some (.list (iL (List.replicate (mlen nn x) 0))) := by
    rw [← hs2, St.set_ne (Ne.symm (ned ga)), St.set_same]; simp [iL]
  walk_at "go"
  refine WS_Def (c := 27) (P := 23) (clos := [("n", L + 1), ("inner", L + 3), ("a_digits", L + 2)]) (e := e) rfl rfl rfl rfl rfl rfl S.nest1 g2T he fun c' => ?_
  refine WStore_cell (c := L + 3) (v₀ := none) rfl rfl rfl (by rw [St.set_ne (Ne.symm n3)]; exact g2i) ?_
  show WSs C (n + 11) (mkEnv k_int2digits L a _) _ _ ((σ2.set 23 T1).set (L + 3) (.cell (some (.fn (kin1 L c'))))) _
  generalize hs3 : (σ2.set 23 T1).set (L + 3) (.cell (some (.fn (kin1 L c')))) = σ3
  have g3 : ∀ b p, σ2 b = some p → b ≠ L + 3 → b ≠ 23 → σ3 b = some p := by
    intro b p hb h1 h2
    rw [← hs3, St.set_ne h1, St.set_ne h2]; exact hb
  have hd23 : d ≠ 23 := Ne.symm (ned gT)
  have hI : In1 σ3 L c' d nn (List.replicate (mlen nn x) 0) := {
    cn := g3 _ _ g2n n13 (Ne.symm n1)
    ca := g3 _ _ g2a n23 (Ne.symm n2)
    ci := by rw [← hs3, St.set_same]
    dd := g3 _ _ g2d (Ne.symm (ned gi)) hd23 }
  have fin : ∀ σ', (∃ es, σ' = σ3.set d (.list (iL es)) ∧ es = i2d nn x) → ∃ σ₀, SubS σ₀ σ' ∧ Q (.ref d) σ₀ := by
    rintro _ ⟨es, rfl, rfl⟩
    refine ⟨_, ?_, hq d hd2⟩
    intro b p hb
    by_cases b1 : b = d
    · subst b1; rw [St.set_same] at hb ⊢; exact hb
    · rw [St.set_ne b1] at hb ⊢
      by_cases b2 : b = 23
      · subst b2
        rw [St.set_same] at hb
        rw [← hs3, St.set_ne n3, St.set_same]; exact hb
      · rw [St.set_ne b2] at hb
        have q1 := gk _ _ hb
        have z3 : b ≠ L + 3 := fun z => by rw [z, f3] at hb; cases hb
        have z2 : b ≠ L + 2 := fun z => by rw [z, f2] at hb; cases hb
        exact g3 _ _ (g2 _ _ q1 z2) z3 b2
  refine WSs_cons ?_
  walk_at "go"
  refine WT_val (fun _ => rfl) ?_
  walk_at "go"
  refine ⟨fun hb => ?_, fun hb => ?_⟩
  · have hx0 : x ≠ 0 := by intro z; subst z; simp at hb
    have hmp := mlen_pos hn1 hx0
    walk_at "go"
    refine WE_Call rfl rfl rfl (WE_cell rfl rfl rfl hI.ci ⟨.inl ⟨_, rfl⟩, ?_⟩ rfl)
    walk_at "go"
    refine WE_cell rfl rfl rfl hI.ca ?_ rfl
    walk_at "go"
    refine WCall_len hI.dd (by simp; (first | lia | omega)) ?_
    walk_at "go"
    have e5 : ((iL (List.replicate (mlen nn x) (0 : Int))).length : Int) = ((0 + mlen nn x : Nat) : Int) := by simp
    rw [e5]
    refine WCall.up (n := mlen nn x + 1) (by (first | lia | omega)) (inner1_call S hnn (mlen nn x) (l := 0) hI hmp (by simp) (by simp; (first | lia | omega)) hx ⟨rfl, ?_⟩)
    walk_at "go"
    refine WE_cell rfl rfl rfl (hI.set _).ca ?_ rfl
    refine fin _ ⟨_, rfl, ?_⟩
    unfold i2d puts
    rw [if_neg hx0, dgR_length _ _ _ hmp]
    simp
  · have hx0 : x = 0 := by simpa using hb
    walk_at "go"
    refine WE_cell rfl rfl rfl hI.ca ?_ rfl
    refine fin _ ⟨[], ?_, by simp [i2d, hx0]⟩
    have : mlen nn x = 0 := by
      subst hx0
      unfold mlen
      show (0 + nn - 1) / nn = 0
      rw [Nat.zero_add]
      exact Nat.div_eq_of_lt (by (first | lia | omega))
    have q := hI.dd
    rw [this] at q
    exact (set_self q).symm
end

/-! ## _digits2int -/


noncomputable def st2 : Stmt := k_digits2int.body[0]?.getD (.Pass default)
noncomputable def q2 : Str := Str.ofString "_digits2int.<locals>.inner"
noncomputable def kin2 (L c' : Addr) : FnI := fnOf q2 (paramsOf st2) (bodyOf st2) (scopeOf st2) [("n", L + 2), ("inner", L + 3), ("digits", L + 1)] c'
noncomputable def T2 : PO := .tab (some (posOf st2, q2))
section
variable {C : Cx} {n : Nat} {σ : St}
structure In2 (σ : St) (L c' d : Addr) (ds : List Int) : Prop where
  cd : σ (L + 1) = some (.cell (some (.ref d)))
  cn : σ (L + 2) = some (.cell (some (.int 6)))
  ci : σ (L + 3) = some (.cell (some (.fn (kin2 L c'))))
  dd : σ d = some (.list (iL ds))
  sm : ds.length ≤ 8
  rg : ∀ x ∈ ds, 0 ≤ x ∧ x < 64
theorem pow_le_64 {a b : Nat} (h : a ≤ b) : (64 : Int) ^ a ≤ 64 ^ b := by
  have := Nat.pow_le_pow_right (n := 64) (by decide) h
  exact_mod_cast this
theorem pow64 (k : Nat) : (2 : Int) ^ (6 * k) = 64 ^ k := by rw [Int.pow_mul]; rfl
set_option maxHeartbeats 4000000 in
theorem inner2_call (S : Stat C) {L c' d : Addr} : ∀ (m : Nat) {σ : St} {ds : List Int} {l : Nat} {Q : PV → St → Prop}, In2 σ L c' d ds → 1 ≤ m → l + m ≤ ds.length →
    Q (.int (V64 ((ds.drop l).take m))) σ → WCall C (m + 1) (.fn (kin2 L c')) [.int l, .int ((l + m : Nat) : Int)] σ Q := by
  intro m
  induction m using Nat.strongRecOn with
  | ind m ih =>
    intro σ ds l Q hI hm hlm hq
    have hz := hI.sm
    refine WCall_fn S.nolim (binds2 (x := "L") (y := "R") rfl ?_ rfl rfl) (by show ∀ x ∈ (scopeOf st2).names, x.2 ≠ .cell; decide) rfl rfl rfl ?_
    · intro fd u v h1 h2 h3
      obtain ⟨⟩ := fd
      cases h1; cases h2; cases h3
      rfl
    intro L' a'
    refine WSs_cons ?_
    walk_at "go"
    refine ⟨fun hb => ?_, fun hb => ?_⟩
    · have hm1 : m = 1 := by
        have : (l : Int) + 1 = ((l + m : Nat) : Int) := by simpa using hb
        omega
      subst hm1
      walk_at "go"
      refine WE_free rfl rfl rfl hI.cd ?_ rfl rfl
      walk_at "go"
      refine WSub_list (v := .int (ds.getD l 0)) (fun _ _ => rfl) hI.dd (by omega) (by omega) (by rw [Int.toNat_natCast]; exact map_get (mk := PV.int) ds (by omega) 0) ?_
      have : (ds.drop l).take 1 = [ds.getD l 0] := by
        rw [List.drop_eq_getElem_cons (show l < ds.length by omega), List.take_succ_cons, List.take_zero]; simp [List.getD_eq_getElem?_getD, show l < ds.length by omega]
      rw [this] at hq
      have e9 : V64 [ds.getD l 0] = ds.getD l 0 := by simp [V64]
      rw [e9] at hq
      exact hq
    · have hm2 : 2 ≤ m := by
        have : ¬ (l : Int) + 1 = ((l + m : Nat) : Int) := by simpa using hb
        omega
      have e1 : ((l : Int) + ((l + m : Nat) : Int)).fdiv (2 ^ (1 : Int).toNat) = ((l + m / 2 : Nat) : Int) := by
        rw [Int.fdiv_eq_ediv_of_nonneg _ (by decide)]
        show ((l : Int) + ((l + m : Nat) : Int)) / 2 = _
        omega
      have e2 : (((l + m / 2 : Nat) : Int) - (l : Int)) * 6 = ((6 * (m / 2) : Nat) : Int) := by omega
      walk_at "go"
      refine WBin_shr (by decide) ?_
      rw [e1]
      walk_at "go"
      refine WE_free rfl rfl rfl hI.cn ?_ rfl rfl
      refine WBin_mul (IntMulOk.of_right (by decide)) ?_
      rw [e2]
      walk_at "go"
      refine WE_Call rfl rfl rfl (WE_free rfl rfl rfl hI.ci ⟨.inl ⟨_, rfl⟩, ?_⟩ rfl rfl)
      walk_at "go"
      have e3 : ((l + m : Nat) : Int) = (((l + m / 2) + (m - m / 2) : Nat) : Int) := by omega
      rw [e3]
      refine (ih (m - m / 2) (by omega) hI (by omega) (by omega) ?_).up (by omega)
      walk_at "go"
      have bnd := V64_bound ((ds.drop (l + m / 2)).take (m - m / 2)) (fun x hx => hI.rg x (List.mem_of_mem_drop (List.mem_of_mem_take hx)))
      have bl : ((ds.drop (l + m / 2)).take (m - m / 2)).length ≤ 8 := by simp; omega
      have b8 : (64 : Int) ^ ((ds.drop (l + m / 2)).take (m - m / 2)).length ≤ 64 ^ 8 := pow_le_64 bl
      refine WBin_shl (by omega) (by omega) (by omega) ?_
      rw [Int.toNat_natCast, pow64]
      refine WE_Call rfl rfl rfl (WE_free rfl rfl rfl hI.ci ⟨.inl ⟨_, rfl⟩, ?_⟩ rfl rfl)
      walk_at "go"
      refine (ih (m / 2) (by omega) hI (by omega) (by omega) ?_).up (by omega)
      walk_at "go"
      have split : (ds.drop l).take m = (ds.drop l).take (m / 2) ++ (ds.drop (l + m / 2)).take (m - m / 2) := by
        have : m = m / 2 + (m - m / 2) := by omega
        conv => lhs; rw [this, List.take_add, List.drop_drop]
      rw [split, V64_append] at hq
      have hl2 : ((ds.drop l).take (m / 2)).length = m / 2 := by simp; omega
      rw [hl2] at hq
      rw [Int.add_comm, Int.mul_comm]
      exact hq
set_option maxHeartbeats 4000000 in
theorem digits2int_call (S : Stat C) {d : Addr} {ds : List Int} (hd : σ d = some (.list (iL ds))) (hsm : ds.length ≤ 8) (hrg : ∀ x ∈ ds, 0 ≤ x ∧ x < 64) {e : Option (Pos × Str)} {Q : PV → St → Prop} (hT : σ 30 = some (.tab e)) (he : tabIs e (posOf st2) q2)
    (hq : Q (.int (V64 ds)) (σ.set 30 T2)) : WCall C (n + 12) (.fn k_digits2int) [.ref d, .int 6] σ Q := by
  refine WCall.less ?_
  refine WCall_fn3 (x1 := "digits") (x2 := "n") (x3 := "inner") (ρ' := []) (i1 := some (.ref d)) (i2 := some (.int 6)) (i3 := none) S.nolim rfl (fun _ => rfl) rfl rfl rfl ?_ rfl rfl rfl ?_
  · intro F vs _ hv
    cases hv with
    | cons r hv =>
      cases hv with
      | cons r2 hv =>
        cases hv
        rename_i v w
        refine ⟨[("digits", v), ("n", w)], ?_, ?_, ?_, ?_, ?_, ?_⟩
        · intro fd hf
          have h1 := hf.params; have h2 := hf.dflt; have h3 := hf.kwd
          obtain ⟨⟩ := fd
          cases h1; cases h2; cases h3
          rfl
        · intro y hy
          simp at hy
          rcases hy with rfl | rfl
          · exact .inr ⟨rfl, .inl rfl⟩
          · exact .inr ⟨rfl, .inr (.inl rfl)⟩
        · intro y u hy; cases hy
        · exact ⟨v, rfl, r⟩
        · exact ⟨w, rfl, r2⟩
        · rfl
  intro L a f1 f2 f3
  have h23 : ∀ j : Nat, 0 < j → σ (L + j) = none → (30 : Addr) ≠ L + j := fun j _ hj z => by rw [← z, hT] at hj; cases hj
  have n1 := h23 1 (by decide) f1
  have n2 := h23 2 (by decide) f2
  have n3 := h23 3 (by decide) f3
  generalize hs1 : st3 σ L (some (.ref d)) (some (.int 6)) none = σ1 at *
  have n12 : L + 1 ≠ L + 2 := Nat.ne_of_lt (Nat.add_lt_add_left (by decide) _)
  have n13 : L + 1 ≠ L + 3 := Nat.ne_of_lt (Nat.add_lt_add_left (by decide) _)
  have n23 : L + 2 ≠ L + 3 := Nat.ne_of_lt (Nat.add_lt_add_left (by decide) _)
  have gd : σ1 (L + 1) = some (.cell (some (.ref d))) := by
    rw [← hs1]; unfold st3
    rw [St.set_ne n13, St.set_ne n12, St.set_same]
  have gn : σ1 (L + 2) = some (.cell (some (.int 6))) := by
    rw [← hs1]; unfold st3
    rw [St.set_ne n23, St.set_same]
  have gi : σ1 (L + 3) = some (.cell none) := by rw [← hs1]; unfold st3; rw [St.set_same]
  have gk : ∀ b p, σ b = some p → σ1 b = some p := by
    intro b p hb
    rw [← hs1]; unfold st3
    have z3 : b ≠ L + 3 := fun z => by rw [z, f3] at hb; cases hb
    have z2 : b ≠ L + 2 := fun z => by rw [z, f2] at hb; cases hb
    have z1 : b ≠ L + 1 := fun z => by rw [z, f1] at hb; cases hb
    rw [St.set_ne z3, St.set_ne z2, St.set_ne z1]
    exact hb
  have gT := gk _ _ hT
  refine WSs_cons ?_
  refine WS_Def (c := 34) (P := 30) (clos := [("n", L + 2), ("inner", L + 3), ("digits", L + 1)]) (e := e) rfl rfl rfl rfl rfl rfl S.nest2 gT he fun c' => ?_
  refine WStore_cell (c := L + 3) (v₀ := none) rfl rfl rfl (by rw [St.set_ne (Ne.symm n3)]; exact gi) ?_
  show WSs C (n + 11) (mkEnv k_digits2int L a _) _ _ ((σ1.set 30 T2).set (L + 3) (.cell (some (.fn (kin2 L c'))))) _
  generalize hs3 : (σ1.set 30 T2).set (L + 3) (.cell (some (.fn (kin2 L c')))) = σ3
  have g3 : ∀ b p, σ1 b = some p → b ≠ L + 3 → b ≠ 30 → σ3 b = some p := by
    intro b p hb h1 h2
    rw [← hs3, St.set_ne h1, St.set_ne h2]; exact hb
  have hd3 : d ≠ L + 3 := fun z => by rw [z, f3] at hd; cases hd
  have hd30 : d ≠ 30 := fun z => by rw [z, hT] at hd; cases hd
  have hI : In2 σ3 L c' d ds := {
    cd := g3 _ _ gd n13 (Ne.symm n1)
    cn := g3 _ _ gn n23 (Ne.symm n2)
    ci := by rw [← hs3, St.set_same]
    dd := g3 _ _ (gk _ _ hd) hd3 hd30
    sm := hsm
    rg := hrg }
  have fin : ∃ σ₀, SubS σ₀ σ3 ∧ Q (.int (V64 ds)) σ₀ := by
    refine ⟨_, ?_, hq⟩
    intro b p hb
    by_cases b2 : b = 30
    · subst b2
      rw [St.set_same] at hb
      rw [← hs3, St.set_ne n3, St.set_same]; exact hb
    · rw [St.set_ne b2] at hb
      have z3 : b ≠ L + 3 := fun z => by rw [z, f3] at hb; cases hb
      exact g3 _ _ (gk _ _ hb) z3 b2
  walk_at "go"
  refine WT_val (fun _ => rfl) ?_
  refine WE_cell rfl rfl rfl hI.cd ?_ rfl
  refine WTru_list hI.dd (by simp; omega) ⟨fun hb => ?_, fun hb => ?_⟩
  · have hl : 1 ≤ ds.length := by
      cases ds with
      | nil => simp at hb
      | cons x l => simp
    refine WE_Call rfl rfl rfl (WE_cell rfl rfl rfl hI.ci ⟨.inl ⟨_, rfl⟩, ?_⟩ rfl)
    walk_at "go"
    refine WE_cell rfl rfl rfl hI.cd ?_ rfl
    walk_at "go"
    refine WCall_len hI.dd (by simp; omega) ?_
    walk_at "go"
    have e5 : ((iL ds).length : Int) = ((0 + ds.length : Nat) : Int) := by simp
    rw [e5]
    refine WCall.up (n := ds.length + 1) (by omega) (inner2_call S ds.length (l := 0) hI hl (by simp) ?_)
    have e6 : (List.drop 0 ds).take ds.length = ds := by simp
    rw [e6]
    exact fin
  · have hl : ds = [] := by
      cases ds with
      | nil => rfl
      | cons x l => simp at hb
    subst hl
    walk_at "go"
    exact fin
end

/-! ## base64 -/


noncomputable def sym (i : Int) : Int := ((b64tab.toList.getD i.toNat 0).toNat : Int)
theorem sym_range (i : Int) : 0 ≤ sym i ∧ sym i < 256 := by
  unfold sym
  have := (b64tab.toList.getD i.toNat 0).toNat_lt
  (first | lia | omega)
noncomputable def wl (lc : Int) (out : List Int) (lb : Nat) : List Int × Nat :=
  if _h : 6 ≤ lb then wl lc (out ++ [sym (Builtin.bitAnd (lc.fdiv (2 ^ (lb - 6))) 63)]) (lb - 6) else (out, lb)
termination_by lb
theorem wl_lb (lc : Int) : ∀ (lb : Nat) (out : List Int), (wl lc out lb).2 = lb % 6 := by
  intro lb
  induction lb using Nat.strongRecOn with
  | ind lb ih =>
    intro out
    rw [wl]
    split
    · rw [ih _ (by (first | lia | omega))]; (first | lia | omega)
    · show lb = lb % 6; (first | lia | omega)
theorem wl_range (lc : Int) : ∀ (lb : Nat) (out : List Int), (∀ x ∈ out, 0 ≤ x ∧ x < 256) → ∀ x ∈ (wl lc out lb).1, 0 ≤ x ∧ x < 256 := by
  intro lb
  induction lb using Nat.strongRecOn with
  | ind lb ih =>
    intro out ho
    rw [wl]
    split
    · refine ih _ (by (first | lia | omega)) _ ?_
      intro x hx
      rcases List.mem_append.mp hx with h | h
      · exact ho x h
      · rw [List.mem_singleton.mp h]; exact sym_range _
    · exact ho
theorem wl_length (lc : Int) : ∀ (lb : Nat) (out : List Int), (wl lc out lb).1.length ≤ out.length + lb := by
  intro lb
  induction lb using Nat.strongRecOn with
  | ind lb ih =>
    intro out
    rw [wl]
    split
    · refine Nat.le_trans (ih _ (by (first | lia | omega)) _) ?_
      simp; (first | lia | omega)
    · show out.length ≤ _; (first | lia | omega)
noncomputable def bstep (st : List Int × Nat × Int) (b : Int) : List Int × Nat × Int :=
  let lc := Builtin.bitAnd (Builtin.bitOr (st.2.2 * 2 ^ 8) b) 65535
  ((wl lc st.1 (st.2.1 + 8)).1, (wl lc st.1 (st.2.1 + 8)).2, lc)
noncomputable def bAll (bs : List Int) : List Int × Nat × Int := bs.foldl bstep ([], 0, 0)
section
variable {C : Cx} {n : Nat} {σ : St}
set_option maxHeartbeats 4000000 in
theorem buffer_call (S : Stat C) {b : Array UInt8} {Q : PV → St → Prop} (hq : Q (.bytes b) σ) : WCall C (n + 1) (.fn k_buffer) [.bytes b] σ Q := by
  refine WCall_fn S.nolim (binds1 (x := "data") ?_ rfl) (by decide) rfl rfl rfl ?_
  · intro fd u h1 h2 h3
    obtain ⟨⟩ := fd
    cases h1; cases h2; cases h3
    rfl
  intro L a
  refine WSs_cons ?_
  walk_at "go"
  refine WCall_typeB ?_
  walk_at "go"
  refine WCmp_isT ?_
  walk_at "go"
  refine ⟨fun _ => ?_, fun h => absurd h (by decide)⟩
  walk_at "go"
  exact hq
set_option maxHeartbeats 4000000 in
theorem truth_call (S : Stat C) {b : Bool} {Q : PV → St → Prop} (hq : Q (.bool b) σ) : WCall C (n + 1) (.fn k_truth) [.bool b] σ Q := by
  refine WCall_fn S.nolim (binds1 (x := "x") ?_ rfl) (by decide) rfl rfl rfl ?_
  · intro fd u h1 h2 h3
    obtain ⟨⟩ := fd
    cases h1; cases h2; cases h3
    rfl
  intro L a
  refine WSs_cons ?_
  walk_at "go"
  refine WCall_typeBool ?_
  walk_at "go"
  refine WCmp_isNoneBool ?_
  walk_at "go"
  refine ⟨fun h => (nomatch h), fun _ => ?_⟩
  walk_at "go"
  refine WCmp_isT ?_
  walk_at "go"
  refine ⟨fun _ => ⟨fun _ => ?_, fun h => (nomatch h)⟩, fun h => absurd h (by decide)⟩
  walk_at "go"
  refine WT_val (fun _ => rfl) ?_
  walk_at "go"
  refine ⟨fun hb => ?_, fun hb => ?_⟩
  · walk_at "go"
    rw [hb] at hq; exact hq
  · walk_at "go"
    rw [hb] at hq; exact hq
noncomputable abbrev bρ (o : Addr) (lb : Nat) (lc : Int) : Loc := [(Str.ofString "newline", PV.bool false), (Str.ofString "out", PV.ref o), (Str.ofString "leftbits", PV.int lb), (Str.ofString "leftchar", PV.int lc)]
theorem bitAnd65535_lt (x : Int) : 0 ≤ Builtin.bitAnd x 65535 ∧ Builtin.bitAnd x 65535 ≤ 65535 := bitAnd_range x (by decide)
noncomputable def bInts (b : Array UInt8) : List Int := b.toList.map fun c => (c.toNat : Int)
theorem bAll_lc (bs : List Int) (st : List Int × Nat × Int) (h : 0 ≤ st.2.2 ∧ st.2.2 ≤ 65535) : 0 ≤ (bs.foldl bstep st).2.2 ∧ (bs.foldl bstep st).2.2 ≤ 65535 := by
  induction bs generalizing st with
  | nil => exact h
  | cons b bs ih => exact ih _ (bitAnd65535_lt _)
theorem bAll_lb (bs : List Int) (st : List Int × Nat × Int) (h : st.2.1 < 6) : (bs.foldl bstep st).2.1 < 6 := by
  induction bs generalizing st with
  | nil => exact h
  | cons b bs ih =>
    refine ih _ ?_
    show (wl _ _ _).2 < 6
    rw [wl_lb]; (first | lia | omega)
theorem bAll_len (bs : List Int) (st : List Int × Nat × Int) (h : st.2.1 < 6) : (bs.foldl bstep st).1.length ≤ st.1.length + 14 * bs.length := by
  induction bs generalizing st with
  | nil => simp
  | cons b bs ih =>
    have h2 : (bstep st b).2.1 < 6 := by show (wl _ _ _).2 < 6; rw [wl_lb]; (first | lia | omega)
    refine Nat.le_trans (ih _ h2) ?_
    have : (bstep st b).1.length ≤ st.1.length + (st.2.1 + 8) := wl_length ..
    simp; (first | lia | omega)
theorem bAll_range (bs : List Int) (st : List Int × Nat × Int) (h : ∀ x ∈ st.1, 0 ≤ x ∧ x < 256) : ∀ x ∈ (bs.foldl bstep st).1, 0 ≤ x ∧ x < 256 := by
  induction bs generalizing st with
  | nil => exact h
  | cons b bs ih => exact ih _ (wl_range _ _ _ h)
set_option maxHeartbeats 4000000 in
theorem b2a_call (S : Stat C) {d : Array UInt8} {Q : PV → St → Prop} (hz : d.size ≤ 1000) (hlb : (bAll (bInts d)).2.1 = 0) (hq : Q (.bytes (byteArr (bAll (bInts d)).1)) σ) : WCallK C (n + 2) (.fn k_b2a) [.bytes d] ["newline"] [.bool false] σ Q := by
  have main : WCallK C (n + 2) (.fn k_b2a) [.bytes d] ["newline"] [.bool false] σ (fun v σ' => ∃ σ₀, SubS σ₀ σ' ∧ Q v σ₀) := by
    refine WCallK_fn (ρ' := [("data", .bytes d), ("newline", .bool false)]) S.nolim ?_ (by decide) rfl rfl rfl ?_
    · intro F vs kvs _ hv hk
      cases hv with
      | cons r hv =>
        cases hv
        cases hk with
        | cons r2 hk =>
          cases hk
          rename_i v w
          refine ⟨[("data", v), ("newline", w)], fun s fd hf _ => .of_eq ?_, ?_, ?_⟩
          · have h1 := hf.params; have h2 := hf.dflt; have h3 := hf.kwd
            obtain ⟨⟩ := fd
            cases h1; cases h2; cases h3
            rfl
          · intro z hz; simp at hz; rcases hz with rfl | rfl
            · rfl
            · rfl
          · intro z u e
            simp only [List.lookup_cons] at e
            by_cases q1 : z = "data"
            · subst q1
              simp at e; subst e
              exact ⟨v, rfl, r⟩
            · have b1 : (z == ("data" : Str)) = false := by simpa using q1
              rw [b1] at e
              by_cases q2 : z = "newline"
              · subst q2
                simp at e; subst e
                exact ⟨w, rfl, r2⟩
              · have b2 : (z == ("newline" : Str)) = false := by simpa using q2
                rw [b2] at e; cases e
    intro L a
    refine WSs_cons ?_
    walk_at "go"
    refine buffer_call S ?_
    walk_at "go"
    refine truth_call S ?_
    walk_at "go"
    refine WE_List ?_
    walk_at "go"
    refine ⟨by simp, fun o ho => ?_⟩
    walk_at "go"
    refine WS_cut (bρ o 0 (bAll (bInts d)).2.2) (σ.set o (.list (iL (bAll (bInts d)).1))) ?_ ?_
    · refine WS_For (fun i ρ σ' => ρ = bρ o (bAll ((bInts d).take i)).2.1 (bAll ((bInts d).take i)).2.2 ∧ σ' = σ.set o (.list (iL (bAll ((bInts d).take i)).1))) (bρ o 0 0)
        (fun _ => rfl) (fun _ _ => rfl) (bytesOk C d) ⟨rfl, rfl, rfl, rfl, trivial⟩ ?_ ?_ ?_
      · refine WIt_of (side := fun _ => True) ?_
        walk_at "go"
        exact ⟨bytesMk C d, trivial, rfl, rfl⟩
      · rintro i p ρ σ' hp ⟨rfl, rfl⟩
        unfold bytesItems at hp
        rw [List.getElem?_map] at hp
        cases hi : d.toList[i]? with
        | none => rw [hi] at hp; cases hp
        | some c =>
          rw [hi] at hp; cases hp
          have hil : i < d.size := by have := (List.getElem?_eq_some_iff.mp hi).1; simpa using this
          have hnx : bAll ((bInts d).take (i + 1)) = bstep (bAll ((bInts d).take i)) (c.toNat : Int) := by
            have : (bInts d).take (i + 1) = (bInts d).take i ++ [(c.toNat : Int)] := by
              rw [List.take_add_one]
              unfold bInts
              rw [List.getElem?_map, hi]; rfl
            rw [this]; unfold bAll; rw [List.foldl_append]; rfl
          have hlc := bAll_lc ((bInts d).take i) ([], 0, 0) (by simp)
          have hb6 := bAll_lb ((bInts d).take i) ([], 0, 0) (by simp)
          have hln := bAll_len ((bInts d).take i) ([], 0, 0) (by simp)
          have hln' : ((bInts d).take i).length ≤ 1000 := by unfold bInts; simp; (first | lia | omega)
          change 0 ≤ (bAll ((bInts d).take i)).2.2 ∧ (bAll ((bInts d).take i)).2.2 ≤ 65535 at hlc
          change (bAll ((bInts d).take i)).2.1 < 6 at hb6
          change (bAll ((bInts d).take i)).1.length ≤ 0 + 14 * ((bInts d).take i).length at hln
          rw [hnx]
          generalize bAll ((bInts d).take i) = st at *
          refine ⟨trivial, ?_⟩
          walk_at "go"
          refine WBin_shl (by decide) (by decide) (by (first | lia | omega)) ?_
          walk_at "go"
          have e8 : ((st.2.1 : Int) + 8) = ((st.2.1 + 8 : Nat) : Int) := by (first | lia | omega)
          rw [e8]
          have hlc2 := bitAnd65535_lt (Builtin.bitOr (st.2.2 * 2 ^ (8 : Int).toNat) (c.toNat : Int))
          have hbs : bstep st (c.toNat : Int) = ((wl (Builtin.bitAnd (Builtin.bitOr (st.2.2 * 2 ^ (8 : Int).toNat) (c.toNat : Int)) 65535) st.1 (st.2.1 + 8)).1, (wl (Builtin.bitAnd (Builtin.bitOr (st.2.2 * 2 ^ (8 : Int).toNat) (c.toNat : Int)) 65535) st.1 (st.2.1 + 8)).2, (Builtin.bitAnd (Builtin.bitOr (st.2.2 * 2 ^ (8 : Int).toNat) (c.toNat : Int)) 65535)) := rfl
          rw [hbs]
          generalize Builtin.bitAnd (Builtin.bitOr (st.2.2 * 2 ^ (8 : Int).toNat) (c.toNat : Int)) 65535 = lc at *
          have hwl := wl_length lc (st.2.1 + 8) st.1
          refine WS_While (fun k ρ σ' => ∃ out lb, ρ = bρ o lb lc ∧ lb = k ∧ out.length + lb ≤ 100000 ∧ σ' = σ.set o (.list (iL out)) ∧ wl lc out lb = wl lc st.1 (st.2.1 + 8)) (bρ o (st.2.1 + 8) lc) ?_ (st.2.1 + 8) ⟨rfl, rfl, rfl, rfl, trivial⟩
            ⟨st.1, st.2.1 + 8, rfl, rfl, by (first | lia | omega), rfl, rfl⟩
          rintro k ρ σ' ⟨out, lb, rfl, rfl, hob, rfl, hwe⟩
          walk_at "go"
          refine ⟨fun hb => ?_, fun hb => ?_⟩
          · have hb' : 6 ≤ lb := by have := of_decide_eq_true hb; (first | lia | omega)
            walk_at "go"
            refine WE_lmeth1 PySem.F.slot_list_append PySem.F.type_list_append rfl rfl rfl ?_
            walk_at "go"
            refine ⟨o, _, rfl, St.set_same .., ?_⟩
            walk_at "go"
            have e6 : ((lb : Int) - 6) = ((lb - 6 : Nat) : Int) := by (first | lia | omega)
            rw [e6]
            refine WBin_shr (by (first | lia | omega)) ?_
            rw [Int.toNat_natCast]
            walk_at "go"
            have hr := bitAnd_range (lc.fdiv (2 ^ (lb - 6))) (y := 63) (by decide)
            refine WSub_bytes (fun _ _ => rfl) (by decide) hr.1 (by have := hr.2; show _ < (64 : Int); (first | lia | omega)) ?_
            refine WCall_append (xs := iL out) (St.set_same ..) (by simp; (first | lia | omega)) ⟨rfl, ?_⟩
            walk_at "go"
            rw [set_set, e6]
            refine ⟨lb - 6, bρ o (lb - 6) lc, _, by (first | lia | omega), ⟨rfl, rfl, rfl, rfl, trivial⟩, .refl _, out ++ [sym (Builtin.bitAnd (lc.fdiv (2 ^ (lb - 6))) 63)], lb - 6, rfl, rfl, by simp; (first | lia | omega), ?_, ?_⟩
            · simp [iL, sym]
            · rw [← hwe]
              conv => rhs; rw [wl, dif_pos hb']
          · have hb' : ¬ 6 ≤ lb := by have := of_decide_eq_false hb; (first | lia | omega)
            rw [wl, dif_neg hb'] at hwe
            rw [← hwe]
            walk_at "go"
            exact ⟨bρ o lb lc, _, ⟨rfl, rfl, rfl, rfl, trivial⟩, .refl _, rfl, rfl⟩
      · rintro ρ σ' ⟨rfl, rfl⟩
        have hall : (bInts d).take (bytesItems d).length = bInts d := by
          unfold bytesItems bInts; rw [List.take_of_length_le (by simp)]
        rw [hall, hlb]
        exact ⟨trivial, rfl, ⟨rfl, rfl, rfl, rfl, trivial⟩, .refl _⟩
    · walk_at "go"
      refine ⟨fun hb => absurd hb (by decide), fun _ => ?_⟩
      walk_at "go"
      refine ⟨fun hb => absurd hb (by decide), fun _ => ?_⟩
      walk_at "go"
      refine WT_val (fun _ => rfl) ?_
      walk_at "go"
      refine ⟨fun hb => (nomatch hb), fun _ => ?_⟩
      walk_at "go"
      have hln := bAll_len (bInts d) ([], 0, 0) (by simp)
      refine WCall_bytesL (St.set_same ..) (bAll_range (bInts d) ([], 0, 0) (by simp)) ?_ ?_
      · refine Nat.le_trans hln ?_
        unfold bInts; simp; (first | lia | omega)
      · refine ⟨σ, ?_, hq⟩
        intro b p hb
        rw [St.set_ne fun z => by rw [z, ho] at hb; cases hb]; exact hb
  intro F L ρ f' args' kvs hB a b c
  exact ((main F L ρ f' args' kvs hB a b c).mono fun _ _ _ q => let ⟨σ₀, a, b⟩ := q.2; ⟨σ₀, a, q.1, b⟩).less
set_option maxHeartbeats 4000000 in
theorem b64_call (S : Stat C) {d : Array UInt8} {Q : PV → St → Prop} (hz : d.size ≤ 1000) (hlb : (bAll (bInts d)).2.1 = 0) (hq : Q (.bytes (byteArr (bAll (bInts d)).1)) σ) : WCall C (n + 3) (.fn k_b64) [.bytes d] σ Q := by
  refine WCall_fn (ρ' := [("s", .bytes d), ("altchars", .none)]) S.nolim ?_ (by decide) rfl rfl rfl ?_
  · intro F vs hB hv
    cases hv with
    | cons r hv =>
      cases hv
      rename_i v
      refine ⟨[("s", v), ("altchars", .none)], fun s fd hf hs => ?_, ?_, ?_⟩
      · obtain ⟨o, m, ho, hd⟩ := S.dflt
        have h1 := hf.params; have h2 := hf.dflt; have h3 := hf.kwd
        obtain ⟨⟩ := fd
        cases h1; cases h2; cases h3
        exact .of_defaults (T := 93) rfl (hs _ _ (hB _ _ ho)) hd rfl rfl
      · intro z hz; simp at hz; rcases hz with rfl | rfl
        · rfl
        · rfl
      · intro z u e
        simp only [List.lookup_cons] at e
        by_cases q1 : z = "s"
        · subst q1
          simp at e; subst e
          exact ⟨v, rfl, r⟩
        · have b1 : (z == ("s" : Str)) = false := by simpa using q1
          rw [b1] at e
          by_cases q2 : z = "altchars"
          · subst q2
            simp at e; subst e
            exact ⟨.none, rfl, rfl⟩
          · have b2 : (z == ("altchars" : Str)) = false := by simpa using q2
            rw [b2] at e; cases e
  intro L a
  refine WSs_cons ?_
  walk_at "go"
  refine WE_CallK1 rfl rfl ?_
  refine WE_glob S rfl ?_ rfl rfl rfl rfl rfl
  refine ⟨_, rfl, ?_⟩
  walk_at "go"
  refine b2a_call S hz hlb ?_
  walk_at "go"
  refine WCmp_isNotNone ?_
  walk_at "go"
  refine ⟨fun h => (nomatch h), fun _ => ?_⟩
  walk_at "go"
  exact hq
end

/-! ## the law's own helpers -/


noncomputable def figs (x : Int) : List Int := [25 * x.fmod 3, 61 * (x.fdiv 3).fmod 2, 37 * (x.fdiv 6).fmod 2, 63 * (x.fdiv 12).fmod 2]
noncomputable def sgn (f : Int) : Int := if f < 26 then 65 + f else if f < 52 then 71 + f else if f < 62 then f - 4 else if f = 62 then 43 else 47
section
variable {C : Cx} {n : Nat} {σ : St}
set_option maxHeartbeats 4000000 in
theorem figures_call (S : Stat C) {x : Int} {Q : PV → St → Prop} (hq : ∀ b, σ b = none → Q (.ref b) (σ.set b (.list (iL (figs x))))) : WCall C (n + 1) (.fn k_figures) [.int x] σ Q := by
  refine WCall_fn S.nolim (binds1 (x := "x") ?_ rfl) (by decide) rfl rfl rfl ?_
  · intro fd u h1 h2 h3
    obtain ⟨⟩ := fd
    cases h1; cases h2; cases h3
    rfl
  intro L a
  refine WSs_cons ?_
  walk_at "go"
  refine WE_List ?_
  walk_at "go"
  refine WBin_mod (by decide) ?_
  refine WBin_mul (IntMulOk.of_left (by decide)) ?_
  walk_at "go"
  refine WBin_fdiv (by decide) (by decide) ?_
  walk_at "go"
  refine WBin_mod (by decide) ?_
  refine WBin_mul (IntMulOk.of_left (by decide)) ?_
  walk_at "go"
  refine WBin_fdiv (by decide) (by decide) ?_
  walk_at "go"
  refine WBin_mod (by decide) ?_
  refine WBin_mul (IntMulOk.of_left (by decide)) ?_
  walk_at "go"
  refine WBin_fdiv (by decide) (by decide) ?_
  walk_at "go"
  refine WBin_mod (by decide) ?_
  refine WBin_mul (IntMulOk.of_left (by decide)) ?_
  walk_at "go"
  exact ⟨by simp, fun b hb => hq b hb⟩
set_option maxHeartbeats 4000000 in
theorem sign_call (S : Stat C) {f : Int} {Q : PV → St → Prop} (hq : Q (.int (sgn f)) σ) : WCall C (n + 1) (.fn k_sign) [.int f] σ Q := by
  refine WCall_fn S.nolim (binds1 (x := "figure") ?_ rfl) (by decide) rfl rfl rfl ?_
  · intro fd u h1 h2 h3
    obtain ⟨⟩ := fd
    cases h1; cases h2; cases h3
    rfl
  intro L a
  unfold sgn at hq
  refine WSs_cons ?_
  walk_at "go"
  refine ⟨fun h => ?_, fun h => ?_⟩
  · rw [if_pos (of_decide_eq_true h)] at hq
    walk_at "go"
    exact hq
  rw [if_neg (of_decide_eq_false h)] at hq
  walk_at "go"
  refine ⟨fun h => ?_, fun h => ?_⟩
  · rw [if_pos (of_decide_eq_true h)] at hq
    walk_at "go"
    exact hq
  rw [if_neg (of_decide_eq_false h)] at hq
  walk_at "go"
  refine ⟨fun h => ?_, fun h => ?_⟩
  · rw [if_pos (of_decide_eq_true h)] at hq
    walk_at "go"
    exact hq
  rw [if_neg (of_decide_eq_false h)] at hq
  walk_at "go"
  refine ⟨fun h => ?_, fun h => ?_⟩
  · rw [if_pos (by simpa using h)] at hq
    walk_at "go"
    exact hq
  · rw [if_neg (by simpa using h)] at hq
    walk_at "go"
    exact hq
theorem bits25 {y : Nat} (h1 : 16777216 ≤ y) (h2 : y < 33554432) : Builtin.Int.intBits (y : Int) = 25 := by
  unfold Builtin.Int.intBits
  have h0 : y ≠ 0 := by (first | lia | omega)
  rw [if_neg (by simpa using h0)]
  show y.log2 + 1 = 25
  have a := (Nat.log2_lt h0 (k := 25)).mpr h2
  have b := (Nat.le_log2 h0 (k := 24)).mpr h1
  (first | lia | omega)
noncomputable def octs (w : Nat) : List Int := [(dgR 8 4 (w + 16777216)).getD 2 0, (dgR 8 4 (w + 16777216)).getD 1 0, (dgR 8 4 (w + 16777216)).getD 0 0]
set_option maxHeartbeats 4000000 in
theorem octets_call (S : Stat C) {w : Nat} (hw : w < 16777216) {e : Option (Pos × Str)} {Q : PV → St → Prop} (hT : σ 23 = some (.tab e)) (he : tabIs e (posOf st1) q1) (hq : ∀ b, σ b = none → Q (.ref b) ((σ.set 23 T1).set b (.list (iL (octs w))))) :
    WCall C (n + 13) (.fn k_octets) [.int w] σ Q := by
  refine WCall.less ?_
  refine WCall_fn S.nolim (binds1 (x := "worth") ?_ rfl) (by decide) rfl rfl rfl ?_
  · intro fd u h1 h2 h3
    obtain ⟨⟩ := fd
    cases h1; cases h2; cases h3
    rfl
  intro L a
  refine WSs_cons ?_
  walk_at "go"
  have e1 : (w : Int) + 16777216 = ((w + 16777216 : Nat) : Int) := by (first | lia | omega)
  rw [e1]
  have hml : mlen 8 (w + 16777216) = 4 := by unfold mlen; rw [bits25 (by (first | lia | omega)) (by (first | lia | omega))]
  have hi : i2d 8 (w + 16777216) = dgR 8 4 (w + 16777216) := by unfold i2d; rw [if_neg (by (first | lia | omega)), hml]
  refine int2digits_call (nn := 8) (x := w + 16777216) S (by decide) (by decide) (by (first | lia | omega)) (by rw [hml]; decide) hT he fun b hb => ?_
  rw [hi]
  have hl : (dgR 8 4 (w + 16777216)).length = 4 := dgR_length _ _ _ (by decide)
  generalize hg : dgR 8 4 (w + 16777216) = ds at *
  walk_at "go"
  refine WE_List ?_
  walk_at "go"
  refine WSub_list (v := .int (ds.getD 2 0)) (fun _ _ => rfl) (St.set_same ..) (by decide) (by decide) (map_get (mk := PV.int) ds (show 2 < ds.length by (first | lia | omega)) 0) ?_
  walk_at "go"
  refine WSub_list (v := .int (ds.getD 1 0)) (fun _ _ => rfl) (St.set_same ..) (by decide) (by decide) (map_get (mk := PV.int) ds (show 1 < ds.length by (first | lia | omega)) 0) ?_
  walk_at "go"
  refine WSub_list (v := .int (ds.getD 0 0)) (fun _ _ => rfl) (St.set_same ..) (by decide) (by decide) (map_get (mk := PV.int) ds (show 0 < ds.length by (first | lia | omega)) 0) ?_
  walk_at "go"
  refine ⟨by simp, fun c hc => ?_⟩
  have hcb : c ≠ b := fun z => by rw [z, St.set_same] at hc; cases hc
  have hc1 : (σ.set 23 T1) c = none := by rw [St.set_ne hcb] at hc; exact hc
  have hc2 : c ≠ 23 := fun z => by rw [z, St.set_same] at hc1; cases hc1
  have hc3 : σ c = none := by rw [St.set_ne hc2] at hc1; exact hc1
  have hq' := hq c hc3
  unfold octs at hq'
  rw [hg] at hq'
  refine ⟨_, ?_, hq'⟩
  intro d p hd
  by_cases d1 : d = c
  · subst d1; rw [St.set_same] at hd ⊢; exact hd
  · rw [St.set_ne d1] at hd ⊢
    have d2 : d ≠ b := fun z => by
      subst z
      by_cases z2 : d = 23
      · rw [z2, hT] at hb; cases hb
      · rw [St.set_ne z2, hb] at hd; cases hd
    rw [St.set_ne d2]; exact hd
/-- the length of the common front -/
noncomputable def cmn : List UInt8 → List UInt8 → Nat
  | a :: as, b :: bs => if a = b then cmn as bs + 1 else 0
  | _, _ => 0
theorem cmn_le : ∀ (a b : List UInt8), cmn a b ≤ a.length
  | [], _ => by simp [cmn]
  | _ :: _, [] => by simp [cmn]
  | x :: a, y :: b => by
    unfold cmn
    split
    · have := cmn_le a b; simp; (first | lia | omega)
    · simp
theorem getD_drop {l : List UInt8} {k : Nat} (h : k < l.length) : l.drop k = l.getD k 0 :: l.drop (k + 1) := by
  rw [List.drop_eq_getElem_cons h]; simp [List.getD_eq_getElem?_getD, h]
set_option maxHeartbeats 4000000 in
theorem common_call (S : Stat C) {a b : Array UInt8} (ha : a.size ≤ 1000) (hb : b.size ≤ 1000) {Q : PV → St → Prop} (hq : Q (.int (cmn a.toList b.toList)) σ) : WCall C (n + 1) (.fn k_common) [.bytes a, .bytes b] σ Q := by
  refine WCall_fn S.nolim (binds2 (x := "one") (y := "other") rfl ?_ rfl rfl) (by decide) rfl rfl rfl ?_
  · intro fd u v h1 h2 h3
    obtain ⟨⟩ := fd
    cases h1; cases h2; cases h3
    rfl
  intro L ad
  refine WSs_cons ?_
  walk_at "go"
  refine WS_While (fun m ρ σ' => ∃ k : Nat, ρ = [(Str.ofString "one", PV.bytes a), (Str.ofString "other", PV.bytes b), (Str.ofString "k", PV.int k)] ∧ σ' = σ ∧ k ≤ a.size ∧ m = a.size - k ∧ k + cmn (a.toList.drop k) (b.toList.drop k) = cmn a.toList b.toList)
    [(Str.ofString "one", PV.bytes a), (Str.ofString "other", PV.bytes b), (Str.ofString "k", PV.int 0)] ?_ a.size ⟨rfl, rfl, rfl, trivial⟩ ⟨0, rfl, rfl, Nat.zero_le _, by simp, by simp⟩
  rintro m ρ σ' ⟨k, rfl, rfl, hk, rfl, hc⟩
  have fin : cmn (a.toList.drop k) (b.toList.drop k) = 0 → WSs C n (mkEnv k_common L ad k_common.closure) (k_common.body.drop 2) [(Str.ofString "one", PV.bytes a), (Str.ofString "other", PV.bytes b), (Str.ofString "k", PV.int k)] σ' (fun fl _ σ' => Q (retOf fl) σ') := by
    intro h0
    refine WSs_cons ?_
    walk_at "go"
    have : k = cmn a.toList b.toList := by (first | lia | omega)
    rw [this]; exact hq
  walk_at "go"
  refine WCall_lenB (by (first | lia | omega)) ?_
  walk_at "go"
  refine ⟨fun h1 => ?_, fun h1 => ⟨fun h => (nomatch h), fun _ => ?_⟩⟩
  · have h1' : k < a.size := by have := of_decide_eq_true h1; (first | lia | omega)
    walk_at "go"
    refine WCall_lenB (by (first | lia | omega)) ?_
    walk_at "go"
    refine ⟨fun h2 => ?_, fun h2 => ⟨fun h => (nomatch h), fun _ => ?_⟩⟩
    · have h2' : k < b.size := by have := of_decide_eq_true h2; (first | lia | omega)
      have da := getD_drop (l := a.toList) (k := k) (by simpa using h1')
      have db := getD_drop (l := b.toList) (k := k) (by simpa using h2')
      walk_at "go"
      refine WSub_bytes (fun _ _ => rfl) (by (first | lia | omega)) (by (first | lia | omega)) (by (first | lia | omega)) ?_
      walk_at "go"
      refine WSub_bytes (fun _ _ => rfl) (by (first | lia | omega)) (by (first | lia | omega)) (by (first | lia | omega)) ?_
      rw [Int.toNat_natCast]
      walk_at "go"
      rw [da, db, cmn] at hc fin
      refine ⟨fun h3 => WAll_And_nil ⟨fun _ => ?_, fun h => (nomatch h)⟩, fun h3 => ⟨fun h => (nomatch h), fun _ => ?_⟩⟩
      · have h3' : a.toList.getD k 0 = b.toList.getD k 0 := by
          have : ((a.toList.getD k 0).toNat : Int) = ((b.toList.getD k 0).toNat : Int) := by simpa using h3
          exact UInt8.toNat_inj.mp (by (first | lia | omega))
        walk_at "go"
        rw [if_pos h3'] at hc
        refine ⟨a.size - (k + 1), [(Str.ofString "one", PV.bytes a), (Str.ofString "other", PV.bytes b), (Str.ofString "k", PV.int (k + 1 : Nat))], _, by (first | lia | omega), ⟨rfl, rfl, rfl, trivial⟩, .refl _, k + 1, rfl, rfl, by (first | lia | omega), rfl, by (first | lia | omega)⟩
      · have h3' : ¬ a.toList.getD k 0 = b.toList.getD k 0 := by
          intro z; rw [z] at h3; simp at h3
        exact fin (by rw [if_neg h3'])
    · have h2' : ¬ k < b.size := by have := of_decide_eq_false h2; (first | lia | omega)
      refine fin ?_
      rw [List.drop_of_length_le (l := b.toList) (by simp; (first | lia | omega))]
      cases a.toList.drop k <;> rfl
  · have h1' : ¬ k < a.size := by have := of_decide_eq_false h1; (first | lia | omega)
    refine fin ?_
    rw [List.drop_of_length_le (l := a.toList) (by simp; (first | lia | omega))]
    rfl
end

/-! ## _law_net -/


noncomputable abbrev IP := Int × Int
noncomputable def ltP (p q : IP) : Bool := decide (p.1 < q.1 ∨ p.1 = q.1 ∧ p.2 < q.2)
noncomputable def mkP (p : IP) : PV := .pair p.1 p.2
noncomputable def pushOne (D : Nat → Nat → Int) (held : List Int) (k : Nat) (hp : List IP) (j : Nat) : List IP := if (j : Int) ∈ held then hp else hpush ltP hp (D (max j k) (min j k), (j : Int))
noncomputable def pushAll (D : Nat → Nat → Int) (held : List Int) (k N : Nat) (hp : List IP) : List IP := (List.range N).foldl (pushOne D held k) hp
theorem hpush_length {κ : Type} (lt : κ → κ → Bool) (ks : List κ) (x : κ) : (hpush lt ks x).length = ks.length + 1 := by
  unfold hpush; rw [sd_length]; simp
theorem pushOne_length (D : Nat → Nat → Int) (held : List Int) (k : Nat) (hp : List IP) (j : Nat) : (pushOne D held k hp j).length ≤ hp.length + 1 := by
  unfold pushOne; split
  · (first | lia | omega)
  · rw [hpush_length]; (first | lia | omega)
theorem pushAll_succ (D : Nat → Nat → Int) (held : List Int) (k N : Nat) (hp : List IP) : pushAll D held k (N + 1) hp = pushOne D held k (pushAll D held k N hp) N := by
  unfold pushAll; rw [List.range_succ, List.foldl_append]; rfl
theorem pushAll_length (D : Nat → Nat → Int) (held : List Int) (k : Nat) (hp : List IP) : ∀ N, (pushAll D held k N hp).length ≤ hp.length + N
  | 0 => Nat.le_refl _
  | N + 1 => by
    rw [pushAll_succ]
    have := pushOne_length D held k (pushAll D held k N hp) N
    have := pushAll_length D held k hp N
    (first | lia | omega)
theorem hpop_mem {κ : Type} (lt : κ → κ → Bool) (ks : List κ) (l : κ) : (hpop lt ks l).1 ∈ ks ++ [l] := by
  cases ks with
  | nil => simp [hpop]
  | cons k r => simp [hpop]
structure NetJ (J : List IP → List Int → Int → Prop) (D : Nat → Nat → Int) (N : Nat) (start : Int) (R : Int → Prop) : Prop where
  init : J [(0, start)] [] 0
  bnd : ∀ hp held tot, J hp held tot → hp.length ≤ 100000 ∧ held.length ≤ N ∧ ∀ p ∈ hp, 0 ≤ p.2 ∧ p.2 < N
  skip : ∀ ks l held tot, J (ks ++ [l]) held tot → (hpop ltP ks l).1.2 ∈ held → J (hpop ltP ks l).2 held tot
  take : ∀ ks l held tot, J (ks ++ [l]) held tot → (hpop ltP ks l).1.2 ∉ held → held.length < N ∧ J (pushAll D (held ++ [(hpop ltP ks l).1.2]) (hpop ltP ks l).1.2.toNat N (hpop ltP ks l).2) (held ++ [(hpop ltP ks l).1.2]) (tot + (hpop ltP ks l).1.1)
  fin : ∀ held tot, J [] held tot → R tot
section
variable {C : Cx} {n : Nat} {σ : St}
noncomputable abbrev nρ (fa h g : Addr) (tot : Int) : Loc := [(Str.ofString "far", PV.ref fa), (Str.ofString "heap", PV.ref h), (Str.ofString "held", PV.ref g), (Str.ofString "total", PV.int tot)]
noncomputable abbrev nρk (fa h g : Addr) (tot k : Int) : Loc := [(Str.ofString "far", PV.ref fa), (Str.ofString "heap", PV.ref h), (Str.ofString "held", PV.ref g), (Str.ofString "total", PV.int tot), (Str.ofString "k", PV.int k)]
noncomputable def nst (σ : St) (h g : Addr) (hp : List IP) (held : List Int) : St := (σ.set h (.list (hp.map mkP))).set g (.list (iL held))
set_option maxHeartbeats 8000000 in
theorem net_call (S : Stat C) {fa : Addr} {ras : List Addr} {rows : Nat → List Int} {N : Nat} {start : Int} {J : List IP → List Int → Int → Prop} {Q : PV → St → Prop}
    (hfa : σ fa = some (.list (ras.map PV.ref))) (hN : ras.length = N) (hNs : N ≤ 1000) (hrow : ∀ i, i < N → σ (ras.getD i 0) = some (.list (iL (rows i))) ∧ (rows i).length = i)
    (hJ : NetJ J (fun i j => (rows i).getD j 0) N start (fun t => Q (.int t) σ)) : WCall C (n + 4) (.fn k_net) [.ref fa, .int start] σ Q := by
  refine WCall.less ?_
  refine WCall_fn S.nolim (binds2 (x := "far") (y := "start") rfl ?_ rfl rfl) (by decide) rfl rfl rfl ?_
  · intro fd u v h1 h2 h3
    obtain ⟨⟩ := fd
    cases h1; cases h2; cases h3
    rfl
  have hlt : ∀ m x y σ Q, Q (.bool (ltP x y)) σ → WCmp C m .Lt (mkP x) (mkP y) σ Q := fun m x y σ Q q => WCmp_lt_pair q
  intro L ad
  refine WSs_cons ?_
  walk_at "go"
  refine WE_List ?_
  walk_at "go"
  refine WE_Pair ?_
  walk_at "go"
  refine ⟨0, start, rfl, ?_⟩
  walk_at "go"
  refine ⟨by simp, fun h hh => ?_⟩
  walk_at "go"
  refine WE_List ?_
  walk_at "go"
  refine ⟨by simp, fun g hg => ?_⟩
  have hgh : g ≠ h := fun z => by rw [z, St.set_same] at hg; cases hg
  have hgσ : σ g = none := by rw [St.set_ne hgh] at hg; exact hg
  walk_at "go"
  have gh : ∀ hp held, nst σ h g hp held h = some (.list (hp.map mkP)) := fun hp held => by unfold nst; rw [St.set_ne (Ne.symm hgh), St.set_same]
  have gg : ∀ hp held, nst σ h g hp held g = some (.list (iL held)) := fun hp held => by unfold nst; rw [St.set_same]
  have go : ∀ hp held b p, σ b = some p → nst σ h g hp held b = some p := fun hp held b p hb => by
    have z1 : b ≠ g := fun z => by rw [z, hgσ] at hb; cases hb
    have z2 : b ≠ h := fun z => by rw [z, hh] at hb; cases hb
    unfold nst; rw [St.set_ne z1, St.set_ne z2]; exact hb
  have sh : ∀ hp held hp', (nst σ h g hp held).set h (.list (hp'.map mkP)) = nst σ h g hp' held := fun hp held hp' => by
    funext b; unfold nst St.set
    by_cases b1 : b = h
    · subst b1; simp [Ne.symm hgh]
    · simp [b1]
  have sg : ∀ hp held held', (nst σ h g hp held).set g (.list (iL held')) = nst σ h g hp held' := fun hp held held' => by
    unfold nst; rw [set_set]
  have fin : ∀ hp held v, Q v σ → ∃ σ₀, SubS σ₀ (nst σ h g hp held) ∧ Q v σ₀ := fun hp held v q => ⟨σ, fun b p hb => go hp held b p hb, q⟩
  have start0 : ((σ.set h (.list [.pair 0 start])).set g (.list [])) = nst σ h g [(0, start)] [] := rfl
  rw [start0]
  refine WS_While (fun m ρ σ' => ∃ hp held tot, ρ = nρ fa h g tot ∧ σ' = nst σ h g hp held ∧ J hp held tot ∧ m = (N - held.length) * (N + 2) + hp.length) (nρ fa h g 0) ?_ ((N - 0) * (N + 2) + 1) ⟨rfl, rfl, rfl, rfl, trivial⟩
    ⟨[(0, start)], [], 0, rfl, rfl, hJ.init, rfl⟩
  rintro m ρ σ' ⟨hp, held, tot, rfl, rfl, hj, rfl⟩
  obtain ⟨hb1, hb2, hb3⟩ := hJ.bnd _ _ _ hj
  refine WT_val (fun _ => rfl) ?_
  walk_at "go"
  refine WTru_list (gh hp held) (by simp; (first | lia | omega)) ⟨fun hb => ?_, fun hb => ?_⟩
  · cases hr : hp.reverse with
    | nil => rw [List.reverse_eq_nil_iff.mp hr] at hb; simp at hb
    | cons l r =>
      have hks : hp = r.reverse ++ [l] := by rw [← List.reverse_reverse hp, hr]; simp
      generalize r.reverse = ks at hks
      subst hks
      have hpm := hb3 _ (hpop_mem ltP ks l)
      have hpl := hpop_length ltP ks l
      have hskip := hJ.skip ks l held tot hj
      have htake := hJ.take ks l held tot hj
      simp only [List.length_append, List.length_cons, List.length_nil] at hb1
      walk_at "go"
      refine heappop_call S hlt (ks := ks) (l := l) (gh _ _) (by (first | lia | omega)) ?_
      rw [sh]
      generalize hpq : hpop ltP ks l = pq at *
      obtain ⟨⟨cost, k⟩, hp'⟩ := pq
      simp only at hpm hpl hskip htake
      show WAsg C (n + 3) _ _ (.pair cost k) _ _ _
      refine WAsg_pair ?_
      walk_at "go"
      refine WCmp_notIn (gg _ _) ?_
      walk_at "go"
      refine ⟨fun hn => ?_, fun hn => ?_⟩
      · have hnk : k ∉ held := by simpa using hn
        obtain ⟨hlN, hj'⟩ := htake hnk
        walk_at "go"
        refine WE_lmeth1 PySem.F.slot_list_append PySem.F.type_list_append rfl rfl rfl ?_
        walk_at "go"
        refine ⟨g, _, rfl, gg _ _, ?_⟩
        walk_at "go"
        refine WCall_append (xs := iL held) (gg _ _) (by simp; (first | lia | omega)) ⟨rfl, ?_⟩
        have eh : iL held ++ [PV.int k] = iL (held ++ [k]) := by simp [iL]
        rw [eh, sg]
        walk_at "go"
        have hkN : k.toNat < N := by (first | lia | omega)
        have hkk : ((k.toNat : Nat) : Int) = k := by (first | lia | omega)
        refine WS_For (fun i ρ σ' => ρ = nρk fa h g (tot + cost) k ∧ σ' = nst σ h g (pushAll (fun i j => (rows i).getD j 0) (held ++ [k]) k.toNat i hp') (held ++ [k])) (nρk fa h g (tot + cost) k)
          (fun _ => rfl) (fun _ _ => rfl) (rangeOk C 0 ((N : Int) - 0).toNat 1) ⟨rfl, rfl, rfl, rfl, rfl, trivial⟩ ?_ ?_ ?_
        · refine WIt_of (side := fun _ => True) ?_
          walk_at "go"
          refine WCall_len (go _ _ _ _ hfa) (by simp; (first | lia | omega)) ?_
          walk_at "go"
          refine WCall_range1 ?_
          rw [List.length_map, hN]
          exact ⟨rngMk C (by decide) (by (first | lia | omega)) (by decide) (by (first | lia | omega)), trivial, rfl, rfl⟩
        · rintro j p ρ σ' hp2 ⟨rfl, rfl⟩
          obtain ⟨hjl, rfl⟩ := rangeItems_get hp2
          have hjN : j < N := by (first | lia | omega)
          have ej : (0 : Int) + (j : Int) * 1 = (j : Int) := by (first | lia | omega)
          rw [ej]
          refine ⟨trivial, ?_⟩
          rw [pushAll_succ]
          have plen := pushAll_length (fun i j => (rows i).getD j 0) (held ++ [k]) k.toNat hp' j
          generalize pushAll (fun i j => (rows i).getD j 0) (held ++ [k]) k.toNat j hp' = hq at *
          walk_at "go"
          refine WCmp_notIn (gg _ _) ?_
          walk_at "go"
          refine ⟨fun hn2 => ?_, fun hn2 => ?_⟩
          · have hjh : (j : Int) ∉ held ++ [k] := by simpa using hn2
            have hjk : j ≠ k.toNat := fun z => hjh (by rw [z, hkk]; simp)
            have e1 : max (j : Int) k = ((max j k.toNat : Nat) : Int) := by (first | lia | omega)
            have e2 : min (j : Int) k = ((min j k.toNat : Nat) : Int) := by (first | lia | omega)
            have hmx : max j k.toNat < N := by (first | lia | omega)
            obtain ⟨hrw, hrl⟩ := hrow _ hmx
            walk_at "go"
            refine WE_Pair ?_
            walk_at "go"
            refine WCall_max2 ?_
            rw [e1]
            refine WSub_list (v := .ref (ras.getD (max j k.toNat) 0)) (fun _ _ => rfl) (go _ _ _ _ hfa) (by (first | lia | omega)) (by (first | lia | omega)) (by rw [Int.toNat_natCast]; exact map_get (mk := PV.ref) ras (by (first | lia | omega)) 0) ?_
            walk_at "go"
            refine WCall_min2 ?_
            rw [e2]
            refine WSub_list (v := .int ((rows (max j k.toNat)).getD (min j k.toNat) 0)) (fun _ _ => rfl) (go _ _ _ _ hrw) (by (first | lia | omega)) (by (first | lia | omega)) (by rw [Int.toNat_natCast]; exact map_get (mk := PV.int) (rows (max j k.toNat)) (by (first | lia | omega)) 0) ?_
            walk_at "go"
            refine ⟨_, _, rfl, ?_⟩
            walk_at "go"
            refine heappush_call S hlt (ks := hq) (x := ((rows (max j k.toNat)).getD (min j k.toNat) 0, (j : Int))) (gh _ _) (by (first | lia | omega)) ⟨rfl, ?_⟩
            rw [sh]
            walk_at "go"
            refine ⟨nρk fa h g (tot + cost) k, _, ⟨rfl, rfl, rfl, rfl, rfl, trivial⟩, .refl _, rfl, ?_⟩
            unfold pushOne
            rw [if_neg hjh]
          · have hjh : (j : Int) ∈ held ++ [k] := Decidable.byContradiction fun z => by rw [decide_eq_false z] at hn2; cases hn2
            walk_at "go"
            refine ⟨nρk fa h g (tot + cost) k, _, ⟨rfl, rfl, rfl, rfl, rfl, trivial⟩, .refl _, rfl, ?_⟩
            unfold pushOne
            rw [if_pos hjh]
        · rintro ρ σ' ⟨rfl, rfl⟩
          have hlen : (rangeItems 0 ((N : Int) - 0).toNat 1).length = N := by simp [rangeItems]
          rw [hlen]
          refine ⟨trivial, ?_⟩
          walk_at "go"
          have plen := pushAll_length (fun i j => (rows i).getD j 0) (held ++ [k]) k.toNat hp' N
          refine ⟨_, nρ fa h g (tot + cost), _, ?_, ⟨rfl, rfl, rfl, rfl, trivial⟩, .refl _, _, _, _, rfl, rfl, hj', rfl⟩
          simp only [List.length_append, List.length_cons, List.length_nil, Nat.zero_add]
          have : N - held.length = (N - (held.length + 1)) + 1 := by (first | lia | omega)
          rw [this, Nat.add_mul]
          (first | lia | omega)
      · have hnk : k ∈ held := by simpa using hn
        walk_at "go"
        refine ⟨_, nρ fa h g tot, _, ?_, ⟨rfl, rfl, rfl, rfl, trivial⟩, .refl _, _, _, _, rfl, rfl, hskip hnk, rfl⟩
        simp only [List.length_append, List.length_cons, List.length_nil]
        (first | lia | omega)
  · have : hp = [] := by cases hp with
      | nil => rfl
      | cons x l => simp at hb
    subst this
    walk_at "go"
    exact fin _ _ _ (hJ.fin _ _ hj)
end

/-! ## Plain: the heap functions are right -/
section
variable {κ : Type} {lt : κ → κ → Bool} {d : κ}
structure Ordr (lt : κ → κ → Bool) : Prop where
  asym : ∀ a b, lt a b = true → lt b a = false
  trans : ∀ a b c, lt b a = false → lt c b = false → lt c a = false
theorem Ordr.refl (O : Ordr lt) (a : κ) : lt a a = false := by
  cases h : lt a a with
  | false => rfl
  | true => exact absurd h (by rw [O.asym a a h]; decide)
inductive Anc (s : Nat) : Nat → Prop
  | base : Anc s s
  | left {p} : Anc s p → Anc s (2 * p + 1)
  | right {p} : Anc s p → Anc s (2 * p + 2)
theorem Anc.le {s p : Nat} (h : Anc s p) : s ≤ p := by
  induction h with
  | base => exact Nat.le_refl _
  | left _ ih => (first | lia | omega)
  | right _ ih => (first | lia | omega)
theorem Anc.up {s p : Nat} (h : Anc s p) (hp : s < p) : Anc s ((p - 1) / 2) := by
  cases h with
  | base => (first | lia | omega)
  | left h => rename_i q; have : (2 * q + 1 - 1) / 2 = q := by (first | lia | omega)
              rw [this]; exact h
  | right h => rename_i q; have : (2 * q + 2 - 1) / 2 = q := by (first | lia | omega)
               rw [this]; exact h
theorem Anc.zero : ∀ p, Anc 0 p := by
  intro p
  induction p using Nat.strongRecOn with
  | ind p ih =>
    by_cases h : p = 0
    · subst h; exact .base
    · have := ih ((p - 1) / 2) (by (first | lia | omega))
      by_cases hb : p % 2 = 1
      · have e : p = 2 * ((p - 1) / 2) + 1 := by (first | lia | omega)
        rw [e]; exact this.left
      · have e : p = 2 * ((p - 1) / 2) + 2 := by (first | lia | omega)
        rw [e]; exact this.right
theorem getD_eq {ks : List κ} {i : Nat} (h : i < ks.length) (a b : κ) : ks.getD i a = ks.getD i b := by simp [List.getD_eq_getElem?_getD, h]
theorem getD_set (ks : List κ) {p : Nat} (hp : p < ks.length) (v : κ) (i : Nat) : (ks.set p v).getD i d = if i = p then v else ks.getD i d := by
  simp only [List.getD_eq_getElem?_getD, List.getElem?_set]
  by_cases h : i = p
  · subst h; simp [hp]
  · simp [h, Ne.symm h]
/-- the heap rule for parents from s on -/
noncomputable def Hp (lt : κ → κ → Bool) (d : κ) (s : Nat) (ks : List κ) : Prop := ∀ i, 0 < i → i < ks.length → s ≤ (i - 1) / 2 → lt (ks.getD i d) (ks.getD ((i - 1) / 2) d) = false
theorem sd_heap (O : Ordr lt) (x : κ) (s : Nat) : ∀ (pos : Nat) (ks : List κ), Anc s pos → pos < ks.length →
    (∀ i, 0 < i → i < ks.length → s ≤ (i - 1) / 2 → i ≠ pos → (i - 1) / 2 ≠ pos → lt (ks.getD i d) (ks.getD ((i - 1) / 2) d) = false) →
    (∀ c, 0 < c → c < ks.length → (c - 1) / 2 = pos → lt (ks.getD c d) x = false) →
    (s < pos → ∀ c, 0 < c → c < ks.length → (c - 1) / 2 = pos → lt (ks.getD c d) (ks.getD ((pos - 1) / 2) d) = false) → Hp lt d s (sd lt x s pos ks) := by
  intro pos
  induction pos using Nat.strongRecOn with
  | ind pos ih =>
    intro ks hA hl P1 P2 P3
    have hs := hA.le
    have base : (s < pos → lt x (ks.getD ((pos - 1) / 2) d) = false) → Hp lt d s (ks.set pos x) := by
      intro hx i h0 hi hsi
      rw [List.length_set] at hi
      rw [getD_set ks hl, getD_set ks hl]
      by_cases e1 : i = pos
      · subst e1
        rw [if_pos rfl, if_neg (by (first | lia | omega))]
        exact hx (by (first | lia | omega))
      · rw [if_neg e1]
        by_cases e2 : (i - 1) / 2 = pos
        · rw [if_pos e2]; exact P2 i h0 hi e2
        · rw [if_neg e2]; exact P1 i h0 hi hsi e1 e2
    rw [sd]
    split
    · rename_i hlt
      have hpp : (pos - 1) / 2 < ks.length := by (first | lia | omega)
      rw [getD_eq hpp x d]
      split
      · rename_i hc
        have hA' := hA.up hlt
        refine ih ((pos - 1) / 2) (by (first | lia | omega)) _ hA' (by rw [List.length_set]; exact hpp) ?_ ?_ ?_
        · intro i h0 hi hsi hne hne2
          rw [List.length_set] at hi
          rw [getD_set ks hl, getD_set ks hl]
          by_cases e1 : i = pos
          · subst e1; exact absurd rfl hne2
          · rw [if_neg e1]
            by_cases e2 : (i - 1) / 2 = pos
            · rw [if_pos e2]; exact P3 hlt i h0 hi e2
            · rw [if_neg e2]; exact P1 i h0 hi hsi e1 e2
        · intro c h0 hcl hcp
          rw [List.length_set] at hcl
          rw [getD_set ks hl]
          by_cases e1 : c = pos
          · subst e1; rw [if_pos rfl]; exact O.asym _ _ hc
          · rw [if_neg e1]
            have := P1 c h0 hcl (by have := hA'.le; (first | lia | omega)) e1 (by (first | lia | omega))
            rw [hcp] at this
            exact O.trans _ _ _ (O.asym _ _ hc) this
        · intro hs2 c h0 hcl hcp
          rw [List.length_set] at hcl
          have hq := P1 ((pos - 1) / 2) (by (first | lia | omega)) hpp (by have := (hA'.up hs2).le; (first | lia | omega)) (by (first | lia | omega)) (by (first | lia | omega))
          rw [getD_set ks hl, getD_set ks hl]
          rw [if_neg (show ((pos - 1) / 2 - 1) / 2 ≠ pos by (first | lia | omega))]
          by_cases e1 : c = pos
          · subst e1; rw [if_pos rfl]; exact hq
          · rw [if_neg e1]
            have := P1 c h0 hcl (by have := hA'.le; (first | lia | omega)) e1 (by (first | lia | omega))
            rw [hcp] at this
            exact O.trans _ _ _ hq this
      · rename_i hc
        exact base fun _ => by simpa using hc
    · rename_i hlt
      exact base fun h => absurd h hlt
theorem set_perm : ∀ (l : List κ) (i : Nat), i < l.length → ∀ a, (l.set i a).Perm (a :: l.eraseIdx i)
  | [], _, h, _ => by simp at h
  | x :: l, 0, _, a => by simp
  | x :: l, i + 1, h, a => by
    rw [List.set_cons_succ, List.eraseIdx_cons_succ]
    exact ((set_perm l i (by simpa using h) a).cons x).trans (List.Perm.swap ..)
theorem set_swap_perm {ks : List κ} {i j : Nat} (hi : i < ks.length) (hj : j < ks.length) (hij : i ≠ j) (x : κ) : ((ks.set i (ks.getD j d)).set j x).Perm (ks.set i x) := by
  have hj' : j < (ks.set i (ks.getD j d)).length := by rw [List.length_set]; exact hj
  have a1 : ((ks.set i (ks.getD j d)).set j x).Perm (x :: (ks.set i (ks.getD j d)).eraseIdx j) := set_perm _ _ hj' x
  have a2 : (ks.set i x).Perm (x :: ks.eraseIdx i) := set_perm _ _ hi x
  have a3 : (ks.set i (ks.getD j d)).Perm (ks.getD j d :: ks.eraseIdx i) := set_perm _ _ hi _
  have a4 : ((ks.set i (ks.getD j d))[j] :: (ks.set i (ks.getD j d)).eraseIdx j).Perm (ks.set i (ks.getD j d)) := by
    have := set_perm (ks.set i (ks.getD j d)) j hj' ((ks.set i (ks.getD j d))[j])
    rw [List.set_getElem_self] at this
    exact this.symm
  have e : (ks.set i (ks.getD j d))[j] = ks.getD j d := by
    rw [List.getElem_set, if_neg hij]; simp [List.getD_eq_getElem?_getD, hj]
  rw [e] at a4
  have a5 := (a4.trans a3).cons_inv
  exact a1.trans ((a5.cons x).trans a2.symm)
theorem sd_perm (x : κ) (s : Nat) : ∀ (pos : Nat) (ks : List κ), pos < ks.length → (sd lt x s pos ks).Perm (ks.set pos x) := by
  intro pos
  induction pos using Nat.strongRecOn with
  | ind pos ih =>
    intro ks hl
    rw [sd]
    split
    · rename_i hlt
      split
      · have hpp : (pos - 1) / 2 < ks.length := by (first | lia | omega)
        refine (ih ((pos - 1) / 2) (by (first | lia | omega)) _ (by rw [List.length_set]; exact hpp)).trans ?_
        exact set_swap_perm hl hpp (by (first | lia | omega)) x
      · exact List.Perm.refl _
    · exact List.Perm.refl _
/-- the hole wanders down -/
theorem suL_heap (O : Ordr lt) (s e : Nat) : ∀ (m pos : Nat) (ks : List κ), e - pos ≤ m → e = ks.length → pos < e → Anc s pos →
    (∀ i, 0 < i → i < ks.length → s ≤ (i - 1) / 2 → i ≠ pos → (i - 1) / 2 ≠ pos → lt (ks.getD i d) (ks.getD ((i - 1) / 2) d) = false) →
    (s < pos → ∀ c, 0 < c → c < ks.length → (c - 1) / 2 = pos → lt (ks.getD c d) (ks.getD ((pos - 1) / 2) d) = false) →
    let r := suL lt d e pos ks
    r.1 < e ∧ r.2.length = e ∧ Anc s r.1 ∧ ¬ 2 * r.1 + 1 < e ∧ (∀ i, 0 < i → i < r.2.length → s ≤ (i - 1) / 2 → i ≠ r.1 → (i - 1) / 2 ≠ r.1 → lt (r.2.getD i d) (r.2.getD ((i - 1) / 2) d) = false) ∧ ∀ x, (r.2.set r.1 x).Perm (ks.set pos x) := by
  intro m
  induction m with
  | zero => intro pos ks h1 _ h3; (first | lia | omega)
  | succ m ih =>
    intro pos ks h1 he hp hA J1 J2
    rw [suL]
    split
    · rename_i hc
      have hcl := child_lt (lt := lt) (ks := ks) (d := d) hc
      have hcc : child lt e pos ks d = 2 * pos + 1 ∨ child lt e pos ks d = 2 * pos + 2 := by unfold child; split <;> simp
      have hsm : ∀ c, 0 < c → c < e → (c - 1) / 2 = pos → lt (ks.getD c d) (ks.getD (child lt e pos ks d) d) = false := by
        intro c h0 hce hcp
        have hc2 : c = 2 * pos + 1 ∨ c = 2 * pos + 2 := by (first | lia | omega)
        unfold child
        split
        · rename_i h
          rcases hc2 with rfl | rfl
          · exact h.2
          · exact O.refl _
        · rename_i h
          rcases hc2 with rfl | rfl
          · exact O.refl _
          · have : ¬ lt (ks.getD (2 * pos + 1) d) (ks.getD (2 * pos + 2) d) = false := fun z => h ⟨hce, z⟩
            exact O.asym _ _ (by simpa using this)
      generalize hch : child lt e pos ks d = ch at *
      have hpl : pos < ks.length := by (first | lia | omega)
      have hAc : Anc s ch := by rcases hcc with rfl | rfl; exact hA.left; exact hA.right
      have hpar : (ch - 1) / 2 = pos := by (first | lia | omega)
      have hs := hA.le
      obtain ⟨r1, r2, r3, r4, r5, r6⟩ := ih ch (ks.set pos (ks.getD ch d)) (by (first | lia | omega)) (by rw [List.length_set]; exact he) hcl hAc (by
        intro i h0 hi hsi hne hne2
        rw [List.length_set] at hi
        rw [getD_set ks hpl, getD_set ks hpl]
        by_cases e1 : i = pos
        · subst e1
          rw [if_pos rfl, if_neg (by (first | lia | omega))]
          exact J2 (by (first | lia | omega)) ch (by (first | lia | omega)) (by (first | lia | omega)) hpar
        · rw [if_neg e1]
          by_cases e2 : (i - 1) / 2 = pos
          · rw [if_pos e2]; exact hsm i h0 (by (first | lia | omega)) e2
          · rw [if_neg e2]; exact J1 i h0 hi hsi e1 e2) (by
        intro _ c h0 hi hcp
        rw [List.length_set] at hi
        rw [getD_set ks hpl, getD_set ks hpl, hpar, if_neg (by (first | lia | omega)), if_pos rfl]
        have := J1 c h0 hi (by (first | lia | omega)) (by (first | lia | omega)) (by (first | lia | omega))
        rw [hcp] at this
        exact this)
      refine ⟨r1, r2, r3, r4, r5, fun x => (r6 x).trans (set_swap_perm hpl (by (first | lia | omega)) (by (first | lia | omega)) x)⟩
    · rename_i hc
      exact ⟨hp, he.symm, hA, hc, J1, fun x => List.Perm.refl _⟩
theorem su_heap (O : Ordr lt) {s : Nat} {ks : List κ} (hs : s < ks.length) (h : Hp lt d (s + 1) ks) : Hp lt d s (su lt d s ks) ∧ (su lt d s ks).Perm ks := by
  obtain ⟨r1, r2, r3, r4, r5, r6⟩ := suL_heap (lt := lt) (d := d) O s ks.length (ks.length - s) s ks (Nat.le_refl _) rfl hs .base (fun i h0 hi hsi hne hne2 => h i h0 hi (by (first | lia | omega))) (fun h => absurd h (Nat.lt_irrefl _))
  unfold su
  dsimp only
  generalize suL lt d ks.length s ks = r at *
  have hr1 : r.1 < r.2.length := by (first | lia | omega)
  constructor
  · refine sd_heap O _ s r.1 _ r3 (by rw [List.length_set]; exact hr1) ?_ ?_ ?_
    · intro i h0 hi hsi hne hne2
      rw [List.length_set] at hi
      rw [getD_set r.2 hr1, getD_set r.2 hr1, if_neg hne, if_neg hne2]
      exact r5 i h0 hi hsi hne hne2
    · intro c h0 hc hcp
      rw [List.length_set] at hc
      (first | lia | omega)
    · intro _ c h0 hc hcp
      rw [List.length_set] at hc
      (first | lia | omega)
  · refine (sd_perm _ s r.1 _ (by rw [List.length_set]; exact hr1)).trans ?_
    rw [List.set_set]
    refine (r6 _).trans ?_
    have : ks.set s (ks.getD s d) = ks := by
      rw [List.getD_eq_getElem?_getD, List.getElem?_eq_getElem hs]; simp
    rw [this]
theorem suL_indep : ∀ (m e pos : Nat) (ks : List κ) (a b : κ), e - pos ≤ m → e = ks.length → suL lt a e pos ks = suL lt b e pos ks := by
  intro m
  induction m with
  | zero =>
    intro e pos ks a b h1 h2
    rw [suL, dif_neg (by (first | lia | omega))]
    conv => rhs; rw [suL, dif_neg (show ¬ 2 * pos + 1 < e by (first | lia | omega))]
  | succ m ih =>
    intro e pos ks a b h1 h2
    rw [suL]
    conv => rhs; rw [suL]
    split
    · rename_i hc
      have hch : child lt e pos ks a = child lt e pos ks b := by
        unfold child
        by_cases h3 : 2 * pos + 2 < e
        · rw [getD_eq (show 2 * pos + 1 < ks.length by (first | lia | omega)) a b, getD_eq (show 2 * pos + 2 < ks.length by (first | lia | omega)) a b]
        · simp [h3]
      have hcl := child_lt (lt := lt) (ks := ks) (d := b) hc
      have hcg : pos < child lt e pos ks b := by unfold child; split <;> (first | lia | omega)
      rw [hch, getD_eq (show child lt e pos ks b < ks.length by (first | lia | omega)) a b]
      exact ih e _ _ a b (by (first | lia | omega)) (by rw [List.length_set]; exact h2)
    · rfl
theorem su_indep {pos : Nat} {ks : List κ} (h : pos < ks.length) (a b : κ) : su lt a pos ks = su lt b pos ks := by
  unfold su
  rw [suL_indep _ _ _ _ a b (Nat.le_refl _) rfl, getD_eq h a b]
theorem hify_heap (O : Ordr lt) : ∀ (i : Nat) (ks : List κ), i ≤ ks.length → Hp lt d i ks → Hp lt d 0 (hify lt d i ks) ∧ (hify lt d i ks).Perm ks
  | 0, ks, _, h => ⟨h, List.Perm.refl _⟩
  | i + 1, ks, hi, h => by
    have e : su lt (ks.getD i d) i ks = su lt d i ks := su_indep hi _ _
    rw [hify, e]
    obtain ⟨a, b⟩ := su_heap O (Nat.lt_of_succ_le hi) h
    obtain ⟨a2, b2⟩ := hify_heap O i _ (by rw [b.length_eq]; (first | lia | omega)) a
    exact ⟨a2, b2.trans b⟩
theorem hify_ok (O : Ordr lt) (ks : List κ) : Hp lt d 0 (hify lt d (ks.length / 2) ks) ∧ (hify lt d (ks.length / 2) ks).Perm ks :=
  hify_heap O _ _ (by (first | lia | omega)) fun i h0 hi hs => by (first | lia | omega)
theorem Hp.top (O : Ordr lt) {ks : List κ} (h : Hp lt d 0 ks) : ∀ i, i < ks.length → lt (ks.getD i d) (ks.getD 0 d) = false := by
  intro i
  induction i using Nat.strongRecOn with
  | ind i ih =>
    intro hi
    by_cases h0 : i = 0
    · subst h0; exact O.refl _
    · exact O.trans _ _ _ (ih ((i - 1) / 2) (by (first | lia | omega)) (by (first | lia | omega))) (h i (by (first | lia | omega)) hi (Nat.zero_le _))
theorem hpop_ok (O : Ordr lt) {ks : List κ} {l : κ} (h : Hp lt d 0 (ks ++ [l])) : (∀ x ∈ ks ++ [l], lt x (hpop lt ks l).1 = false) ∧ Hp lt d 0 (hpop lt ks l).2 ∧ ((hpop lt ks l).1 :: (hpop lt ks l).2).Perm (ks ++ [l]) := by
  have top : ∀ x ∈ ks ++ [l], lt x ((ks ++ [l]).getD 0 d) = false := by
    intro x hx
    obtain ⟨i, hi, e⟩ := List.getElem_of_mem hx
    have := h.top O i hi
    have e2 : (ks ++ [l]).getD i d = x := by rw [List.getD_eq_getElem?_getD, List.getElem?_eq_getElem hi, e]; rfl
    rw [e2] at this; exact this
  cases ks with
  | nil =>
    refine ⟨fun x hx => by simp at hx; subst hx; exact O.refl _, fun i h0 hi => by simp [hpop] at hi, by simp [hpop]⟩
  | cons k r =>
    have e : su lt l 0 (l :: r) = su lt d 0 (l :: r) := su_indep (by simp) _ _
    have hH : Hp lt d 1 (l :: r) := by
      intro i h0 hi hs
      have hi' : i < (k :: r ++ [l]).length := by simp at hi ⊢; (first | lia | omega)
      have := h i h0 hi' (Nat.zero_le _)
      have g : ∀ j, 0 < j → j < (l :: r).length → (l :: r).getD j d = (k :: r ++ [l]).getD j d := by
        intro j hj hjl
        obtain ⟨j', rfl⟩ : ∃ j', j = j' + 1 := ⟨j - 1, by (first | lia | omega)⟩
        simp only [List.length_cons] at hjl
        simp [List.getD_eq_getElem?_getD, List.getElem?_append_left (show j' < r.length by (first | lia | omega))]
      rw [g i h0 hi, g _ (by (first | lia | omega)) (by simp at hi ⊢; (first | lia | omega))]
      exact this
    obtain ⟨a, b⟩ := su_heap (d := d) O (s := 0) (ks := l :: r) (by simp) hH
    refine ⟨top, ?_, ?_⟩
    · show Hp lt d 0 (su lt l 0 (l :: r)); rw [e]; exact a
    · show (k :: su lt l 0 (l :: r)).Perm _
      rw [e]
      refine (b.cons k).trans ?_
      rw [List.cons_append]
      exact (List.perm_append_singleton l r).symm.cons k
theorem hpush_ok (O : Ordr lt) {ks : List κ} {x : κ} (h : Hp lt d 0 ks) : Hp lt d 0 (hpush lt ks x) ∧ (hpush lt ks x).Perm (x :: ks) := by
  unfold hpush
  constructor
  · refine sd_heap O x 0 ks.length _ (Anc.zero _) (by simp) ?_ ?_ ?_
    · intro i h0 hi _ hne _
      have hi' : i < ks.length := by simp at hi; (first | lia | omega)
      have := h i h0 hi' (Nat.zero_le _)
      rw [List.getD_eq_getElem?_getD, List.getD_eq_getElem?_getD, List.getElem?_append_left hi', List.getElem?_append_left (by (first | lia | omega))]
      simpa [List.getD_eq_getElem?_getD] using this
    · intro c h0 hc hcp; simp at hc; (first | lia | omega)
    · intro _ c h0 hc hcp; simp at hc; (first | lia | omega)
  · refine (sd_perm x 0 ks.length _ (by simp)).trans ?_
    have : (ks ++ [x]).set ks.length x = ks ++ [x] := by simp
    rw [this]
    exact List.perm_append_singleton x ks
theorem drain_ok (O : Ordr lt) : ∀ (f : Nat) (ks : List κ), ks.length = f → Hp lt d 0 ks → (drain lt f ks).Perm ks ∧ (drain lt f ks).Pairwise (fun a b => lt b a = false)
  | 0, ks, hl, _ => by
    have : ks = [] := List.eq_nil_of_length_eq_zero hl
    subst this
    exact ⟨List.Perm.refl _, List.Pairwise.nil⟩
  | f + 1, ks, hl, h => by
    rw [drain]
    cases hr : ks.reverse with
    | nil => rw [List.reverse_eq_nil_iff.mp hr] at hl; simp at hl
    | cons l r =>
      have hks : ks = r.reverse ++ [l] := by rw [← List.reverse_reverse ks, hr]; simp
      subst hks
      obtain ⟨a, b, c⟩ := hpop_ok O h
      have hlen : (hpop lt r.reverse l).2.length = f := by
        have := c.length_eq; rw [hl] at this; simpa using this
      obtain ⟨p, q⟩ := drain_ok O f _ hlen b
      refine ⟨(p.cons _).trans c, List.Pairwise.cons ?_ q⟩
      intro y hy
      exact a y (c.mem_iff.mp (.tail _ (p.mem_iff.mp hy)))
end
theorem ordI : Ordr ltI where
  asym a b h := by unfold ltI at *; simp at *; (first | lia | omega)
  trans a b c h1 h2 := by unfold ltI at *; simp at *; (first | lia | omega)
theorem ordP : Ordr ltP where
  asym a b h := by unfold ltP at *; simp at *; (first | lia | omega)
  trans a b c h1 h2 := by unfold ltP at *; simp at *; (first | lia | omega)
theorem inOrder_ok (ns : List Int) : (inOrder ns).Perm ns ∧ (inOrder ns).Pairwise (· ≤ ·) := by
  obtain ⟨a, b⟩ := hify_ok (d := (0 : Int)) ordI ns
  obtain ⟨c, e⟩ := drain_ok (d := (0 : Int)) ordI ns.length (hify ltI 0 (ns.length / 2) ns) b.length_eq a
  refine ⟨c.trans b, e.imp ?_⟩
  intro x y h
  unfold ltI at h
  simpa using h

/-! ## comprehensions, made handy -/
section
variable {C : Cx} {n : Nat} {env : Env} {ρ : Loc} {σ : St}
theorem LSub.nil (ρ : Loc) : LSub [] ρ := trivial
theorem SubS.trans {a b c : St} (h : SubS a b) (k : SubS b c) : SubS a c := fun x p e => k x p (h x p e)
theorem crunMap {elt iter : Expr} {x : Str} {px : Pos} {scope : Scope} {pos : Pos} {cl : List (Str × Addr)} {items : List PV} {side : St → Prop} {st : Nat → Obj → Prop} {P0 : St → Prop} (I : Nat → List PV → St → Prop)
    (ok : ItOk C items side st) (hk : ∀ C0, (compEnvC scope cl C0 env).scope.kind = .function) (hx : ∀ C0, (compEnvC scope cl C0 env).kindOf x = some .local)
    (start : ∀ σ, P0 σ → I 0 [] σ)
    (turn : ∀ i q acc σ, items[i]? = some q → I i acc σ → acc.length ≤ 1000000 ∧ side σ ∧ ∀ C0, WE C n (compEnvC scope cl C0 env) elt [(x, q)] σ (fun v σ₃ => ∃ σ₀, SubS σ₀ σ₃ ∧ I (i + 1) (acc ++ [v]) σ₀))
    (fin : ∀ acc σ, I items.length acc σ → side σ) (C0 : Addr) :
    CRun C n (.ListComp elt [⟨.Name x px, iter, [], 0⟩] scope pos) (compEnvC scope (cellsOw none (C0 + 1) cl) C0 env) st (fun σ' => ∃ σ₁, P0 σ₁ ∧ σ₁ (C0 + 1) = none ∧ σ' = stOw none σ₁ (C0 + 1)) (fun acc σ' => I items.length acc σ') := by
  refine @crun_one C n elt (.Name x px) iter scope pos _ items side st _ _ (fun i acc ρ σ => ρ = [] ∧ I i acc σ) (fun _ _ => rfl) ok ?_ ?_ ?_
  · rintro σ ⟨σ₁, h, _, rfl⟩
    exact ⟨rfl, start _ h⟩
  · rintro i q acc ρ σ hi ⟨rfl, hI⟩
    obtain ⟨a, b, c⟩ := turn i q acc σ hi hI
    refine ⟨a, b, WAsg_Name (WStore_local (hk C0) (hx C0) ?_)⟩
    refine (c C0).mono ?_
    rintro v σ₃ ⟨σ₀, s, h⟩
    exact ⟨[], σ₀, trivial, s, rfl, h⟩
  · rintro acc ρ σ ⟨_, h⟩
    exact ⟨fin _ _ h, h⟩
/-- with a cell of its own for the name -/
theorem crunMapC {elt iter : Expr} {x : Str} {px : Pos} {scope : Scope} {pos : Pos} {cl : List (Str × Addr)} {items : List PV} {side : St → Prop} {st : Nat → Obj → Prop} {P0 : St → Prop} (I : Nat → List PV → St → Prop)
    (ok : ItOk C items side st) (hk : ∀ C0, (compEnvC scope ((x, C0 + 1) :: cl) C0 env).scope.kind = .function) (hx : ∀ C0, (compEnvC scope ((x, C0 + 1) :: cl) C0 env).kindOf x = some .cell)
    (hc : ∀ C0, (compEnvC scope ((x, C0 + 1) :: cl) C0 env).cells.lookup x = some (C0 + 1)) (hside : ∀ σ c v, side σ → σ c = none ∨ (∃ v₀, σ c = some (.cell v₀)) → side (σ.set c (.cell v)))
    (start : ∀ σ, P0 σ → I 0 [] σ)
    (turn : ∀ i q acc σ, items[i]? = some q → I i acc σ → acc.length ≤ 1000000 ∧ side σ ∧ ∀ C0, σ (C0 + 1) = none → WE C n (compEnvC scope ((x, C0 + 1) :: cl) C0 env) elt [] (σ.set (C0 + 1) (.cell (some q))) (fun v σ₃ => ∃ σ₀, SubS (σ₀.set (C0 + 1) (.cell (some q))) σ₃ ∧ σ₀ (C0 + 1) = none ∧ I (i + 1) (acc ++ [v]) σ₀))
    (fin : ∀ acc σ, I items.length acc σ → side σ) (C0 : Addr) :
    CRun C n (.ListComp elt [⟨.Name x px, iter, [], 0⟩] scope pos) (compEnvC scope (cellsOw (some x) (C0 + 1) cl) C0 env) st (fun σ' => ∃ σ₁, P0 σ₁ ∧ σ₁ (C0 + 1) = none ∧ σ' = stOw (some x) σ₁ (C0 + 1)) (fun acc σ' => ∃ σ₀, SubS σ₀ σ' ∧ I items.length acc σ₀) := by
  refine @crun_one C n elt (.Name x px) iter scope pos _ items side st _ _ (fun i acc ρ σ => ∃ σ₀ v₀, ρ = [] ∧ σ = σ₀.set (C0 + 1) (.cell v₀) ∧ σ₀ (C0 + 1) = none ∧ I i acc σ₀) (fun _ _ => rfl) ok ?_ ?_ ?_
  · rintro σ ⟨σ₁, h, h0, rfl⟩
    exact ⟨σ₁, none, rfl, rfl, h0, start _ h⟩
  · rintro i q acc ρ σ hi ⟨σ₀, v₀, rfl, rfl, h0, hI⟩
    obtain ⟨a, b, c⟩ := turn i q acc σ₀ hi hI
    refine ⟨a, hside _ _ _ b (.inl h0), WAsg_Name (WStore_cell (c := C0 + 1) (v₀ := v₀) (hk C0) (hx C0) (hc C0) (St.set_same ..) ?_)⟩
    rw [set_set]
    refine (c C0 h0).mono ?_
    rintro v σ₃ ⟨σ₄, s, h4, h⟩
    exact ⟨[], σ₄.set (C0 + 1) (.cell (some q)), trivial, s, σ₄, some q, rfl, rfl, h4, h⟩
  · rintro acc ρ σ ⟨σ₀, v₀, _, rfl, h0, h⟩
    refine ⟨hside _ _ _ (fin _ _ h) (.inl h0), σ₀, ?_, h⟩
    intro b p hb
    rw [St.set_ne fun z => by rw [z, h0] at hb; cases hb]; exact hb
/-- two clauses, no cells of its own -/
theorem crunTwo {elt i0 i1 : Expr} {x y : Str} {px py : Pos} {scope : Scope} {pos : Pos} {cl : List (Str × Addr)} {items : List PV} {side : St → Prop} {st : Nat → Obj → Prop} {P0 : St → Prop} (I : Nat → List PV → St → Prop)
    (items1 : PV → List PV) (side1 : PV → St → Prop) (st1' : PV → Nat → Obj → Prop) (K : Nat → PV → Nat → List PV → St → Prop)
    (ok : ItOk C items side st) (ok1 : ∀ q, ItOk C (items1 q) (side1 q) (st1' q)) (hk : ∀ C0, (compEnvC scope cl C0 env).scope.kind = .function) (hx : ∀ C0, (compEnvC scope cl C0 env).kindOf x = some .local) (hy : ∀ C0, (compEnvC scope cl C0 env).kindOf y = some .local) (hyx : y ≠ x)
    (hf : ∀ C0 v, foldedSetIterable i1 (compEnvC scope cl C0 env) v = pure v)
    (start : ∀ σ, P0 σ → I 0 [] σ)
    (turn0 : ∀ i q acc σ, items[i]? = some q → I i acc σ → side σ ∧ ∀ C0, WIt C n (compEnvC scope cl C0 env) i1 [(x, q)] σ (st1' q) (fun σ₁ => K i q 0 acc σ₁))
    (turn1 : ∀ i q j r acc σ, items[i]? = some q → (items1 q)[j]? = some r → K i q j acc σ → acc.length ≤ 1000000 ∧ side1 q σ ∧ ∀ C0, WE C n (compEnvC scope cl C0 env) elt [(x, q), (y, r)] σ (fun v σ₃ => ∃ σ₀, SubS σ₀ σ₃ ∧ K i q (j + 1) (acc ++ [v]) σ₀))
    (fin1 : ∀ i q acc σ, items[i]? = some q → K i q (items1 q).length acc σ → side1 q σ ∧ I (i + 1) acc σ)
    (fin : ∀ acc σ, I items.length acc σ → side σ) (C0 : Addr) :
    CRun C n (.ListComp elt [⟨.Name x px, i0, [], 0⟩, ⟨.Name y py, i1, [], 0⟩] scope pos) (compEnvC scope (cellsOw none (C0 + 1) cl) C0 env) st (fun σ' => ∃ σ₁, P0 σ₁ ∧ σ₁ (C0 + 1) = none ∧ σ' = stOw none σ₁ (C0 + 1)) (fun acc σ' => I items.length acc σ') := by
  refine @crun_two C n elt (.Name x px) i0 (.Name y py) i1 scope pos _ items side st _ _ (fun i acc ρ σ => ρ = [] ∧ I i acc σ) (fun _ _ => rfl) (fun _ _ => rfl) (hf C0) ok ?_ ?_ ?_
  · rintro σ ⟨σ₁, h, _, rfl⟩
    exact ⟨rfl, start _ h⟩
  · rintro i q acc ρ σ hi ⟨rfl, hI⟩
    obtain ⟨a, b⟩ := turn0 i q acc σ hi hI
    refine ⟨a, WAsg_Name (WStore_local (hk C0) (hx C0) ?_)⟩
    refine ⟨items1 q, side1 q, st1' q, fun j acc ρ σ => ρ = [(x, q)] ∧ K i q j acc σ, [(x, q)], ok1 q, ?_, ?_, ?_, ?_⟩
    · exact ⟨by simp [Loc.put], trivial⟩
    · intro F hB A s E K' hr hR hK
      refine b C0 F hB A s E K' hr hR ?_
      intro ita σ₁ F₁ h' tk o hP
      exact hK ita σ₁ F₁ h' tk o ⟨rfl, hP⟩
    · rintro j r acc' ρ' σ' hj ⟨rfl, hK'⟩
      obtain ⟨a1, a2, a3⟩ := turn1 i q j r acc' σ' hi hj hK'
      refine ⟨a1, a2, WAsg_Name (WStore_local (hk C0) (hy C0) ?_)⟩
      have e : Loc.put [(x, q)] y r = [(x, q), (y, r)] := by simp [Loc.put, Ne.symm hyx]
      rw [e]
      refine (a3 C0).mono ?_
      rintro v σ₃ ⟨σ₀, s, h⟩
      exact ⟨[(x, q)], σ₀, ⟨by simp, trivial⟩, s, rfl, h⟩
    · rintro acc' ρ' σ' ⟨rfl, hK'⟩
      obtain ⟨a1, a2⟩ := fin1 i q acc' σ' hi hK'
      exact ⟨a1, [], σ', trivial, .refl _, rfl, a2⟩
  · rintro acc ρ σ ⟨_, h⟩
    exact ⟨fin _ _ h, h⟩
end

/-! ## comprehensions as one step -/
section
variable {C : Cx} {n : Nat} {env : Env} {ρ : Loc} {σ : St}
theorem WE_mapB {elt iter : Expr} {x : Str} {px : Pos} {scope : Scope} {pos : Pos} {β : Type} (cl : List (Str × Addr)) {items : β → List PV} {side : β → St → Prop} {st : β → Nat → Obj → Prop} {P0 : β → St → Prop} {Q : PV → St → Prop} (I : β → Nat → List PV → St → Prop)
    (hs : ∀ x, foldedSetIterable iter env x = pure x) (hclos : closureFor scope env = pure cl) (hkind : scope.kind = .function) (hnames : ∀ x ∈ scope.names, x.2 = .local → scope.names.lookup x.1 = some .local)
    (hcf : ∀ m, cellsFrom m scope.names cl = cl) (hpc : ∀ h, pushCells h scope.names = h)
    (hk : ∀ C0, (compEnvC scope cl C0 env).scope.kind = .function) (hx : ∀ C0, (compEnvC scope cl C0 env).kindOf x = some .local)
    (ok : ∀ b, ItOk C (items b) (side b) (st b)) (hit : WItB C n env iter ρ σ st P0) (start : ∀ b σ, P0 b σ → I b 0 [] σ)
    (turn : ∀ b i q acc σ, (items b)[i]? = some q → I b i acc σ → acc.length ≤ 1000000 ∧ side b σ ∧ ∀ C0, WE C n (compEnvC scope cl C0 env) elt [(x, q)] σ (fun v σ₃ => ∃ σ₀, SubS σ₀ σ₃ ∧ I b (i + 1) (acc ++ [v]) σ₀))
    (fin : ∀ b acc σ, I b (items b).length acc σ → side b σ ∧ ∀ la, σ la = none → Q (.ref la) (σ.set la (.list acc))) : WE C n env (.ListComp elt [⟨.Name x px, iter, [], 0⟩] scope pos) ρ σ Q :=
  WE_ListCompB (ow := none) (P := fun acc σ' => ∃ b, I b (items b).length acc σ') hs hclos hkind hnames hcf hpc hit
    (fun b C0 F A s R ita la o σ hB hr hI0 hR ho hst hsi hFi hLi hne hacc hK =>
      @crunMap C n env elt iter x px scope pos cl (items b) (side b) (st b) (P0 b) (I b) (ok b) hk hx (start b) (turn b) (fun acc σ h => (fin b acc σ h).1) C0 F A s R ita la o σ hB hr hI0 hR ho hst hsi hFi hLi hne hacc
        (fun acc' ρ' σ' F' h' tk hP => hK acc' ρ' σ' F' h' tk ⟨b, hP⟩))
    (fun la acc σ' ⟨b, hP⟩ hla => (fin b acc σ' hP).2 la hla)
theorem WE_map {elt iter : Expr} {x : Str} {px : Pos} {scope : Scope} {pos : Pos} (cl : List (Str × Addr)) {items : List PV} {side : St → Prop} {st : Nat → Obj → Prop} {P0 : St → Prop} {Q : PV → St → Prop} (I : Nat → List PV → St → Prop)
    (hs : ∀ x, foldedSetIterable iter env x = pure x) (hclos : closureFor scope env = pure cl) (hkind : scope.kind = .function) (hnames : ∀ x ∈ scope.names, x.2 = .local → scope.names.lookup x.1 = some .local)
    (hcf : ∀ m, cellsFrom m scope.names cl = cl) (hpc : ∀ h, pushCells h scope.names = h)
    (hk : ∀ C0, (compEnvC scope cl C0 env).scope.kind = .function) (hx : ∀ C0, (compEnvC scope cl C0 env).kindOf x = some .local)
    (ok : ItOk C items side st) (hit : WIt C n env iter ρ σ st P0) (start : ∀ σ, P0 σ → I 0 [] σ)
    (turn : ∀ i q acc σ, items[i]? = some q → I i acc σ → acc.length ≤ 1000000 ∧ side σ ∧ ∀ C0, WE C n (compEnvC scope cl C0 env) elt [(x, q)] σ (fun v σ₃ => ∃ σ₀, SubS σ₀ σ₃ ∧ I (i + 1) (acc ++ [v]) σ₀))
    (fin : ∀ acc σ, I items.length acc σ → side σ ∧ ∀ la, σ la = none → Q (.ref la) (σ.set la (.list acc))) : WE C n env (.ListComp elt [⟨.Name x px, iter, [], 0⟩] scope pos) ρ σ Q :=
  WE_mapB (β := Unit) cl (fun _ => I) hs hclos hkind hnames hcf hpc hk hx (fun _ => ok) hit.toB (fun _ => start) (fun _ => turn) (fun _ => fin)
/-- x = [..] -/
theorem WS_map {elt iter : Expr} {x y : Str} {px py spos : Pos} {scope : Scope} {pos : Pos} (cl : List (Str × Addr)) {items : List PV} {side : St → Prop} {st : Nat → Obj → Prop} {P0 : St → Prop} {Q : PF → Loc → St → Prop} (I : Nat → List PV → St → Prop)
    (hsw : swapsWith (.ListComp elt [⟨.Name x px, iter, [], 0⟩] scope pos) (some (.Name y py)) spos.line env = pure true) (hky : env.scope.kind = .function) (hy : env.kindOf y = some .local)
    (hs : ∀ x, foldedSetIterable iter env x = pure x) (hclos : closureFor scope env = pure cl) (hkind : scope.kind = .function) (hnames : ∀ x ∈ scope.names, x.2 = .local → scope.names.lookup x.1 = some .local)
    (hcf : ∀ m, cellsFrom m scope.names cl = cl) (hpc : ∀ h, pushCells h scope.names = h)
    (hk : ∀ C0, (compEnvC scope cl C0 env).scope.kind = .function) (hx : ∀ C0, (compEnvC scope cl C0 env).kindOf x = some .local)
    (ok : ItOk C items side st) (hit : WIt C n env iter ρ σ st P0) (start : ∀ σ, P0 σ → I 0 [] σ)
    (turn : ∀ i q acc σ, items[i]? = some q → I i acc σ → acc.length ≤ 1000000 ∧ side σ ∧ ∀ C0, WE C n (compEnvC scope cl C0 env) elt [(x, q)] σ (fun v σ₃ => ∃ σ₀, SubS σ₀ σ₃ ∧ I (i + 1) (acc ++ [v]) σ₀))
    (fin : ∀ acc σ, I items.length acc σ → side σ ∧ ∀ la, σ la = none → Q .next (Loc.put ρ y (.ref la)) (σ.set la (.list acc))) : WS C n env (.Assign [.Name y py] (.ListComp elt [⟨.Name x px, iter, [], 0⟩] scope pos) spos) ρ σ Q :=
  WS_AssignComp (ow := none) (P := fun acc σ' => I items.length acc σ') hsw hky hy hs hclos hkind hnames hcf hpc hit
    (fun C0 F A s R ita la o σ hB hr hI0 hR ho hst hsi hFi hLi hne hacc hK =>
      @crunMap C n env elt iter x px scope pos cl items side st P0 I ok hk hx start turn (fun acc σ h => (fin acc σ h).1) C0 F A s R ita la o σ hB hr hI0 hR ho hst hsi hFi hLi hne hacc hK)
    (fun la acc σ' hP hla => (fin acc σ' hP).2 la hla)
theorem WE_mapC {elt iter : Expr} {x : Str} {px : Pos} {scope : Scope} {pos : Pos} (cl : List (Str × Addr)) {items : List PV} {side : St → Prop} {st : Nat → Obj → Prop} {P0 : St → Prop} {Q : PV → St → Prop} (I : Nat → List PV → St → Prop)
    (hs : ∀ x, foldedSetIterable iter env x = pure x) (hclos : closureFor scope env = pure cl) (hkind : scope.kind = .function) (hnames : ∀ x ∈ scope.names, x.2 = .local → scope.names.lookup x.1 = some .local)
    (hcf : ∀ m, cellsFrom m scope.names cl = (x, m) :: cl) (hpc : ∀ h, pushCells h scope.names = h.push { cls := .type "cell", data := .cell none })
    (hk : ∀ C0, (compEnvC scope ((x, C0 + 1) :: cl) C0 env).scope.kind = .function) (hx : ∀ C0, (compEnvC scope ((x, C0 + 1) :: cl) C0 env).kindOf x = some .cell)
    (hc : ∀ C0, (compEnvC scope ((x, C0 + 1) :: cl) C0 env).cells.lookup x = some (C0 + 1)) (hside : ∀ σ c v, side σ → σ c = none ∨ (∃ v₀, σ c = some (.cell v₀)) → side (σ.set c (.cell v)))
    (ok : ItOk C items side st) (hit : WIt C n env iter ρ σ st P0) (start : ∀ σ, P0 σ → I 0 [] σ)
    (turn : ∀ i q acc σ, items[i]? = some q → I i acc σ → acc.length ≤ 1000000 ∧ side σ ∧ ∀ C0, σ (C0 + 1) = none → WE C n (compEnvC scope ((x, C0 + 1) :: cl) C0 env) elt [] (σ.set (C0 + 1) (.cell (some q))) (fun v σ₃ => ∃ σ₀, SubS (σ₀.set (C0 + 1) (.cell (some q))) σ₃ ∧ σ₀ (C0 + 1) = none ∧ I (i + 1) (acc ++ [v]) σ₀))
    (fin : ∀ acc σ, I items.length acc σ → side σ ∧ ∀ la σ', SubS σ σ' → σ' la = none → Q (.ref la) (σ'.set la (.list acc))) : WE C n env (.ListComp elt [⟨.Name x px, iter, [], 0⟩] scope pos) ρ σ Q :=
  WE_ListComp (ow := some x) (P := fun acc σ' => ∃ σ₀, SubS σ₀ σ' ∧ I items.length acc σ₀) hs hclos hkind hnames hcf hpc hit
    (fun C0 F A s R ita la o σ hB hr hI0 hR ho hst hsi hFi hLi hne hacc hK =>
      @crunMapC C n env elt iter x px scope pos cl items side st P0 I ok hk hx hc hside start turn (fun acc σ h => (fin acc σ h).1) C0 F A s R ita la o σ hB hr hI0 hR ho hst hsi hFi hLi hne hacc hK)
    (fun la acc σ' ⟨σ₀, hs, hP⟩ hla => (fin acc σ₀ hP).2 la σ' hs hla)
theorem WE_two {elt i0 i1 : Expr} {x y : Str} {px py : Pos} {scope : Scope} {pos : Pos} (cl : List (Str × Addr)) {items : List PV} {side : St → Prop} {st : Nat → Obj → Prop} {P0 : St → Prop} {Q : PV → St → Prop} (I : Nat → List PV → St → Prop)
    (items1 : PV → List PV) (side1 : PV → St → Prop) (st1' : PV → Nat → Obj → Prop) (K : Nat → PV → Nat → List PV → St → Prop)
    (hs : ∀ x, foldedSetIterable i0 env x = pure x) (hclos : closureFor scope env = pure cl) (hkind : scope.kind = .function) (hnames : ∀ x ∈ scope.names, x.2 = .local → scope.names.lookup x.1 = some .local)
    (hcf : ∀ m, cellsFrom m scope.names cl = cl) (hpc : ∀ h, pushCells h scope.names = h)
    (hk : ∀ C0, (compEnvC scope cl C0 env).scope.kind = .function) (hx : ∀ C0, (compEnvC scope cl C0 env).kindOf x = some .local) (hy : ∀ C0, (compEnvC scope cl C0 env).kindOf y = some .local) (hyx : y ≠ x)
    (hf : ∀ C0 v, foldedSetIterable i1 (compEnvC scope cl C0 env) v = pure v)
    (ok : ItOk C items side st) (ok1 : ∀ q, ItOk C (items1 q) (side1 q) (st1' q)) (hit : WIt C n env i0 ρ σ st P0) (start : ∀ σ, P0 σ → I 0 [] σ)
    (turn0 : ∀ i q acc σ, items[i]? = some q → I i acc σ → side σ ∧ ∀ C0, WIt C n (compEnvC scope cl C0 env) i1 [(x, q)] σ (st1' q) (fun σ₁ => K i q 0 acc σ₁))
    (turn1 : ∀ i q j r acc σ, items[i]? = some q → (items1 q)[j]? = some r → K i q j acc σ → acc.length ≤ 1000000 ∧ side1 q σ ∧ ∀ C0, WE C n (compEnvC scope cl C0 env) elt [(x, q), (y, r)] σ (fun v σ₃ => ∃ σ₀, SubS σ₀ σ₃ ∧ K i q (j + 1) (acc ++ [v]) σ₀))
    (fin1 : ∀ i q acc σ, items[i]? = some q → K i q (items1 q).length acc σ → side1 q σ ∧ I (i + 1) acc σ)
    (fin : ∀ acc σ, I items.length acc σ → side σ ∧ ∀ la, σ la = none → Q (.ref la) (σ.set la (.list acc))) : WE C n env (.ListComp elt [⟨.Name x px, i0, [], 0⟩, ⟨.Name y py, i1, [], 0⟩] scope pos) ρ σ Q :=
  WE_ListComp (ow := none) (P := fun acc σ' => I items.length acc σ') hs hclos hkind hnames hcf hpc hit
    (fun C0 F A s R ita la o σ hB hr hI0 hR ho hst hsi hFi hLi hne hacc hK =>
      @crunTwo C n env elt i0 i1 x y px py scope pos cl items side st P0 I items1 side1 st1' K ok ok1 hk hx hy hyx hf start turn0 turn1 fin1 (fun acc σ h => (fin acc σ h).1) C0 F A s R ita la o σ hB hr hI0 hR ho hst hsi hFi hLi hne hacc hK)
    (fun la acc σ' hP hla => (fin acc σ' hP).2 la hla)
end

/-! ## the law's body, statement by statement -/


noncomputable def k_law : FnI := plainK 24 146
noncomputable def lawEnv (L : Addr) (a : Addr × Value) : Env := mkEnv { k_law with code := a.2 } L a.1 [("far", L + 2), ("order", L + 1)]
noncomputable def lawStmt (i : Nat) : Stmt := (bodyOf (stmtAt 24))[i]?.getD (.Pass default)
theorem drop_set {σ : St} {b : Addr} {p : PO} (h : σ b = none) : SubS σ (σ.set b p) := fun c q e => by
  rw [St.set_ne fun z => by rw [z, h] at e; cases e]; exact e
theorem take_step {α : Type} {l : List α} {i : Nat} {x : α} (h : l[i]? = some x) : l.take (i + 1) = l.take i ++ [x] := by
  rw [List.take_add_one, h]; rfl
theorem map_some {α β : Type} {f : α → β} {l : List α} {i : Nat} {y : β} (h : (l.map f)[i]? = some y) : ∃ x, l[i]? = some x ∧ y = f x := by
  rw [List.getElem?_map] at h
  cases e : l[i]? with
  | none => rw [e] at h; cases h
  | some x => rw [e] at h; cases h; exact ⟨x, rfl, rfl⟩
noncomputable def draw (zs : List Int) : List Int := [0, 7, 16] ++ (zs.take 4).map (fun x => x.fmod 24)
noncomputable def Keep (σ σ' : St) (X : List Addr) : Prop := ∀ a p, a ∉ X → σ a = some p → σ' a = some p
theorem Keep.refl (σ : St) (X : List Addr) : Keep σ σ X := fun _ _ _ e => e
theorem Keep.sub {σ σ' σ'' : St} {X : List Addr} (h : Keep σ σ' X) (k : SubS σ' σ'') : Keep σ σ'' X := fun a p x e => k a p (h a p x e)
theorem Keep.put {σ σ' : St} {X : List Addr} {b : Addr} {p : PO} (h : Keep σ σ' X) (hb : b ∈ X) : Keep σ (σ'.set b p) X := fun a q x e => by
  have hne : a ≠ b := fun z => x (by rw [z]; exact hb)
  rw [St.set_ne hne]; exact h a q x e
theorem Keep.new {σ σ' : St} {X : List Addr} {b : Addr} {p : PO} (h : Keep σ σ' X) (hb : σ' b = none) : Keep σ (σ'.set b p) X := h.sub (drop_set hb)
noncomputable def Tab1 (σ : St) : Prop := ∃ e, σ 23 = some (.tab e) ∧ tabIs e (posOf st1) q1
noncomputable def Tab2 (σ : St) : Prop := ∃ e, σ 30 = some (.tab e) ∧ tabIs e (posOf st2) q2
theorem Tab1.sub {σ σ' : St} (h : Tab1 σ) (k : SubS σ σ') : Tab1 σ' := let ⟨e, a, b⟩ := h; ⟨e, k _ _ a, b⟩
theorem Tab2.sub {σ σ' : St} (h : Tab2 σ) (k : SubS σ σ') : Tab2 σ' := let ⟨e, a, b⟩ := h; ⟨e, k _ _ a, b⟩
theorem tab1_T (σ : St) : Tab1 (σ.set 23 T1) := ⟨_, St.set_same .., .inr rfl⟩
theorem tab2_T (σ : St) : Tab2 (σ.set 30 T2) := ⟨_, St.set_same .., .inr rfl⟩
theorem figs_range (x : Int) : ∀ f ∈ figs x, 0 ≤ f ∧ f < 64 := by
  intro f hf
  unfold figs at hf
  rw [Int.fmod_eq_emod_of_nonneg _ (by decide), Int.fmod_eq_emod_of_nonneg _ (by decide), Int.fmod_eq_emod_of_nonneg _ (by decide), Int.fmod_eq_emod_of_nonneg _ (by decide)] at hf
  simp only [List.mem_cons, List.not_mem_nil, or_false] at hf
  rcases hf with rfl | rfl | rfl | rfl <;> omega
noncomputable def val (x : Int) : Int := V64 (figs x)
theorem val_range (x : Int) : 0 ≤ val x ∧ val x < 16777216 := by
  have := V64_bound (figs x) (figs_range x)
  unfold val
  have e : (figs x).length = 4 := rfl
  rw [e] at this
  exact this
noncomputable def txt (w : Nat) : Array UInt8 := byteArr (bAll (bInts (byteArr (octs w)))).1
section
variable {C : Cx} {n : Nat} {σ : St} {ρ : Loc} {L : Addr} {a : Addr × Value}
set_option maxHeartbeats 4000000 in
theorem s0 {sc : Addr} {o : Obj} {zs : List Int} {Q : PF → Loc → St → Prop} (hρ : ρ.lookup (Str.ofString "script") = some (.imm (.ref sc))) (hb : C.B sc = some o) (hcl : o.cls = .type "list") (hdt : ∃ vs m, o.data = .seq vs m ∧ IntsAre vs.toList zs) (hz : zs.length ≤ 1000)
    (hq : ∀ dr σ', SubS σ σ' → σ' dr = some (.list (iL (draw zs))) → Q .next (ρ.put "drawn" (.ref dr)) σ') : WS C n (lawEnv L a) (lawStmt 0) ρ σ Q := by
  show WS C n (lawEnv L a) (.Assign _ _ _) ρ σ Q
  refine WS_Assign rfl ?_
  refine WE_BinOp ?_
  refine WE_List ?_
  walk_at "go"
  refine ⟨by simp, fun b1 hb1 => ?_⟩
  have hs1 : SubS σ (σ.set b1 (.list [.int 0, .int 7, .int 16])) := drop_set hb1
  have hg1 : (σ.set b1 (.list [.int 0, .int 7, .int 16])) b1 = some (.list [.int 0, .int 7, .int 16]) := St.set_same ..
  generalize σ.set b1 (.list [.int 0, .int 7, .int 16]) = σ1 at *
  refine WE_mapB (β := Addr) [] (st := fun b => listSt b) (items := fun _ => iL (zs.take 4)) (side := fun b σ' => σ' b = some (.list (iL (zs.take 4)))) (P0 := fun b σ' => σ' b = some (.list (iL (zs.take 4))) ∧ SubS σ1 σ')
    (fun b i acc σ' => acc = iL (((zs.take 4).map (fun x => x.fmod 24)).take i) ∧ σ' b = some (.list (iL (zs.take 4))) ∧ SubS σ1 σ')
    (fun _ => rfl) rfl rfl (by decide) (fun _ => rfl) (fun _ => rfl) (fun _ => rfl) (fun _ => rfl) (fun b => listOk C b _) ?_ (fun b σ' h => ⟨by simp, h⟩) ?_ ?_
  · refine WItB_of (side := fun b σ' => σ' b = some (.list (iL (zs.take 4)))) ?_
    refine WE_sliceF (fun _ _ => rfl) hb hcl hdt (by omega) ?_
    refine WE_local rfl rfl hρ ?_ rfl
    walk_at "go"
    exact ⟨4, rfl, rfl, fun b hb => ⟨b, listMk C b _, St.set_same .., St.set_same .., drop_set hb⟩⟩
  · rintro b i q acc σ' hi ⟨rfl, h1, h2⟩
    obtain ⟨z, hz', rfl⟩ := map_some hi
    refine ⟨by simp; omega, h1, fun C0 => ?_⟩
    walk_at "go"
    refine WBin_mod (by decide) ?_
    refine ⟨σ', .refl _, ?_, h1, h2⟩
    have : ((zs.take 4).map (fun x => x.fmod 24))[i]? = some (z.fmod 24) := by rw [List.getElem?_map, hz']; rfl
    rw [take_step this]; simp [iL]
  · rintro b acc σ' ⟨rfl, h1, h2⟩
    refine ⟨h1, fun la hla => ?_⟩
    have e : (((zs.take 4).map (fun x => x.fmod 24)).take (iL (zs.take 4)).length) = (zs.take 4).map (fun x => x.fmod 24) := by rw [List.take_of_length_le (by simp)]
    rw [e]
    refine WBin_addL (drop_set hla _ _ (h2 _ _ hg1)) (St.set_same ..) (by simp; omega) fun c hc => ?_
    walk_at "go"
    refine hq c _ ?_ ?_
    · intro x p hx
      exact drop_set hc _ _ (drop_set hla _ _ (h2 _ _ (hs1 _ _ hx)))
    · rw [St.set_same]; simp [draw, iL]
set_option maxHeartbeats 4000000 in
theorem s1 (S : Stat C) {dr : Addr} {xs : List Int} {Q : PF → Loc → St → Prop} (hρ : ρ.lookup (Str.ofString "drawn") = some (.ref dr)) (hσ : σ dr = some (.list (iL xs))) (hz : xs.length ≤ 100) (hT : Tab2 σ) (hc : σ (L + 1) = some (.cell none))
    (hq : ∀ od σ', Keep σ σ' [30, L + 1] → Tab2 σ' → σ' (L + 1) = some (.cell (some (.ref od))) → σ' od = some (.list (iL (inOrder (xs.map val)))) → Q .next ρ σ') : WS C (n + 14) (lawEnv L a) (lawStmt 1) ρ σ Q := by
  show WS C (n + 14) (lawEnv L a) (.Assign _ _ _) ρ σ Q
  refine WS_Assign rfl ?_
  walk_at "go1"
  walk_at "go1"
  have hd30 : dr ≠ 30 := fun z => by obtain ⟨e, h, _⟩ := hT; rw [← z, hσ] at h; cases h
  have hc30 : L + 1 ≠ 30 := fun z => by obtain ⟨e, h, _⟩ := hT; rw [← z, hc] at h; cases h
  refine WE_map [] (st := listSt dr) (items := iL xs) (side := fun σ' => σ' dr = some (.list (iL xs))) (P0 := fun σ' => σ' = σ)
    (fun i acc σ' => acc = iL ((xs.map val).take i) ∧ Keep σ σ' [30] ∧ Tab2 σ')
    (fun _ => rfl) rfl rfl (by decide) (fun _ => rfl) (fun _ => rfl) (fun _ => rfl) (fun _ => rfl) (listOk C dr _) ?_ ?_ ?_ ?_
  · refine WIt_of (side := fun σ' => σ' dr = some (.list (iL xs))) ?_
    refine WE_local rfl rfl hρ ?_ rfl
    exact ⟨listMk C dr _, hσ, rfl⟩
  · rintro σ' rfl
    exact ⟨by simp, .refl _ _, hT⟩
  · rintro i q acc σ' hi ⟨rfl, h1, h2⟩
    obtain ⟨x, hx, rfl⟩ := map_some hi
    refine ⟨by simp; omega, h1 _ _ (by simp [hd30]) hσ, fun C0 => ?_⟩
    walk_at "go"
    refine figures_call S fun b hb => ?_
    walk_at "go"
    obtain ⟨e, he1, he2⟩ := h2.sub (drop_set hb (p := .list (iL (figs x))))
    refine digits2int_call S (St.set_same ..) (by show 4 ≤ 8; decide) (figs_range x) he1 he2 ?_
    refine ⟨_, .refl _, ?_, (h1.new hb).put (by simp), tab2_T _⟩
    have : (xs.map val)[i]? = some (val x) := by rw [List.getElem?_map, hx]; rfl
    rw [take_step this]; simp [iL, val]
  · rintro acc σ' ⟨rfl, h1, h2⟩
    refine ⟨h1 _ _ (by simp [hd30]) hσ, fun la hla => ?_⟩
    have e : ((xs.map val).take (iL xs).length) = xs.map val := by rw [List.take_of_length_le (by simp)]
    rw [e]
    walk_at "go"
    refine in_order_call S (St.set_same ..) (by simp; omega) fun od hod => ?_
    have k2 := (h1.new hla (p := .list (iL (xs.map val)))).new hod (p := .list (iL (inOrder (xs.map val))))
    have hcc := k2 _ _ (by simp [hc30]) hc
    refine WStore_cell (c := L + 1) (v₀ := none) rfl rfl rfl hcc ?_
    refine hq od _ ?_ ?_ (St.set_same ..) ?_
    · intro x p hx hp
      simp at hx
      rw [St.set_ne hx.2]
      exact k2 _ _ (by simp [hx.1]) hp
    · obtain ⟨e, he1, he2⟩ := h2
      exact ⟨e, (St.set_ne (Ne.symm hc30)).trans (drop_set hod _ _ (drop_set hla _ _ he1)), he2⟩
    · have hne : od ≠ L + 1 := fun z => by rw [← z, St.set_same] at hcc; cases hcc
      rw [St.set_ne hne, St.set_same]
theorem dgR84 (w : Nat) : dgR 8 4 w = [((w % 65536 % 256 : Nat) : Int), ((w % 65536 / 256 : Nat) : Int), ((w / 65536 % 256 : Nat) : Int), ((w / 65536 / 256 : Nat) : Int)] := by
  have d1 : ∀ x, dgR 8 1 x = [(x : Int)] := fun x => by rw [dgR, dif_pos (by decide)]
  have d2 : ∀ x, dgR 8 2 x = [((x % 256 : Nat) : Int), ((x / 256 : Nat) : Int)] := fun x => by
    rw [dgR, dif_neg (by decide)]
    show dgR 8 1 (x % 256) ++ dgR 8 1 (x / 256) = _
    rw [d1, d1]; rfl
  rw [dgR, dif_neg (by decide)]
  show dgR 8 2 (w % 65536) ++ dgR 8 2 (w / 65536) = _
  rw [d2, d2]; rfl
theorem octs_eq {w : Nat} (hw : w < 16777216) : octs w = [((w / 65536 : Nat) : Int), ((w / 256 % 256 : Nat) : Int), ((w % 256 : Nat) : Int)] := by
  unfold octs
  rw [dgR84]
  show [(((w + 16777216) / 65536 % 256 : Nat) : Int), (((w + 16777216) % 65536 / 256 : Nat) : Int), (((w + 16777216) % 65536 % 256 : Nat) : Int)] = _
  have e1 : (w + 16777216) / 65536 % 256 = w / 65536 := by omega
  have e2 : (w + 16777216) % 65536 / 256 = w / 256 % 256 := by omega
  have e3 : (w + 16777216) % 65536 % 256 = w % 256 := by omega
  rw [e1, e2, e3]
theorem octs_range {w : Nat} (hw : w < 16777216) : ∀ x ∈ octs w, 0 ≤ x ∧ x < 256 := by
  rw [octs_eq hw]
  intro x hx
  simp only [List.mem_cons, List.not_mem_nil, or_false] at hx
  rcases hx with rfl | rfl | rfl <;> omega
theorem bAll3_lb (b0 b1 b2 : Int) : (bAll [b0, b1, b2]).2.1 = 0 := by
  unfold bAll
  simp only [List.foldl_cons, List.foldl_nil]
  show (wl _ _ _).2 = 0
  rw [wl_lb]
  have h1 : ∀ st b, (bstep st b).2.1 = (st.2.1 + 8) % 6 := fun st b => wl_lb _ _ _
  rw [h1, h1]
  rfl
set_option maxHeartbeats 4000000 in
theorem s2 (S : Stat C) {od : Addr} {vs : List Int} {Q : PF → Loc → St → Prop} (hc : σ (L + 1) = some (.cell (some (.ref od)))) (hσ : σ od = some (.list (iL vs))) (hz : vs.length ≤ 100) (hv : ∀ v ∈ vs, 0 ≤ v ∧ v < 16777216) (hT : Tab1 σ)
    (hq : ∀ tx σ', Keep σ σ' [23] → Tab1 σ' → σ' tx = some (.list ((vs.map fun v => txt v.toNat).map PV.bytes)) → Q .next (ρ.put "texts" (.ref tx)) σ') : WS C (n + 14) (lawEnv L a) (lawStmt 2) ρ σ Q := by
  show WS C (n + 14) (lawEnv L a) (.Assign _ _ _) ρ σ Q
  have hd23 : od ≠ 23 := fun z => by obtain ⟨e, h, _⟩ := hT; rw [← z, hσ] at h; cases h
  refine WS_map [] (st := listSt od) (items := iL vs) (side := fun σ' => σ' od = some (.list (iL vs))) (P0 := fun σ' => σ' = σ)
    (fun i acc σ' => acc = ((vs.map fun v => txt v.toNat).take i).map PV.bytes ∧ Keep σ σ' [23] ∧ Tab1 σ')
    rfl rfl rfl (fun _ => rfl) rfl rfl (by decide) (fun _ => rfl) (fun _ => rfl) (fun _ => rfl) (fun _ => rfl) (listOk C od _) ?_ ?_ ?_ ?_
  · refine WIt_of (side := fun σ' => σ' od = some (.list (iL vs))) ?_
    refine WE_cell rfl rfl rfl hc ?_ rfl
    exact ⟨listMk C od _, hσ, rfl⟩
  · rintro σ' rfl
    exact ⟨by simp, .refl _ _, hT⟩
  · rintro i q acc σ' hi ⟨rfl, h1, h2⟩
    obtain ⟨v, hv', rfl⟩ := map_some hi
    have hvr := hv v (List.mem_of_getElem? hv')
    have ev : v = ((v.toNat : Nat) : Int) := by omega
    refine ⟨by simp; omega, h1 _ _ (by simp [hd23]) hσ, fun C0 => ?_⟩
    walk_at "go"
    rw [ev]
    obtain ⟨e, he1, he2⟩ := h2
    have hw : v.toNat < 16777216 := by omega
    refine octets_call S hw he1 he2 fun b hb => ?_
    walk_at "go"
    refine WCall_bytesL (St.set_same ..) (octs_range hw) (by show 3 ≤ 1000000; decide) ?_
    walk_at "go"
    refine b64_call S (by rw [byteArr_size]; show 3 ≤ 1000; decide) ?_ ?_
    · show (bAll (bInts (byteArr [_, _, _]))).2.1 = 0
      exact bAll3_lb _ _ _
    · have hb23 : b ≠ 23 := fun z => by rw [z, he1] at hb; cases hb
      have hb' : (σ'.set 23 T1) b = none := by rw [St.set_ne hb23]; exact hb
      refine ⟨_, .refl _, ?_, (h1.put (by simp)).new hb', (tab1_T σ').sub (drop_set hb')⟩
      have : (vs.map fun v => txt v.toNat)[i]? = some (txt v.toNat) := by rw [List.getElem?_map, hv']; rfl
      rw [take_step this]; simp [txt]
  · rintro acc σ' ⟨rfl, h1, h2⟩
    refine ⟨h1 _ _ (by simp [hd23]) hσ, fun la hla => ?_⟩
    have e : ((vs.map fun v => txt v.toNat).take (iL vs).length) = vs.map fun v => txt v.toNat := by rw [List.take_of_length_le (by simp)]
    rw [e]
    exact hq la _ (h1.new hla) (h2.sub (drop_set hla)) (St.set_same ..)
end

/-! ## the law's body: rows, far, beside -/


theorem bitXor_or {a b : Nat} : Builtin.bitXor (a : Int) (b : Int) = ((a ||| b : Nat) : Int) - ((a &&& b : Nat) : Int) := by
  have h1 : Builtin.bitAnd (a : Int) (b : Int) = ((a &&& b : Nat) : Int) := by
    unfold Builtin.bitAnd
    rw [decide_eq_true (show (0 : Int) ≤ (a : Int) by (first | lia | omega)), decide_eq_true (show (0 : Int) ≤ (b : Int) by (first | lia | omega))]
    simp
  have h2 : Builtin.bitOr (a : Int) (b : Int) = ((a ||| b : Nat) : Int) := by
    unfold Builtin.bitOr Builtin.bitAnd
    rw [decide_eq_false (show ¬ (0 : Int) ≤ Builtin.bitNot (a : Int) by unfold Builtin.bitNot; (first | lia | omega)), decide_eq_false (show ¬ (0 : Int) ≤ Builtin.bitNot (b : Int) by unfold Builtin.bitNot; (first | lia | omega))]
    have e : ∀ x : Nat, (Builtin.bitNot (Builtin.bitNot (x : Int))).toNat = x := fun x => by unfold Builtin.bitNot; (first | lia | omega)
    simp only [e]
    unfold Builtin.bitNot; (first | lia | omega)
  unfold Builtin.bitXor
  rw [h1, h2]
theorem xor_range {u v : Int} (hu : 0 ≤ u ∧ u < 16777216) (hv : 0 ≤ v ∧ v < 16777216) : 0 ≤ Builtin.bitXor u v ∧ Builtin.bitXor u v < 16777216 := by
  obtain ⟨a, rfl⟩ := Int.eq_ofNat_of_zero_le hu.1
  obtain ⟨b, rfl⟩ := Int.eq_ofNat_of_zero_le hv.1
  rw [bitXor_or]
  have ha : a < 2 ^ 24 := by (first | lia | omega)
  have hb : b < 2 ^ 24 := by (first | lia | omega)
  have h1 : a ||| b < 2 ^ 24 := Nat.or_lt_two_pow ha hb
  have h2 : a &&& b ≤ a := Nat.and_le_left
  have h3 : a ≤ a ||| b := Nat.left_le_or
  (first | lia | omega)
theorem mlen6 {x : Nat} (h : x < 16777216) : mlen 6 x ≤ 8 := by
  unfold mlen
  have : Builtin.Int.intBits (x : Int) ≤ 24 := by
    unfold Builtin.Int.intBits
    split
    · (first | lia | omega)
    · rename_i hx
      have hx0 : x ≠ 0 := by intro z; subst z; exact hx rfl
      have := (Nat.log2_lt hx0 (k := 24)).mpr (by (first | lia | omega))
      show x.log2 + 1 ≤ 24
      (first | lia | omega)
  (first | lia | omega)
noncomputable def dist (u v : Int) : Int := ((i2d 6 (Builtin.bitXor u v).toNat).length : Int)
noncomputable def frow (vs : List Int) (i : Nat) : List Int := (List.range i).map fun j => dist (vs.getD i 0) (vs.getD j 0)
noncomputable def bes (vs : List Int) : List Int := (List.range (vs.length - 1)).map fun i => dist (vs.getD (i + 1) 0) (vs.getD i 0)
theorem frow_get (vs : List Int) {i j : Nat} (h : j < i) : (frow vs i)[j]? = some (dist (vs.getD i 0) (vs.getD j 0)) := by
  unfold frow; simp [h]
section
variable {C : Cx} {n : Nat} {σ : St} {ρ : Loc} {L : Addr} {a : Addr × Value}
set_option maxHeartbeats 4000000 in
theorem s3 (S : Stat C) {dr : Addr} {xs : List Int} {Q : PF → Loc → St → Prop} (hρ : ρ.lookup (Str.ofString "drawn") = some (.ref dr)) (hσ : σ dr = some (.list (iL xs))) (h2 : 2 ≤ xs.length) (h64 : xs.length < 64)
    (hkey : ∀ x ∈ xs, ∀ y ∈ xs, lexI (figs x).reverse (figs y).reverse = decide (val x < val y))
    (hq : ∀ rw σ' (as : List Addr) (ys : List Int), SubS σ σ' → σ' rw = some (.list (as.map PV.ref)) → ys.Perm xs → ys.Pairwise (fun x y => val x ≤ val y) → as.length = ys.length →
      (∀ (i : Nat) (x : Int), ys[i]? = some x → ∃ ad, as[i]? = some ad ∧ σ' ad = some (.list (iL (figs x).reverse))) → Q .next (ρ.put "rows" (.ref rw)) σ') : WS C (n + 14) (lawEnv L a) (lawStmt 3) ρ σ Q := by
  show WS C (n + 14) (lawEnv L a) (.Assign _ _ _) ρ σ Q
  refine WS_Assign rfl ?_
  walk_at "go1"
  walk_at "go1"
  refine WE_map [] (st := listSt dr) (items := iL xs) (side := fun σ' => σ' dr = some (.list (iL xs))) (P0 := fun σ' => σ' = σ)
    (fun i acc σ' => ∃ as : List Addr, acc = as.map PV.ref ∧ as.length = i ∧ (∀ (j : Nat) (ad : Addr), as[j]? = some ad → σ' ad = some (.list (iL (figs (xs.getD j 0)).reverse))) ∧ SubS σ σ')
    (fun _ => rfl) rfl rfl (by decide) (fun _ => rfl) (fun _ => rfl) (fun _ => rfl) (fun _ => rfl) (listOk C dr _) ?_ ?_ ?_ ?_
  · refine WIt_of (side := fun σ' => σ' dr = some (.list (iL xs))) ?_
    refine WE_local rfl rfl hρ ?_ rfl
    exact ⟨listMk C dr _, hσ, rfl⟩
  · rintro σ' rfl
    exact ⟨[], rfl, rfl, fun j ad h => by simp at h, .refl _⟩
  · rintro i q acc σ' hi ⟨as, rfl, rfl, h1, hs⟩
    obtain ⟨x, hx, rfl⟩ := map_some hi
    have hil := (List.getElem?_eq_some_iff.mp hx).1
    have hxd : xs.getD as.length 0 = x := by rw [List.getD_eq_getElem?_getD, hx]; rfl
    refine ⟨by simp; (first | lia | omega), hs _ _ hσ, fun C0 => ?_⟩
    walk_at "go"
    refine figures_call S fun b hb => ?_
    walk_at "go"
    refine WCall_revL (St.set_same ..) fun D hD => ?_
    walk_at "go"
    have hDb : D ≠ b := fun z => by rw [z, St.set_same] at hD; cases hD
    refine WCall_listRev (a := b) (xs := iL (figs x)) (by rw [St.set_ne (Ne.symm hDb), St.set_same]) (St.set_same ..) (by show 4 ≤ 1000000; decide) fun c hc => ?_
    have hcD : c ≠ D := fun z => by rw [z, St.set_same] at hc; cases hc
    have hc1 : (σ'.set b (.list (iL (figs x)))) c = none := by rw [St.set_ne hcD] at hc; exact hc
    have hcb : c ≠ b := fun z => by rw [z, St.set_same] at hc1; cases hc1
    have hc2 : σ' c = none := by rw [St.set_ne hcb] at hc1; exact hc1
    have erev : (iL (figs x)).reverse = iL (figs x).reverse := by simp [iL]
    rw [erev]
    refine ⟨σ'.set c (.list (iL (figs x).reverse)), ?_, as ++ [c], by simp, by simp, ?_, ?_⟩
    · intro ad p hp
      by_cases e1 : ad = c
      · subst e1; rw [St.set_same] at hp ⊢; exact hp
      · rw [St.set_ne e1] at hp ⊢
        have e2 : ad ≠ b := fun z => by rw [z, hb] at hp; cases hp
        have e3 : ad ≠ D := fun z => by rw [z] at hp; rw [St.set_ne hDb, hp] at hD; cases hD
        rw [St.del_ne e3, St.set_ne e3, St.set_ne e2]; exact hp
    · intro j ad hj
      by_cases hjl : j < as.length
      · rw [List.getElem?_append_left hjl] at hj
        exact drop_set hc2 _ _ (h1 j ad hj)
      · have hje : j = as.length := by
          have := (List.getElem?_eq_some_iff.mp hj).1
          simp at this; (first | lia | omega)
        subst hje
        simp at hj; subst hj
        rw [St.set_same, hxd]
    · exact hs.trans (drop_set hc2)
  · rintro acc σ' ⟨as, rfl, hl, h1, hs⟩
    rw [List.length_map] at hl
    refine ⟨hs _ _ hσ, fun la hla => ?_⟩
    walk_at "go"
    have hget : ∀ i, i < xs.length → xs.getD i 0 ∈ xs := fun i hi => by
      rw [List.getD_eq_getElem?_getD, List.getElem?_eq_getElem hi]; exact List.getElem_mem hi
    refine WCall_sortedL (row := fun i => (figs (xs.getD i 0)).reverse) (key := fun i => val (xs.getD i 0)) (len := 4) (as := as) (St.set_same ..) (by (first | lia | omega)) (by (first | lia | omega)) ?_ ?_ ?_
    · intro i ad hi
      exact ⟨drop_set hla _ _ (h1 i ad hi), rfl⟩
    · intro i j hi hj
      exact hkey _ (hget i (by (first | lia | omega))) _ (hget j (by (first | lia | omega)))
    · intro D p hD hpp hps
      walk_at "go"
      have hpin : ∀ i ∈ p, i < xs.length := fun i hi => by have := hpp.mem_iff.mp hi; rw [List.mem_range] at this; (first | lia | omega)
      refine hq D _ (p.map fun i => as.getD i 0) (p.map fun i => xs.getD i 0) ?_ ?_ ?_ ?_ (by simp) ?_
      · exact hs.trans (fun x q hx => drop_set hD _ _ (drop_set hla _ _ hx))
      · rw [St.set_same, List.map_map]; rfl
      · refine (hpp.map _).trans ?_
        have : (List.range as.length).map (fun i => xs.getD i 0) = xs := by
          apply List.ext_getElem
          · simp [hl]
          · intro i h1 h2; simp [List.getD_eq_getElem?_getD, h2]
        rw [this]
      · exact List.pairwise_map.mpr hps
      · intro i x hx
        obtain ⟨k, hk, rfl⟩ := map_some hx
        have hkl := hpin k (List.mem_of_getElem? hk)
        refine ⟨as.getD k 0, by rw [List.getElem?_map, hk]; rfl, ?_⟩
        have hak : as[k]? = some (as.getD k 0) := by simp [List.getD_eq_getElem?_getD, show k < as.length by (first | lia | omega)]
        exact drop_set hD _ _ (drop_set hla _ _ (h1 k _ hak))
theorem getD_some {l : List Int} {i : Nat} (h : i < l.length) : l[i]? = some (l.getD i 0) := by simp [List.getD_eq_getElem?_getD, h]
theorem getD_mem {l : List Int} {i : Nat} (h : i < l.length) : l.getD i 0 ∈ l := List.mem_of_getElem? (getD_some h)
set_option maxHeartbeats 8000000 in
theorem s4 (S : Stat C) {od : Addr} {vs : List Int} {Q : PF → Loc → St → Prop} (hc : σ (L + 1) = some (.cell (some (.ref od)))) (hσ : σ od = some (.list (iL vs))) (hz : vs.length ≤ 100) (hv : ∀ v ∈ vs, 0 ≤ v ∧ v < 16777216) (hT : Tab1 σ) (hf : σ (L + 2) = some (.cell none))
    (hq : ∀ fa σ' (as : List Addr), Keep σ σ' [23, L + 2] → Tab1 σ' → σ' (L + 2) = some (.cell (some (.ref fa))) → σ' fa = some (.list (as.map PV.ref)) → as.length = vs.length → (∀ (j : Nat) (ad : Addr), as[j]? = some ad → σ' ad = some (.list (iL (frow vs j)))) → Q .next ρ σ') :
    WS C (n + 14) (lawEnv L a) (lawStmt 4) ρ σ Q := by
  show WS C (n + 14) (lawEnv L a) (.Assign _ _ _) ρ σ Q
  have n23 : ∀ {b p}, σ b = some p → (∀ e, p ≠ .tab e) → b ≠ 23 := fun hb hp z => by obtain ⟨e, h, _⟩ := hT; rw [z, h] at hb; cases hb; exact hp e rfl
  have hod := n23 hσ (by intro e z; cases z)
  have hc1 := n23 hc (by intro e z; cases z)
  have hf2 := n23 hf (by intro e z; cases z)
  refine WS_Assign rfl ?_
  refine WE_mapC [("order", L + 1)] (st := rangeSt 0 ((vs.length : Int) - 0).toNat 1) (items := rangeItems 0 ((vs.length : Int) - 0).toNat 1) (side := fun _ => True) (P0 := fun σ' => σ' = σ)
    (fun i acc σ' => ∃ as : List Addr, acc = as.map PV.ref ∧ as.length = i ∧ (∀ (j : Nat) (ad : Addr), as[j]? = some ad → σ' ad = some (.list (iL (frow vs j)))) ∧ Keep σ σ' [23] ∧ Tab1 σ')
    (fun _ => rfl) rfl rfl (by decide) (fun _ => rfl) (fun _ => rfl) (fun _ => rfl) (fun _ => rfl) (fun _ => rfl) (fun _ _ _ _ _ => trivial) (rangeOk C 0 ((vs.length : Int) - 0).toNat 1) ?_ ?_ ?_ ?_
  · refine WIt_of (side := fun _ => True) ?_
    walk_at "go"
    refine WE_cell rfl rfl rfl hc ?_ rfl
    walk_at "go"
    refine WCall_len hσ (by simp; (first | lia | omega)) ?_
    walk_at "go"
    refine WCall_range1 ?_
    have : ((iL vs).length : Int) = (vs.length : Int) := by simp
    rw [this]
    exact ⟨rngMk C (by decide) (by (first | lia | omega)) (by decide) (by (first | lia | omega)), trivial, rfl⟩
  · rintro σ' rfl
    exact ⟨[], rfl, rfl, fun j ad h => by simp at h, .refl _ _, hT⟩
  · rintro i q acc σ' hi ⟨as, rfl, rfl, h1, hk, ht⟩
    obtain ⟨hil, rfl⟩ := rangeItems_get hi
    have hil' : as.length < vs.length := by (first | lia | omega)
    have e0 : (0 : Int) + (as.length : Int) * 1 = (as.length : Int) := by (first | lia | omega)
    rw [e0]
    refine ⟨by simp; (first | lia | omega), trivial, fun C0 hC0 => ?_⟩
    have hs2 : SubS σ' (σ'.set (C0 + 1) (.cell (some (.int as.length)))) := drop_set hC0
    have gC : (σ'.set (C0 + 1) (.cell (some (.int as.length)))) (C0 + 1) = some (.cell (some (.int as.length))) := St.set_same ..
    have ht2 := ht.sub hs2
    have hk2 := hk.sub hs2
    have hh1 : ∀ (j : Nat) (ad : Addr), as[j]? = some ad → (σ'.set (C0 + 1) (.cell (some (.int as.length)))) ad = some (.list (iL (frow vs j))) := fun j ad hj => hs2 _ _ (h1 j ad hj)
    have hne : ∀ (j : Nat) (ad : Addr), as[j]? = some ad → ad ≠ C0 + 1 := fun j ad hj z => by have := h1 j ad hj; rw [z, hC0] at this; cases this
    have hkn : ∀ {b p}, b ≠ 23 → σ b = some p → b ≠ C0 + 1 := fun hb hp z => by have := hk _ _ (by simp [hb]) hp; rw [z, hC0] at this; cases this
    have hC23 : C0 + 1 ≠ 23 := fun z => by obtain ⟨e, h, _⟩ := ht; rw [← z, hC0] at h; cases h
    generalize (σ'.set (C0 + 1) (.cell (some (.int as.length)))) = σ2 at *
    refine WE_map [("order", L + 1), ("i", C0 + 1)] (st := rangeSt 0 ((as.length : Int) - 0).toNat 1) (items := rangeItems 0 ((as.length : Int) - 0).toNat 1) (side := fun _ => True) (P0 := fun σ' => σ' = σ2)
      (fun j acc σ3 => acc = iL ((frow vs as.length).take j) ∧ Keep σ2 σ3 [23] ∧ Tab1 σ3)
      (fun _ => rfl) rfl rfl (by decide) (fun _ => rfl) (fun _ => rfl) (fun _ => rfl) (fun _ => rfl) (rangeOk C 0 ((as.length : Int) - 0).toNat 1) ?_ ?_ ?_ ?_
    · refine WIt_of (side := fun _ => True) ?_
      walk_at "go"
      refine WE_cell rfl rfl rfl gC ?_ rfl
      walk_at "go"
      refine WCall_range1 ?_
      exact ⟨rngMk C (by decide) (by (first | lia | omega)) (by decide) (by (first | lia | omega)), trivial, rfl⟩
    · rintro σ3 rfl
      exact ⟨by simp, .refl _ _, ht2⟩
    · rintro j q acc σ3 hj ⟨rfl, k3, t3⟩
      obtain ⟨hjl, rfl⟩ := rangeItems_get hj
      have hjl' : j < as.length := by (first | lia | omega)
      have e1 : (0 : Int) + (j : Int) * 1 = (j : Int) := by (first | lia | omega)
      rw [e1]
      have gc3 := k3 _ _ (by simp [hC23]) gC
      have go3 := k3 _ _ (by simp [hc1]) (hk2 _ _ (by simp [hc1]) hc)
      have gd3 := k3 _ _ (by simp [hod]) (hk2 _ _ (by simp [hod]) hσ)
      refine ⟨by simp; (first | lia | omega), trivial, fun C1 => ?_⟩
      have hu := hv _ (getD_mem (l := vs) hil')
      have hw := hv _ (getD_mem (l := vs) (show j < vs.length by (first | lia | omega)))
      have hxr := xor_range hu hw
      have ex : Builtin.bitXor (vs.getD as.length 0) (vs.getD j 0) = (((Builtin.bitXor (vs.getD as.length 0) (vs.getD j 0)).toNat : Nat) : Int) := by (first | lia | omega)
      walk_at "go"
      refine WE_cell rfl rfl rfl go3 ?_ rfl
      refine WE_cell rfl rfl rfl gc3 ?_ rfl
      refine WSub_list (v := .int (vs.getD as.length 0)) (fun _ _ => rfl) gd3 (by (first | lia | omega)) (by (first | lia | omega)) (by rw [Int.toNat_natCast]; exact map_get (mk := PV.int) vs hil' 0) ?_
      walk_at "go"
      refine WE_cell rfl rfl rfl go3 ?_ rfl
      walk_at "go"
      refine WSub_list (v := .int (vs.getD j 0)) (fun _ _ => rfl) gd3 (by (first | lia | omega)) (by (first | lia | omega)) (by rw [Int.toNat_natCast]; exact map_get (mk := PV.int) vs (by (first | lia | omega)) 0) ?_
      walk_at "go"
      rw [ex]
      obtain ⟨e, he1, he2⟩ := t3
      refine int2digits_call (nn := 6) S (by decide) (by decide) (by (first | lia | omega)) (mlen6 (by (first | lia | omega))) he1 he2 fun b hb => ?_
      walk_at "go"
      have hl8 : (i2d 6 (Builtin.bitXor (vs.getD as.length 0) (vs.getD j 0)).toNat).length ≤ 8 := by
        unfold i2d
        split
        · simp
        · rename_i h0
          rw [dgR_length _ _ _ (mlen_pos (by decide) h0)]
          exact mlen6 (by (first | lia | omega))
      refine WCall_len (St.set_same ..) (by rw [List.length_map]; (first | lia | omega)) ?_
      have hb23 : b ≠ 23 := fun z => by rw [z, he1] at hb; cases hb
      have hb' : (σ3.set 23 T1) b = none := by rw [St.set_ne hb23]; exact hb
      refine ⟨_, .refl _, ?_, (k3.put (by simp)).new hb', (tab1_T σ3).sub (drop_set hb')⟩
      rw [take_step (frow_get vs hjl')]
      simp [iL, dist]
    · rintro acc σ3 ⟨rfl, k3, t3⟩
      refine ⟨trivial, fun la hla => ?_⟩
      have hlen : (rangeItems 0 ((as.length : Int) - 0).toNat 1).length = as.length := by simp [rangeItems]
      have hfl : (frow vs as.length).take as.length = frow vs as.length := by rw [List.take_of_length_le (by simp [frow])]
      rw [hlen, hfl]
      have gc3 := k3 _ _ (by simp [hC23]) gC
      have hlaC : la ≠ C0 + 1 := fun z => by rw [z, gc3] at hla; cases hla
      refine ⟨(σ3.set la (.list (iL (frow vs as.length)))).del (C0 + 1), ?_, St.del_same .., as ++ [la], by simp, by simp, ?_, ?_, ?_⟩
      · intro b p hb
        by_cases e1 : b = C0 + 1
        · subst e1; rw [St.set_same] at hb; rw [St.set_ne (Ne.symm hlaC), gc3]; exact hb
        · rw [St.set_ne e1, St.del_ne e1] at hb; exact hb
      · intro j ad hj
        by_cases hjl : j < as.length
        · rw [List.getElem?_append_left hjl] at hj
          rw [St.del_ne (hne j ad hj)]
          have ad23 : ad ≠ 23 := fun z => by obtain ⟨e, h, _⟩ := ht2; have := hh1 j ad hj; rw [z, h] at this; cases this
          exact drop_set hla _ _ (k3 _ _ (by simp [ad23]) (hh1 j ad hj))
        · have hje : j = as.length := by
            have := (List.getElem?_eq_some_iff.mp hj).1
            simp at this; (first | lia | omega)
          subst hje
          simp at hj; subst hj
          rw [St.del_ne hlaC, St.set_same]
      · intro b p hb23 hb
        have hb23' : b ≠ 23 := by simpa using hb23
        rw [St.del_ne (hkn hb23' hb)]
        exact drop_set hla _ _ (k3 _ _ hb23 (hk2 _ _ hb23 hb))
      · obtain ⟨e, h, h'⟩ := t3
        exact ⟨e, by rw [St.del_ne (Ne.symm hC23)]; exact drop_set hla _ _ h, h'⟩
  · rintro acc σ' ⟨as, rfl, hl, h1, hk, ht⟩
    have hlen : (rangeItems 0 ((vs.length : Int) - 0).toNat 1).length = vs.length := by simp [rangeItems]
    rw [hlen] at hl
    refine ⟨trivial, fun la σ'' hs hla => ?_⟩
    have k2 := (hk.sub hs).new hla (p := .list (as.map PV.ref))
    have hff := k2 _ _ (by simp [hf2]) hf
    refine WStore_cell (c := L + 2) (v₀ := none) rfl rfl rfl hff ?_
    have nL : ∀ {b p}, (σ''.set la (.list (as.map PV.ref))) b = some p → p ≠ .cell none → b ≠ L + 2 := fun hb hp z => by rw [z, hff] at hb; cases hb; exact hp rfl
    refine hq la _ as ?_ ?_ (St.set_same ..) ?_ hl ?_
    · intro b p hb hp
      simp at hb
      rw [St.set_ne hb.2]
      exact k2 _ _ (by simp [hb.1]) hp
    · obtain ⟨e, h, h'⟩ := (ht.sub hs).sub (drop_set hla)
      exact ⟨e, by rw [St.set_ne (Ne.symm hf2)]; exact h, h'⟩
    · have hne : la ≠ L + 2 := fun z => by rw [← z, St.set_same] at hff; cases hff
      rw [St.set_ne hne, St.set_same]
    · intro j ad hj
      have g := drop_set hla (p := .list (as.map PV.ref)) _ _ (hs _ _ (h1 j ad hj))
      rw [St.set_ne (nL g (by intro z; cases z))]
      exact g
theorem bes_get (vs : List Int) {i : Nat} (h : i < vs.length - 1) : (bes vs)[i]? = some (dist (vs.getD (i + 1) 0) (vs.getD i 0)) := by
  unfold bes; simp [h]
set_option maxHeartbeats 8000000 in
theorem s5 (S : Stat C) {od fa : Addr} {as : List Addr} {vs : List Int} {Q : PF → Loc → St → Prop} (hc : σ (L + 1) = some (.cell (some (.ref od)))) (hσ : σ od = some (.list (iL vs))) (h1 : 1 ≤ vs.length) (hz : vs.length ≤ 100) (hf : σ (L + 2) = some (.cell (some (.ref fa)))) (hfa : σ fa = some (.list (as.map PV.ref))) (hl : as.length = vs.length)
    (hrow : ∀ (j : Nat) (ad : Addr), as[j]? = some ad → σ ad = some (.list (iL (frow vs j))))
    (hq : ∀ be, σ be = none → Q .next (ρ.put "beside" (.ref be)) (σ.set be (.list (iL (bes vs))))) : WS C (n + 14) (lawEnv L a) (lawStmt 5) ρ σ Q := by
  show WS C (n + 14) (lawEnv L a) (.Assign _ _ _) ρ σ Q
  refine WS_map [("far", L + 2)] (st := rangeSt 1 ((vs.length : Int) - 1).toNat 1) (items := rangeItems 1 ((vs.length : Int) - 1).toNat 1) (side := fun _ => True) (P0 := fun σ' => σ' = σ)
    (fun i acc σ' => acc = iL ((bes vs).take i) ∧ σ' = σ)
    rfl rfl rfl (fun _ => rfl) rfl rfl (by decide) (fun _ => rfl) (fun _ => rfl) (fun _ => rfl) (fun _ => rfl) (rangeOk C 1 ((vs.length : Int) - 1).toNat 1) ?_ ?_ ?_ ?_
  · refine WIt_of (side := fun _ => True) ?_
    walk_at "go"
    refine WE_cell rfl rfl rfl hc ?_ rfl
    walk_at "go"
    refine WCall_len hσ (by simp; (first | lia | omega)) ?_
    walk_at "go"
    refine WCall_range2 ?_
    have : ((iL vs).length : Int) = (vs.length : Int) := by simp
    rw [this]
    exact ⟨rngMk C (by decide) (by (first | lia | omega)) (by decide) (by (first | lia | omega)), trivial, rfl⟩
  · rintro σ' rfl
    exact ⟨by simp, rfl⟩
  · rintro i q acc σ' hi ⟨rfl, rfl⟩
    obtain ⟨hil, rfl⟩ := rangeItems_get hi
    have hil' : i < vs.length - 1 := by (first | lia | omega)
    have e0 : (1 : Int) + (i : Int) * 1 = ((i + 1 : Nat) : Int) := by (first | lia | omega)
    have e1 : ((i + 1 : Nat) : Int) - 1 = ((i : Nat) : Int) := by (first | lia | omega)
    rw [e0]
    have hbl : (bes vs).length ≤ 100 := by unfold bes; simp; (first | lia | omega)
    refine ⟨by simp; (first | lia | omega), trivial, fun C0 => ?_⟩
    walk_at "go"
    refine WE_cell rfl rfl rfl hf ?_ rfl
    walk_at "go"
    refine WSub_list (v := .ref (as.getD (i + 1) 0)) (fun _ _ => rfl) hfa (by (first | lia | omega)) (by (first | lia | omega)) (by rw [Int.toNat_natCast]; exact map_get (mk := PV.ref) as (by (first | lia | omega)) 0) ?_
    walk_at "go"
    rw [e1]
    have hr := hrow (i + 1) (as.getD (i + 1) 0) (by simp [List.getD_eq_getElem?_getD, show i + 1 < as.length by (first | lia | omega)])
    refine WSub_list (v := .int (dist (vs.getD (i + 1) 0) (vs.getD i 0))) (fun _ _ => rfl) hr (by (first | lia | omega)) (by (first | lia | omega)) (by rw [Int.toNat_natCast, List.getElem?_map, frow_get vs (Nat.lt_succ_self i)]; rfl) ?_
    refine ⟨_, .refl _, ?_, rfl⟩
    rw [take_step (bes_get vs hil')]; simp [iL]
  · rintro acc σ' ⟨rfl, rfl⟩
    refine ⟨trivial, fun la hla => ?_⟩
    have hlen : (bes vs).take (rangeItems 1 ((vs.length : Int) - 1).toNat 1).length = bes vs := by
      rw [List.take_of_length_le]; unfold bes rangeItems; simp
    rw [hlen]
    exact hq la hla
end

/-! ## the law's body: the checks -/


noncomputable def sig (x : Int) : Array UInt8 := byteArr ((figs x).reverse.map sgn)
theorem sgn_range {f : Int} (h : 0 ≤ f ∧ f < 64) : 0 ≤ sgn f ∧ sgn f < 256 := by
  unfold sgn
  split
  · (first | lia | omega)
  · split
    · (first | lia | omega)
    · split
      · (first | lia | omega)
      · split <;> decide
section
variable {C : Cx} {n : Nat} {σ : St} {ρ : Loc} {L : Addr} {a : Addr × Value}
set_option maxHeartbeats 8000000 in
theorem s6 (S : Stat C) {tx rw : Addr} {as : List Addr} {ys : List Int} {T : List (Array UInt8)} {Q : PF → Loc → St → Prop} (hρ : ρ.lookup (Str.ofString "texts") = some (.ref tx)) (hρ2 : ρ.lookup (Str.ofString "rows") = some (.ref rw))
    (hσ : σ tx = some (.list (T.map PV.bytes))) (hrw : σ rw = some (.list (as.map PV.ref))) (hl : as.length = ys.length) (hz : ys.length ≤ 100)
    (hrow : ∀ (i : Nat) (x : Int), ys[i]? = some x → ∃ ad, as[i]? = some ad ∧ σ ad = some (.list (iL (figs x).reverse))) (hEq : T = ys.map sig)
    (hq : ∀ σ', SubS σ σ' → Q .next ρ σ') : WS C (n + 14) (lawEnv L a) (lawStmt 6) ρ σ Q := by
  show WS C (n + 14) (lawEnv L a) (.If _ _ _ _) ρ σ Q
  refine WS_If ?_
  refine WT_Compare rfl ?_
  refine WE_local rfl rfl hρ ?_ rfl
  refine WE_map [] (st := listSt rw) (items := as.map PV.ref) (side := fun σ' => σ' rw = some (.list (as.map PV.ref))) (P0 := fun σ' => σ' = σ)
    (fun i acc σ' => acc = ((ys.map sig).take i).map PV.bytes ∧ SubS σ σ')
    (fun _ => rfl) rfl rfl (by decide) (fun _ => rfl) (fun _ => rfl) (fun _ => rfl) (fun _ => rfl) (listOk C rw _) ?_ ?_ ?_ ?_
  · refine WIt_of (side := fun σ' => σ' rw = some (.list (as.map PV.ref))) ?_
    refine WE_local rfl rfl hρ2 ?_ rfl
    exact ⟨listMk C rw _, hrw, rfl⟩
  · rintro σ' rfl
    exact ⟨by simp, .refl _⟩
  · rintro i q acc σ' hi ⟨rfl, hs⟩
    obtain ⟨ad, had, rfl⟩ := map_some hi
    have hil : i < ys.length := by have := (List.getElem?_eq_some_iff.mp had).1; (first | lia | omega)
    obtain ⟨ad', had', hrd⟩ := hrow i _ (getD_some hil)
    rw [had] at had'; cases had'
    generalize hx : ys.getD i 0 = x at *
    have hyx : ys[i]? = some x := by rw [getD_some hil, hx]
    refine ⟨by simp; (first | lia | omega), hs _ _ hrw, fun C0 => ?_⟩
    walk_at "go1"
    walk_at "go1"
    refine WE_map [] (st := listSt ad) (items := iL (figs x).reverse) (side := fun σ' => σ' ad = some (.list (iL (figs x).reverse))) (P0 := fun σ2 => σ2 = σ')
      (fun j acc σ2 => acc = iL (((figs x).reverse.map sgn).take j) ∧ σ2 = σ')
      (fun _ => rfl) rfl rfl (by decide) (fun _ => rfl) (fun _ => rfl) (fun _ => rfl) (fun _ => rfl) (listOk C ad _) ?_ ?_ ?_ ?_
    · refine WIt_of (side := fun σ' => σ' ad = some (.list (iL (figs x).reverse))) ?_
      refine WE_local rfl rfl rfl ?_ rfl
      exact ⟨listMk C ad _, hs _ _ hrd, rfl⟩
    · rintro σ2 rfl
      exact ⟨by simp, rfl⟩
    · rintro j q acc σ2 hj ⟨rfl, rfl⟩
      obtain ⟨f, hf, rfl⟩ := map_some hj
      have f4 : (figs x).length = 4 := rfl
      refine ⟨by simp; (first | lia | omega), hs _ _ hrd, fun C1 => ?_⟩
      walk_at "go"
      refine sign_call S ?_
      refine ⟨_, .refl _, ?_, rfl⟩
      have : ((figs x).reverse.map sgn)[j]? = some (sgn f) := by rw [List.getElem?_map, hf]; rfl
      rw [take_step this]; simp [iL]
    · rintro acc σ2 ⟨rfl, rfl⟩
      refine ⟨hs _ _ hrd, fun la hla => ?_⟩
      have e : ((figs x).reverse.map sgn).take (iL (figs x).reverse).length = (figs x).reverse.map sgn := by rw [List.take_of_length_le (by simp)]
      rw [e]
      walk_at "go"
      have f4 : (figs x).length = 4 := rfl
      refine WCall_bytesL (St.set_same ..) ?_ (by simp; (first | lia | omega)) ?_
      · intro y hy
        obtain ⟨f, hf, rfl⟩ := List.mem_map.mp hy
        exact sgn_range (figs_range x f (List.mem_reverse.mp hf))
      · refine ⟨σ2, drop_set hla, ?_, hs⟩
        have : (ys.map sig)[i]? = some (sig x) := by rw [List.getElem?_map, hyx]; rfl
        rw [take_step this]; simp [sig]
  · rintro acc σ' ⟨rfl, hs⟩
    refine ⟨hs _ _ hrw, fun la hla => ?_⟩
    have e : (ys.map sig).take (as.map PV.ref).length = ys.map sig := by rw [List.take_of_length_le (by simp [hl])]
    rw [e]
    refine WCmp_neB (xs := T) (ys := ys.map sig) (drop_set hla _ _ (hs _ _ hσ)) (St.set_same ..) ?_
    rw [decide_eq_true hEq]
    refine WTru_bool ⟨fun h => (nomatch h), fun _ => ?_⟩
    refine WSs_nil ?_
    exact hq _ (hs.trans (drop_set hla))
noncomputable abbrev lρ (dr tx be : Addr) : Loc := [(Str.ofString "drawn", PV.ref dr), (Str.ofString "texts", PV.ref tx), (Str.ofString "beside", PV.ref be)]
structure LCtx (σ : St) (L od fa tx be dr : Addr) (as : List Addr) (vs xs : List Int) (T : List (Array UInt8)) : Prop where
  co : σ (L + 1) = some (.cell (some (.ref od)))
  od : σ od = some (.list (iL vs))
  cf : σ (L + 2) = some (.cell (some (.ref fa)))
  fa : σ fa = some (.list (as.map PV.ref))
  len : as.length = vs.length
  row : ∀ (j : Nat) (ad : Addr), as[j]? = some ad → σ ad = some (.list (iL (frow vs j)))
  be : σ be = some (.list (iL (bes vs)))
  tx : σ tx = some (.list (T.map PV.bytes))
  dr : σ dr = some (.list (iL xs))
  tl : T.length = vs.length
  n1 : 2 ≤ vs.length
  n2 : vs.length ≤ 100
theorem LCtx.sub {σ σ' : St} {L od fa tx be dr : Addr} {as : List Addr} {vs xs : List Int} {T : List (Array UInt8)} (h : LCtx σ L od fa tx be dr as vs xs T) (k : SubS σ σ') : LCtx σ' L od fa tx be dr as vs xs T :=
  { h with co := k _ _ h.co, od := k _ _ h.od, cf := k _ _ h.cf, fa := k _ _ h.fa, row := fun j ad hj => k _ _ (h.row j ad hj), be := k _ _ h.be, tx := k _ _ h.tx, dr := k _ _ h.dr }
set_option maxHeartbeats 8000000 in
theorem s7 (S : Stat C) {od fa tx be dr : Addr} {as : List Addr} {vs xs : List Int} {T : List (Array UInt8)} {Q : PF → Loc → St → Prop} (H : LCtx σ L od fa tx be dr as vs xs T)
    (hsz : ∀ t ∈ T, t.size ≤ 1000)
    (hB1 : ∀ i j, j < i → i < vs.length → ∀ x, x ∈ ((bes vs).drop j).take (i - j) → (∀ y ∈ ((bes vs).drop j).take (i - j), y ≤ x) → dist (vs.getD i 0) (vs.getD j 0) = x)
    (hB2 : ∀ i j, j < i → i < vs.length → dist (vs.getD i 0) (vs.getD j 0) = 4 - (cmn (T.getD i #[]).toList (T.getD j #[]).toList : Int))
    (hρ : LSub (lρ dr tx be) ρ) (hq : ∀ σ', SubS σ σ' → Q .next (lρ dr tx be) σ') : WS C (n + 14) (lawEnv L a) (lawStmt 7) ρ σ Q := by
  show WS C (n + 14) (lawEnv L a) (.For _ _ _ _ _) ρ σ Q
  have n1 := H.n1
  have n2 := H.n2
  refine WS_For (fun i ρ' σ' => ρ' = lρ dr tx be ∧ SubS σ σ') (lρ dr tx be) (fun _ => rfl) (fun _ _ => rfl) (rangeOk C 0 ((vs.length : Int) - 0).toNat 1) hρ ?_ ?_ ?_
  · refine WIt_of (side := fun _ => True) ?_
    walk_at "go"
    refine WE_cell rfl rfl rfl H.co ?_ rfl
    walk_at "go"
    refine WCall_len H.od (by simp; (first | lia | omega)) ?_
    walk_at "go"
    refine WCall_range1 ?_
    have : ((iL vs).length : Int) = (vs.length : Int) := by simp
    rw [this]
    exact ⟨rngMk C (by decide) (by (first | lia | omega)) (by decide) (by (first | lia | omega)), trivial, rfl, .refl _⟩
  · rintro i p ρ' σ' hi ⟨rfl, hs⟩
    obtain ⟨hil, rfl⟩ := rangeItems_get hi
    have hil' : i < vs.length := by (first | lia | omega)
    have e0 : (0 : Int) + (i : Int) * 1 = (i : Int) := by (first | lia | omega)
    rw [e0]
    refine ⟨trivial, ?_⟩
    walk_at "go"
    refine WS_For (fun j ρ' σ' => ρ' = (lρ dr tx be ++ [(Str.ofString "i", PV.int i)]) ∧ SubS σ σ') (lρ dr tx be ++ [(Str.ofString "i", PV.int i)]) (fun _ => rfl) (fun _ _ => rfl) (rangeOk C 0 ((i : Int) - 0).toNat 1) ⟨rfl, rfl, rfl, rfl, trivial⟩ ?_ ?_ ?_
    · refine WIt_of (side := fun _ => True) ?_
      walk_at "go"
      refine WCall_range1 ?_
      exact ⟨rngMk C (by decide) (by (first | lia | omega)) (by decide) (by (first | lia | omega)), trivial, rfl, hs⟩
    · rintro j p ρ' σ2 hj ⟨rfl, hs2⟩
      obtain ⟨hjl, rfl⟩ := rangeItems_get hj
      have hji : j < i := by (first | lia | omega)
      have e1 : (0 : Int) + (j : Int) * 1 = (j : Int) := by (first | lia | omega)
      rw [e1]
      have H2 := H.sub hs2
      refine ⟨trivial, ?_⟩
      have hai : as[i]? = some (as.getD i 0) := by simp [List.getD_eq_getElem?_getD, show i < as.length by have := H.len; (first | lia | omega)]
      have farij : ∀ {σ3 : St} {Q : PV → St → Prop} {value slice : Expr}, LCtx σ3 L od fa tx be dr as vs xs T → Q (.int (dist (vs.getD i 0) (vs.getD j 0))) σ3 → (∀ o k, subscripted slice false o k = operate [o, k] (getItem o k)) → WSub C (n + 14) value slice (.ref (as.getD i 0)) (.int j) σ3 Q := by
        intro σ3 Q value slice h3 hq3 hss
        refine WSub_list (v := .int (dist (vs.getD i 0) (vs.getD j 0))) hss (h3.row i _ hai) (by (first | lia | omega)) (by (first | lia | omega)) (by rw [Int.toNat_natCast, List.getElem?_map, frow_get vs hji]; rfl) hq3
      have frow1 : ∀ {σ3 : St} {Q : PV → St → Prop} {value slice : Expr}, LCtx σ3 L od fa tx be dr as vs xs T → Q (.ref (as.getD i 0)) σ3 → (∀ o k, subscripted slice false o k = operate [o, k] (getItem o k)) → WSub C (n + 14) value slice (.ref fa) (.int i) σ3 Q := by
        intro σ3 Q value slice h3 hq3 hss
        refine WSub_list (v := .ref (as.getD i 0)) hss h3.fa (by (first | lia | omega)) (by (first | lia | omega)) (by rw [Int.toNat_natCast]; exact map_get (mk := PV.ref) as (by have := h3.len; (first | lia | omega)) 0) hq3
      have hbl : (bes vs).length = vs.length - 1 := by unfold bes; simp
      walk_at "go"
      refine WE_cell rfl rfl rfl H2.cf ?_ rfl
      walk_at "go"
      refine frow1 H2 ?_ (fun _ _ => rfl)
      walk_at "go"
      refine farij H2 ?_ (fun _ _ => rfl)
      walk_at "go1"
      walk_at "go1"
      refine WE_sliceL (fun _ _ => rfl) ?_
      walk_at "go"
      refine ⟨be, iL (bes vs), j, i, rfl, rfl, rfl, H2.be, by (first | lia | omega), by rw [List.length_map]; (first | lia | omega), by rw [List.length_map]; (first | lia | omega), fun b hb => ?_⟩
      walk_at "go"
      have esl : ((iL (bes vs)).drop j).take (i - j) = iL (((bes vs).drop j).take (i - j)) := by simp [iL, List.map_take, List.map_drop]
      rw [esl]
      have hs3 : SubS σ2 (σ2.set b (.list (iL (((bes vs).drop j).take (i - j))))) := drop_set hb
      have gb : (σ2.set b (.list (iL (((bes vs).drop j).take (i - j))))) b = some (.list (iL (((bes vs).drop j).take (i - j)))) := St.set_same ..
      generalize (σ2.set b (.list (iL (((bes vs).drop j).take (i - j))))) = σ3 at *
      have H3 := H2.sub hs3
      refine WCall_maxL gb ?_ fun x hx hmax => ?_
      · intro z
        have := congrArg List.length z
        simp at this; (first | lia | omega)
      have hd := hB1 i j hji hil' x hx hmax
      refine WCmp_ne ?_
      rw [hd]
      refine WTru_bool ⟨fun h => ?_, fun _ => ?_⟩
      · simp at h
      walk_at "go"
      refine WE_cell rfl rfl rfl H3.cf ?_ rfl
      walk_at "go"
      refine frow1 H3 ?_ (fun _ _ => rfl)
      walk_at "go"
      refine farij H3 ?_ (fun _ _ => rfl)
      walk_at "go"
      have tg : ∀ k, k < vs.length → (T.map PV.bytes)[k]? = some (.bytes (T.getD k #[])) := fun k hk => by
        have := H.tl
        simp [List.getD_eq_getElem?_getD, show k < T.length by (first | lia | omega)]
      have ts : ∀ k, k < vs.length → (T.getD k #[]).size ≤ 1000 := fun k hk => by
        have := H.tl
        refine hsz _ (List.mem_of_getElem? (i := k) ?_)
        simp [List.getD_eq_getElem?_getD, show k < T.length by (first | lia | omega)]
      refine WSub_list (v := .bytes (T.getD i #[])) (fun _ _ => rfl) H3.tx (by (first | lia | omega)) (by (first | lia | omega)) (by rw [Int.toNat_natCast]; exact tg i hil') ?_
      walk_at "go"
      refine WSub_list (v := .bytes (T.getD j #[])) (fun _ _ => rfl) H3.tx (by (first | lia | omega)) (by (first | lia | omega)) (by rw [Int.toNat_natCast]; exact tg j (by (first | lia | omega))) ?_
      walk_at "go"
      refine common_call S (ts i hil') (ts j (by (first | lia | omega))) ?_
      walk_at "go"
      have h2 := hB2 i j hji hil'
      rw [← h2]
      refine ⟨fun h => by simp at h, fun _ => ?_⟩
      walk_at "go"
      refine ⟨fun h => (nomatch h), fun _ => ?_⟩
      walk_at "go"
      exact ⟨(lρ dr tx be ++ [(Str.ofString "i", PV.int i)]), σ3, ⟨rfl, rfl, rfl, rfl, trivial⟩, .refl _, rfl, hs2.trans hs3⟩
    · rintro ρ' σ2 ⟨rfl, hs2⟩
      refine ⟨trivial, ?_⟩
      walk_at "go"
      exact ⟨lρ dr tx be, σ2, ⟨rfl, rfl, rfl, trivial⟩, .refl _, rfl, hs2⟩
  · rintro ρ' σ' ⟨rfl, hs⟩
    exact ⟨trivial, hq σ' hs⟩
end

/-! ## the law's body: the last checks -/


theorem dist_range {u v : Int} (hu : 0 ≤ u ∧ u < 16777216) (hv : 0 ≤ v ∧ v < 16777216) : 0 ≤ dist u v ∧ dist u v ≤ 8 := by
  unfold dist
  have hx := xor_range hu hv
  have : (i2d 6 (Builtin.bitXor u v).toNat).length ≤ 8 := by
    unfold i2d
    split
    · simp
    · rename_i h0
      rw [dgR_length _ _ _ (mlen_pos (by decide) h0)]
      exact mlen6 (by (first | lia | omega))
  (first | lia | omega)
/-- the fronts of the texts -/
noncomputable def fronts (T : List (Array UInt8)) : List (Array UInt8) := T.flatMap fun t => (List.range 4).map fun m => (t.toList.take (m + 1)).toArray
noncomputable def pairX (vs : List Int) : List Int := (List.range vs.length).flatMap fun i => (List.range i).map fun j => Builtin.bitXor (vs.getD i 0) (vs.getD j 0)
noncomputable def besX (vs : List Int) : List Int := (List.range (vs.length - 1)).map fun i => Builtin.bitXor (vs.getD (i + 1) 0) (vs.getD i 0)
theorem flat_step {α β : Type} {f : α → List β} {l : List α} {i : Nat} {x : α} (h : l[i]? = some x) : (l.take (i + 1)).flatMap f = (l.take i).flatMap f ++ f x := by
  rw [take_step h, List.flatMap_append]; simp
theorem flat_len {α β : Type} {f : α → List β} {B : Nat} : ∀ (l : List α), (∀ x ∈ l, (f x).length ≤ B) → (l.flatMap f).length ≤ l.length * B
  | [], _ => by simp
  | x :: l, h => by
    have := flat_len (f := f) l fun y hy => h y (.tail _ hy)
    have h1 := h x (.head _)
    rw [List.flatMap_cons, List.length_append, List.length_cons, Nat.add_mul]
    (first | lia | omega)
theorem emptyOk (C : Cx) : ItOk C [] (fun _ => True) (fun _ _ => False) where
  idle _ _ h := h.elim
  next := by intro i p F L ρ σ A s E K ita o hp; simp at hp
  fin := by intro i F L ρ σ A s E K ita o _ _ _ _ _ h; exact h.elim
  again := by intro i A s E K ita o _ h; exact h.elim
section
variable {C : Cx} {n : Nat} {σ : St} {ρ : Loc} {L : Addr} {a : Addr × Value}
set_option maxHeartbeats 8000000 in
theorem s8 (S : Stat C) {od fa tx be dr : Addr} {as : List Addr} {vs xs : List Int} {T : List (Array UInt8)} {Q : PF → Loc → St → Prop} (H : LCtx σ L od fa tx be dr as vs xs T)
    (hv : ∀ v ∈ vs, 0 ≤ v ∧ v < 16777216) (hxl : xs.length = vs.length) (hx : ∀ x ∈ xs, 0 ≤ x ∧ x < 24) {J : List IP → List Int → Int → Prop} (hJ : NetJ J (fun i j => (frow vs i).getD j 0) vs.length (xs.sum.fmod xs.length) (fun t => t = (bes vs).sum))
    (hq : Q .next (lρ dr tx be) σ) : WS C (n + 14) (lawEnv L a) (lawStmt 8) (lρ dr tx be) σ Q := by
  show WS C (n + 14) (lawEnv L a) (.If _ _ _ _) _ σ Q
  have n1 := H.n1
  have n2 := H.n2
  have hbr : ∀ x ∈ bes vs, 0 ≤ x ∧ x ≤ 1000000 := by
    intro x hx
    unfold bes at hx
    obtain ⟨i, hi, rfl⟩ := List.mem_map.mp hx
    rw [List.mem_range] at hi
    have := dist_range (hv _ (getD_mem (l := vs) (show i + 1 < vs.length by (first | lia | omega)))) (hv _ (getD_mem (l := vs) (show i < vs.length by (first | lia | omega))))
    (first | lia | omega)
  have hbl : (bes vs).length ≤ 1000000 := by unfold bes; simp; (first | lia | omega)
  walk_at "go"
  refine WE_cell rfl rfl rfl H.cf ?_ rfl
  walk_at "go"
  refine WCall_sumL H.dr (fun x h => by have := hx x h; (first | lia | omega)) (by (first | lia | omega)) ?_
  walk_at "go"
  refine WCall_len H.dr (by rw [List.length_map]; (first | lia | omega)) ?_
  rw [List.length_map]
  refine WBin_mod (by (first | lia | omega)) ?_
  walk_at "go"
  refine net_call (rows := frow vs) (N := vs.length) (ras := as) S H.fa H.len (by (first | lia | omega)) ?_ (J := J) ?_
  · intro i hi
    have := H.len
    exact ⟨H.row i _ (by simp [List.getD_eq_getElem?_getD, show i < as.length by (first | lia | omega)]), by simp [frow]⟩
  · refine { hJ with fin := fun held tot hj => ?_ }
    have ht := hJ.fin held tot hj
    subst ht
    walk_at "go"
    refine WCall_sumL H.be hbr hbl ?_
    walk_at "go"
    refine ⟨fun h => by simp at h, fun _ => ?_⟩
    walk_at "go"
    exact hq
set_option maxHeartbeats 8000000 in
theorem s9 (S : Stat C) {od fa tx be dr : Addr} {as : List Addr} {vs xs : List Int} {T : List (Array UInt8)} {Q : PF → Loc → St → Prop} (H : LCtx σ L od fa tx be dr as vs xs T)
    (hv : ∀ v ∈ vs, 0 ≤ v ∧ v < 16777216) (hsz : ∀ t ∈ T, t.size ≤ 1000) (hD : ((dd ((fronts T).map (·.toList))).length : Int) = 4 + (bes vs).sum)
    (hq : ∀ σ', SubS σ σ' → Q .next (lρ dr tx be) σ') : WS C (n + 14) (lawEnv L a) (lawStmt 9) (lρ dr tx be) σ Q := by
  show WS C (n + 14) (lawEnv L a) (.If _ _ _ _) _ σ Q
  have n1 := H.n1
  have n2 := H.n2
  have tl := H.tl
  have hbr : ∀ x ∈ bes vs, 0 ≤ x ∧ x ≤ 1000000 := by
    intro x hx
    unfold bes at hx
    obtain ⟨i, hi, rfl⟩ := List.mem_map.mp hx
    rw [List.mem_range] at hi
    have := dist_range (hv _ (getD_mem (l := vs) (show i + 1 < vs.length by (first | lia | omega)))) (hv _ (getD_mem (l := vs) (show i < vs.length by (first | lia | omega))))
    (first | lia | omega)
  have hbl : (bes vs).length ≤ 1000000 := by unfold bes; simp; (first | lia | omega)
  have hfl : ∀ T' : List (Array UInt8), (fronts T').length = 4 * T'.length := by
    intro T'
    induction T' with
    | nil => rfl
    | cons t T' ih =>
      unfold fronts at ih ⊢
      rw [List.flatMap_cons, List.length_append, ih]; simp; (first | lia | omega)
  refine WS_If (WT_Compare rfl ?_)
  walk_at "go1"
  walk_at "go1"
  walk_at "go1"
  walk_at "go1"
  refine WE_two [] (st := listSt tx) (items := T.map PV.bytes) (side := fun σ' => σ' tx = some (.list (T.map PV.bytes))) (P0 := fun σ' => σ' = σ)
    (fun i acc σ' => acc = (fronts (T.take i)).map PV.bytes ∧ σ' = σ)
    (fun _ => rangeItems 1 ((5 : Int) - 1).toNat 1) (fun _ _ => True) (fun _ => rangeSt 1 ((5 : Int) - 1).toNat 1)
    (fun i q j acc σ' => ∃ t, T[i]? = some t ∧ acc = (fronts (T.take i) ++ ((List.range 4).map fun m => (t.toList.take (m + 1)).toArray).take j).map PV.bytes ∧ σ' = σ)
    (fun _ => rfl) rfl rfl (by decide) (fun _ => rfl) (fun _ => rfl) (fun _ => rfl) (fun _ => rfl) (fun _ => rfl) (by decide) (fun _ _ => rfl) (listOk C tx _) (fun _ => rangeOk C 1 ((5 : Int) - 1).toNat 1) ?_ ?_ ?_ ?_ ?_ ?_
  · refine WIt_of (side := fun σ' => σ' tx = some (.list (T.map PV.bytes))) ?_
    refine WE_local rfl rfl rfl ?_ rfl
    exact ⟨listMk C tx _, H.tx, rfl⟩
  · rintro σ' rfl
    exact ⟨by simp [fronts], rfl⟩
  · rintro i q acc σ' hi ⟨rfl, rfl⟩
    obtain ⟨t, ht, rfl⟩ := map_some hi
    refine ⟨H.tx, fun C0 => ?_⟩
    refine WIt_of (side := fun _ => True) ?_
    walk_at "go"
    refine WCall_range2 ?_
    exact ⟨rngMk C (by decide) (by decide) (by decide) (by decide), trivial, t, ht, by simp, rfl⟩
  · rintro i q j r acc σ' hi hj ⟨t, ht, rfl, rfl⟩
    obtain ⟨t', ht', rfl⟩ := map_some hi
    rw [ht] at ht'; cases ht'
    obtain ⟨hjl, rfl⟩ := rangeItems_get hj
    have hj4 : j < 4 := hjl
    have hTi := (List.getElem?_eq_some_iff.mp ht).1
    have e1 : (1 : Int) + (j : Int) * 1 = ((j + 1 : Nat) : Int) := by (first | lia | omega)
    rw [e1]
    refine ⟨by simp [hfl]; (first | lia | omega), trivial, fun C0 => ?_⟩
    refine WE_sliceB (fun _ _ => rfl) ?_
    walk_at "go"
    refine ⟨t, j + 1, rfl, rfl, by have := hsz t (List.mem_of_getElem? ht); (first | lia | omega), ?_⟩
    refine ⟨_, .refl _, t, ht, ?_, rfl⟩
    have : ((List.range 4).map fun m => (t.toList.take (m + 1)).toArray)[j]? = some (t.toList.take (j + 1)).toArray := by simp [hj4]
    rw [take_step this]; simp
  · rintro i q acc σ' hi ⟨t, ht, rfl, rfl⟩
    refine ⟨trivial, ?_, rfl⟩
    have e : ((List.range 4).map fun m => (t.toList.take (m + 1)).toArray).take (rangeItems 1 ((5 : Int) - 1).toNat 1).length = (List.range 4).map fun m => (t.toList.take (m + 1)).toArray := rfl
    rw [e]
    unfold fronts
    rw [flat_step ht]
  · rintro acc σ' ⟨rfl, rfl⟩
    refine ⟨H.tx, fun la hla => ?_⟩
    have e : T.take (T.map PV.bytes).length = T := by rw [List.take_of_length_le (by simp)]
    rw [e]
    walk_at "go"
    refine WCall_setB (xs := fronts T) (St.set_same ..) (by rw [hfl]; (first | lia | omega)) fun D o hDn ho => ?_
    walk_at "go"
    have hdl := dd_length_le ((fronts T).map (·.toList))
    rw [List.length_map, hfl] at hdl
    refine WCall_lenSet (St.set_same ..) ho (by (first | lia | omega)) ?_
    have hs : SubS σ' ((σ'.set la (.list ((fronts T).map PV.bytes))).set D (.raw o)) := fun x p hx => drop_set hDn _ _ (drop_set hla _ _ hx)
    walk_at "go"
    refine WCall_sumL (hs _ _ H.be) hbr hbl ?_
    walk_at "go"
    rw [← hD]
    refine ⟨fun h => by simp at h, fun _ => ?_⟩
    walk_at "go"
    exact hq _ hs
set_option maxHeartbeats 8000000 in
theorem s10 (S : Stat C) {od fa tx be dr : Addr} {as : List Addr} {vs xs : List Int} {T : List (Array UInt8)} {Q : PF → Loc → St → Prop} (H : LCtx σ L od fa tx be dr as vs xs T)
    (hq : ∀ m σ', SubS σ σ' → m ∈ pairX vs → (∀ y ∈ pairX vs, m ≤ y) → Q .next ((lρ dr tx be).put "least" (.int m)) σ') : WS C (n + 14) (lawEnv L a) (lawStmt 10) (lρ dr tx be) σ Q := by
  show WS C (n + 14) (lawEnv L a) (.Assign _ _ _) _ σ Q
  have n1 := H.n1
  have n2 := H.n2
  refine WS_Assign rfl ?_
  walk_at "go1"
  walk_at "go1"
  refine WE_two [("order", L + 1)] (st := rangeSt 0 ((vs.length : Int) - 0).toNat 1) (items := rangeItems 0 ((vs.length : Int) - 0).toNat 1) (side := fun _ => True) (P0 := fun σ' => σ' = σ)
    (fun i acc σ' => acc = iL (((List.range vs.length).take i).flatMap fun i => (List.range i).map fun j => Builtin.bitXor (vs.getD i 0) (vs.getD j 0)) ∧ σ' = σ)
    (fun q => match q with | .int x => rangeItems 0 (x - 0).toNat 1 | _ => []) (fun _ _ => True) (fun q => match q with | .int x => rangeSt 0 (x - 0).toNat 1 | _ => fun _ _ => False)
    (fun i q j acc σ' => q = .int i ∧ acc = iL ((((List.range vs.length).take i).flatMap fun i => (List.range i).map fun j => Builtin.bitXor (vs.getD i 0) (vs.getD j 0)) ++ ((List.range i).map fun j => Builtin.bitXor (vs.getD i 0) (vs.getD j 0)).take j) ∧ σ' = σ)
    (fun _ => rfl) rfl rfl (by decide) (fun _ => rfl) (fun _ => rfl) (fun _ => rfl) (fun _ => rfl) (fun _ => rfl) (by decide) (fun _ _ => rfl) (rangeOk C 0 ((vs.length : Int) - 0).toNat 1) ?_ ?_ ?_ ?_ ?_ ?_ ?_
  · intro q
    cases q with
    | int x => exact rangeOk C 0 (x - 0).toNat 1
    | _ => exact emptyOk C
  · refine WIt_of (side := fun _ => True) ?_
    walk_at "go"
    refine WE_cell rfl rfl rfl H.co ?_ rfl
    walk_at "go"
    refine WCall_len H.od (by simp; (first | lia | omega)) ?_
    walk_at "go"
    refine WCall_range1 ?_
    have : ((iL vs).length : Int) = (vs.length : Int) := by simp
    rw [this]
    exact ⟨rngMk C (by decide) (by (first | lia | omega)) (by decide) (by (first | lia | omega)), trivial, rfl⟩
  · rintro σ' rfl
    exact ⟨by simp, rfl⟩
  · rintro i q acc σ' hi ⟨rfl, rfl⟩
    obtain ⟨hil, rfl⟩ := rangeItems_get hi
    have e0 : (0 : Int) + (i : Int) * 1 = (i : Int) := by (first | lia | omega)
    rw [e0]
    refine ⟨trivial, fun C0 => ?_⟩
    refine WIt_of (side := fun _ => True) ?_
    walk_at "go"
    refine WCall_range1 ?_
    exact ⟨rngMk C (by decide) (by (first | lia | omega)) (by decide) (by (first | lia | omega)), trivial, rfl, by simp, rfl⟩
  · rintro i q j r acc σ' hi hj ⟨rfl, rfl, rfl⟩
    obtain ⟨hil, _⟩ := rangeItems_get hi
    have hil' : i < vs.length := by (first | lia | omega)
    obtain ⟨hjl, rfl⟩ := rangeItems_get (x := 0) (m := ((i : Int) - 0).toNat) (step := 1) hj
    have hji : j < i := by (first | lia | omega)
    have e1 : (0 : Int) + (j : Int) * 1 = (j : Int) := by (first | lia | omega)
    rw [e1]
    refine ⟨?_, trivial, fun C0 => ?_⟩
    · have h1 := flat_len (f := fun i => (List.range i).map fun j => Builtin.bitXor (vs.getD i 0) (vs.getD j 0)) (B := 100) ((List.range vs.length).take i) (fun x hx => by have := List.mem_of_mem_take hx; rw [List.mem_range] at this; simp; (first | lia | omega))
      have h2 : ((List.range vs.length).take i).length ≤ 100 := by simp; (first | lia | omega)
      have h3 : ((List.range vs.length).take i).length * 100 ≤ 100 * 100 := Nat.mul_le_mul_right _ h2
      simp only [iL, List.length_map, List.length_append, List.length_take, List.length_range] at h1 h3 ⊢
      (first | lia | omega)
    walk_at "go"
    refine WE_cell rfl rfl rfl H.co ?_ rfl
    walk_at "go"
    refine WSub_list (v := .int (vs.getD i 0)) (fun _ _ => rfl) H.od (by (first | lia | omega)) (by (first | lia | omega)) (by rw [Int.toNat_natCast]; exact map_get (mk := PV.int) vs hil' 0) ?_
    walk_at "go"
    refine WE_cell rfl rfl rfl H.co ?_ rfl
    walk_at "go"
    refine WSub_list (v := .int (vs.getD j 0)) (fun _ _ => rfl) H.od (by (first | lia | omega)) (by (first | lia | omega)) (by rw [Int.toNat_natCast]; exact map_get (mk := PV.int) vs (by (first | lia | omega)) 0) ?_
    refine WBin_xor ?_
    refine ⟨_, .refl _, rfl, ?_, rfl⟩
    have : ((List.range i).map fun j => Builtin.bitXor (vs.getD i 0) (vs.getD j 0))[j]? = some (Builtin.bitXor (vs.getD i 0) (vs.getD j 0)) := by simp [hji]
    rw [take_step this]; simp [iL]
  · rintro i q acc σ' hi ⟨rfl, rfl, rfl⟩
    obtain ⟨hil, _⟩ := rangeItems_get hi
    have hil' : i < vs.length := by (first | lia | omega)
    refine ⟨trivial, ?_, rfl⟩
    have e : ((List.range i).map fun j => Builtin.bitXor (vs.getD i 0) (vs.getD j 0)).take (rangeItems 0 ((i : Int) - 0).toNat 1).length = (List.range i).map fun j => Builtin.bitXor (vs.getD i 0) (vs.getD j 0) := by
      rw [List.take_of_length_le]; simp [rangeItems]
    have hri : (List.range vs.length)[i]? = some i := by simp [hil']
    rw [flat_step hri]
    show iL (_ ++ ((List.range i).map fun j => Builtin.bitXor (vs.getD i 0) (vs.getD j 0)).take (rangeItems 0 ((i : Int) - 0).toNat 1).length) = _
    rw [e]
  · rintro acc σ' ⟨rfl, rfl⟩
    refine ⟨trivial, fun la hla => ?_⟩
    have e : (List.range vs.length).take (rangeItems 0 ((vs.length : Int) - 0).toNat 1).length = List.range vs.length := by
      rw [List.take_of_length_le]; simp [rangeItems]
    rw [e]
    walk_at "go"
    refine WCall_minL (St.set_same ..) ?_ fun m hm hmin => ?_
    · intro z
      have : Builtin.bitXor (vs.getD 1 0) (vs.getD 0 0) ∈ ((List.range vs.length).flatMap fun i => (List.range i).map fun j => Builtin.bitXor (vs.getD i 0) (vs.getD j 0)) :=
        List.mem_flatMap.mpr ⟨1, by rw [List.mem_range]; (first | lia | omega), List.mem_map.mpr ⟨0, by simp, rfl⟩⟩
      rw [z] at this; cases this
    · walk_at "go"
      exact hq m _ (drop_set hla) hm hmin
set_option maxHeartbeats 8000000 in
theorem s11 (S : Stat C) {od fa tx be dr : Addr} {as : List Addr} {vs xs : List Int} {T : List (Array UInt8)} {m : Int} {Q : PF → Loc → St → Prop} (H : LCtx σ L od fa tx be dr as vs xs T) (hρ : ρ.lookup (Str.ofString "least") = some (.int m))
    (hm : ∀ y, y ∈ besX vs → (∀ z ∈ besX vs, y ≤ z) → m = y) (hq : ∀ σ', SubS σ σ' → Q (.ret (.bool true)) ρ σ') : WS C (n + 14) (lawEnv L a) (lawStmt 11) ρ σ Q := by
  show WS C (n + 14) (lawEnv L a) (.Return _ _) _ σ Q
  have n1 := H.n1
  have n2 := H.n2
  have hbl : (besX vs).length = vs.length - 1 := by unfold besX; simp
  refine WS_Return ?_
  refine WE_Compare rfl ?_
  refine WE_local rfl rfl hρ ?_ rfl
  walk_at "go1"
  walk_at "go1"
  refine WE_map [("order", L + 1)] (st := rangeSt 1 ((vs.length : Int) - 1).toNat 1) (items := rangeItems 1 ((vs.length : Int) - 1).toNat 1) (side := fun _ => True) (P0 := fun σ' => σ' = σ)
    (fun i acc σ' => acc = iL ((besX vs).take i) ∧ σ' = σ)
    (fun _ => rfl) rfl rfl (by decide) (fun _ => rfl) (fun _ => rfl) (fun _ => rfl) (fun _ => rfl) (rangeOk C 1 ((vs.length : Int) - 1).toNat 1) ?_ ?_ ?_ ?_
  · refine WIt_of (side := fun _ => True) ?_
    walk_at "go"
    refine WE_cell rfl rfl rfl H.co ?_ rfl
    walk_at "go"
    refine WCall_len H.od (by simp; (first | lia | omega)) ?_
    walk_at "go"
    refine WCall_range2 ?_
    have : ((iL vs).length : Int) = (vs.length : Int) := by simp
    rw [this]
    exact ⟨rngMk C (by decide) (by (first | lia | omega)) (by decide) (by (first | lia | omega)), trivial, rfl⟩
  · rintro σ' rfl
    exact ⟨by simp, rfl⟩
  · rintro i q acc σ' hi ⟨rfl, rfl⟩
    obtain ⟨hil, rfl⟩ := rangeItems_get hi
    have hil' : i < vs.length - 1 := by (first | lia | omega)
    have e0 : (1 : Int) + (i : Int) * 1 = ((i + 1 : Nat) : Int) := by (first | lia | omega)
    have e1 : ((i + 1 : Nat) : Int) - 1 = ((i : Nat) : Int) := by (first | lia | omega)
    rw [e0]
    refine ⟨by simp; (first | lia | omega), trivial, fun C0 => ?_⟩
    walk_at "go"
    refine WE_cell rfl rfl rfl H.co ?_ rfl
    walk_at "go"
    refine WSub_list (v := .int (vs.getD (i + 1) 0)) (fun _ _ => rfl) H.od (by (first | lia | omega)) (by (first | lia | omega)) (by rw [Int.toNat_natCast]; exact map_get (mk := PV.int) vs (by (first | lia | omega)) 0) ?_
    walk_at "go"
    refine WE_cell rfl rfl rfl H.co ?_ rfl
    walk_at "go"
    rw [e1]
    refine WSub_list (v := .int (vs.getD i 0)) (fun _ _ => rfl) H.od (by (first | lia | omega)) (by (first | lia | omega)) (by rw [Int.toNat_natCast]; exact map_get (mk := PV.int) vs (by (first | lia | omega)) 0) ?_
    refine WBin_xor ?_
    refine ⟨_, .refl _, ?_, rfl⟩
    have : (besX vs)[i]? = some (Builtin.bitXor (vs.getD (i + 1) 0) (vs.getD i 0)) := by unfold besX; simp [hil']
    rw [take_step this]; simp [iL]
  · rintro acc σ' ⟨rfl, rfl⟩
    refine ⟨trivial, fun la hla => ?_⟩
    have e : (besX vs).take (rangeItems 1 ((vs.length : Int) - 1).toNat 1).length = besX vs := by
      rw [List.take_of_length_le]; rw [hbl]; simp [rangeItems]
    rw [e]
    walk_at "go"
    refine WCall_minL (St.set_same ..) ?_ fun y hy hmin => ?_
    · intro z
      rw [z] at hbl; simp at hbl; (first | lia | omega)
    · refine WCmp_eq ?_
      rw [hm y hy hmin]
      have : (y == y) = true := by simp
      rw [this]
      exact hq _ (drop_set hla)
end

/-! ## Plain: xor, digits, sorted lists -/
theorem xor_zero {a b : Nat} : a ^^^ b = 0 ↔ a = b := by
  constructor
  · intro h
    have : a ^^^ b ^^^ b = a := by rw [Nat.xor_assoc, Nat.xor_self, Nat.xor_zero]
    rw [h, Nat.zero_xor] at this
    exact this.symm
  · rintro rfl; exact Nat.xor_self _
theorem xor_and_sum : ∀ (m a b : Nat), a + b ≤ m → (a ^^^ b) + 2 * (a &&& b) = a + b := by
  intro m
  induction m with
  | zero => intro a b h; have : a = 0 := by (first | lia | omega)
            have : b = 0 := by (first | lia | omega)
            subst_vars; rfl
  | succ m ih =>
    intro a b h
    by_cases h0 : a + b = 0
    · have : a = 0 := by (first | lia | omega)
      have : b = 0 := by (first | lia | omega)
      subst_vars; rfl
    · have hh := ih (a / 2) (b / 2) (by (first | lia | omega))
      rw [← Nat.xor_div_two, ← Nat.and_div_two] at hh
      have x1 : (a ^^^ b) % 2 = a % 2 ^^^ b % 2 := Nat.xor_mod_two_pow (n := 1)
      have x2 : (a &&& b) % 2 = (a % 2) &&& (b % 2) := Nat.and_mod_two_pow (n := 1)
      rcases Nat.mod_two_eq_zero_or_one a with ha | ha <;> rcases Nat.mod_two_eq_zero_or_one b with hb | hb <;> rw [ha, hb] at x1 x2
      · have y1 : (a ^^^ b) % 2 = 0 := x1
        have y2 : (a &&& b) % 2 = 0 := x2
        (first | lia | omega)
      · have y1 : (a ^^^ b) % 2 = 1 := x1
        have y2 : (a &&& b) % 2 = 0 := x2
        (first | lia | omega)
      · have y1 : (a ^^^ b) % 2 = 1 := x1
        have y2 : (a &&& b) % 2 = 0 := x2
        (first | lia | omega)
      · have y1 : (a ^^^ b) % 2 = 0 := x1
        have y2 : (a &&& b) % 2 = 1 := x2
        (first | lia | omega)
theorem bitXor_nat (a b : Nat) : Builtin.bitXor (a : Int) (b : Int) = ((a ^^^ b : Nat) : Int) := by
  rw [bitXor_and]
  have h1 : Builtin.bitAnd (a : Int) (b : Int) = ((a &&& b : Nat) : Int) := by
    unfold Builtin.bitAnd
    rw [decide_eq_true (show (0 : Int) ≤ (a : Int) by (first | lia | omega)), decide_eq_true (show (0 : Int) ≤ (b : Int) by (first | lia | omega))]
    simp
  rw [h1]
  have := xor_and_sum (a + b) a b (Nat.le_refl _)
  (first | lia | omega)
noncomputable def dN (u v : Nat) : Nat := if u ^^^ v = 0 then 0 else ((u ^^^ v).log2 + 6) / 6
theorem dist_nat (u v : Nat) : dist (u : Int) (v : Int) = (dN u v : Int) := by
  unfold dist dN i2d
  rw [bitXor_nat, Int.toNat_natCast]
  split
  · simp
  · rename_i h0
    rw [dgR_length _ _ _ (mlen_pos (by decide) h0)]
    unfold mlen Builtin.Int.intBits
    rw [if_neg (by simpa using h0)]
    rfl
theorem dN_ge {u v t : Nat} (ht : 1 ≤ t) : t ≤ dN u v ↔ u / 64 ^ (t - 1) ≠ v / 64 ^ (t - 1) := by
  have e64 : (64 : Nat) ^ (t - 1) = 2 ^ (6 * (t - 1)) := by rw [Nat.pow_mul]
  rw [e64, Ne, ← xor_zero, ← Nat.xor_div_two_pow]
  unfold dN
  split
  · rename_i h0
    rw [h0]; simp; (first | lia | omega)
  · rename_i h0
    have a1 := Nat.le_log2 h0 (k := 6 * (t - 1))
    have a2 : (u ^^^ v) / 2 ^ (6 * (t - 1)) ≠ 0 ↔ 2 ^ (6 * (t - 1)) ≤ u ^^^ v := by
      rw [Ne, Nat.div_eq_zero_iff]
      have : 2 ^ (6 * (t - 1)) ≠ 0 := Nat.ne_of_gt (Nat.pow_pos (by decide))
      (first | lia | omega)
    have a3 : t ≤ ((u ^^^ v).log2 + 6) / 6 ↔ 6 * (t - 1) ≤ (u ^^^ v).log2 := by
      rw [Nat.le_div_iff_mul_le (by decide)]; (first | lia | omega)
    rw [a3, a1]
    exact a2.symm
theorem dN_le {u v : Nat} (hu : u < 16777216) (hv : v < 16777216) : dN u v ≤ 4 := by
  by_cases h : 5 ≤ dN u v
  · rw [dN_ge (by decide)] at h
    exact absurd (by rw [Nat.div_eq_of_lt (by (first | lia | omega)), Nat.div_eq_of_lt (by (first | lia | omega))]) h
  · (first | lia | omega)
/-- the least xor of three in order -/
theorem xor_mid {u v w : Nat} (h1 : u ≤ v) (h2 : v ≤ w) : v ^^^ u ≤ w ^^^ u ∨ w ^^^ v ≤ w ^^^ u := by
  by_cases h0 : w ^^^ u = 0
  · have := xor_zero.mp h0
    have : v = u := by (first | lia | omega)
    subst this
    left; rw [Nat.xor_self]; (first | lia | omega)
  · generalize hs : (w ^^^ u).log2 = s
    have b1 : 2 ^ s ≤ w ^^^ u := (Nat.le_log2 h0).mp (by (first | lia | omega))
    have b2 : w ^^^ u < 2 ^ (s + 1) := (Nat.log2_lt h0).mp (by (first | lia | omega))
    have e1 : w / 2 ^ s / 2 = u / 2 ^ s / 2 := by
      rw [Nat.div_div_eq_div_mul, Nat.div_div_eq_div_mul, ← Nat.pow_succ]
      apply xor_zero.mp
      rw [← Nat.xor_div_two_pow]
      exact Nat.div_eq_of_lt b2
    have m1 : u / 2 ^ s ≤ v / 2 ^ s := Nat.div_le_div_right h1
    have m2 : v / 2 ^ s ≤ w / 2 ^ s := Nat.div_le_div_right h2
    have small : ∀ a b : Nat, a / 2 ^ s = b / 2 ^ s → a ^^^ b ≤ w ^^^ u := by
      intro a b hab
      have : (a ^^^ b) / 2 ^ s = 0 := by rw [Nat.xor_div_two_pow]; exact xor_zero.mpr hab
      have := (Nat.div_eq_zero_iff.mp this)
      have hp : 2 ^ s ≠ 0 := Nat.ne_of_gt (Nat.pow_pos (by decide))
      (first | lia | omega)
    by_cases e : v / 2 ^ s = u / 2 ^ s
    · exact .inl (small _ _ e)
    · exact .inr (small _ _ (by (first | lia | omega)))
/-! ### distinct members -/
section
variable {K : Type} [DecidableEq K]
theorem mem_foldl_ddS (l acc : List K) (k : K) : k ∈ l.foldl ddS acc ↔ k ∈ acc ∨ k ∈ l := by
  induction l generalizing acc with
  | nil => simp
  | cons v l ih =>
    rw [List.foldl_cons, ih, mem_ddS]
    simp only [List.mem_cons]
    constructor
    · rintro ((h | h) | h)
      · exact .inl h
      · exact .inr (.inl h)
      · exact .inr (.inr h)
    · rintro (h | h | h)
      · exact .inl (.inl h)
      · exact .inl (.inr h)
      · exact .inr h
theorem mem_dd (l : List K) (k : K) : k ∈ dd l ↔ k ∈ l := by unfold dd; rw [mem_foldl_ddS]; simp
theorem nodup_ddS {acc : List K} (h : acc.Nodup) (v : K) : (ddS acc v).Nodup := by
  unfold ddS
  split
  · exact h
  · rename_i hv
    rw [List.nodup_append]
    refine ⟨h, by simp, ?_⟩
    intro a ha b hb
    simp at hb; subst hb
    rintro rfl
    exact hv ha
theorem nodup_dd (l : List K) : (dd l).Nodup := by
  unfold dd
  have gen : ∀ (l acc : List K), acc.Nodup → (l.foldl ddS acc).Nodup := by
    intro l
    induction l with
    | nil => intro acc h; exact h
    | cons v l ih => intro acc h; exact ih _ (nodup_ddS h v)
  exact gen l [] List.nodup_nil
theorem dd_same {l m : List K} (h : ∀ k, k ∈ l ↔ k ∈ m) : (dd l).length = (dd m).length :=
  ((List.perm_ext_iff_of_nodup (nodup_dd l) (nodup_dd m)).mpr fun k => by rw [mem_dd, mem_dd]; exact h k).length_eq
theorem dd_add (l : List K) (v : K) : (dd (l ++ [v])).length = (dd l).length + if v ∈ l then 0 else 1 := by
  rw [dd_snoc, ddS_length]
  by_cases h : v ∈ l
  · rw [if_pos ((mem_dd l v).mpr h), if_pos h]; rfl
  · rw [if_neg (fun z => h ((mem_dd l v).mp z)), if_neg h]
end

/-! ## Plain: a sorted row of numbers -/
theorem div_mono_path {q : Nat → Nat} {n : Nat} (hm : ∀ i j, i ≤ j → j < n → q i ≤ q j) {j i : Nat} (hji : j ≤ i) (hi : i < n) : q i ≠ q j ↔ ∃ k, j ≤ k ∧ k < i ∧ q (k + 1) ≠ q k := by
  constructor
  · intro h
    induction i with
    | zero => have : j = 0 := by (first | lia | omega)
              subst this; exact absurd rfl h
    | succ i ih =>
      by_cases hj : j = i + 1
      · subst hj; exact absurd rfl h
      · by_cases h2 : q (i + 1) = q i
        · rw [h2] at h
          obtain ⟨k, a, b, c⟩ := ih (by (first | lia | omega)) (by (first | lia | omega)) h
          exact ⟨k, a, by (first | lia | omega), c⟩
        · exact ⟨i, by (first | lia | omega), by (first | lia | omega), h2⟩
  · rintro ⟨k, a, b, c⟩
    have h1 := hm j k a (by (first | lia | omega))
    have h2 := hm k (k + 1) (by (first | lia | omega)) (by (first | lia | omega))
    have h3 := hm (k + 1) i (by (first | lia | omega)) hi
    (first | lia | omega)
section
variable {w : Nat → Nat} {n : Nat}
theorem path {j i t : Nat} (hm : ∀ i j, i ≤ j → j < n → w i ≤ w j) (hji : j ≤ i) (hi : i < n) (ht : 1 ≤ t) : t ≤ dN (w i) (w j) ↔ ∃ k, j ≤ k ∧ k < i ∧ t ≤ dN (w (k + 1)) (w k) := by
  rw [dN_ge ht, div_mono_path (q := fun i => w i / 64 ^ (t - 1)) (fun i j a b => Nat.div_le_div_right (hm i j a b)) hji hi]
  constructor
  · rintro ⟨k, a, b, c⟩; exact ⟨k, a, b, (dN_ge ht).mpr c⟩
  · rintro ⟨k, a, b, c⟩; exact ⟨k, a, b, (dN_ge ht).mp c⟩
theorem dN_comm (u v : Nat) : dN u v = dN v u := by unfold dN; rw [Nat.xor_comm]
/-- the sum over the four levels of those at most c is c -/
theorem four (c : Nat) (hc : c ≤ 4) : (if 1 ≤ c then 1 else 0) + (if 2 ≤ c then 1 else 0) + (if 3 ≤ c then 1 else 0) + (if 4 ≤ c then 1 else 0) = c := by
  have : c = 0 ∨ c = 1 ∨ c = 2 ∨ c = 3 ∨ c = 4 := by (first | lia | omega)
  rcases this with rfl | rfl | rfl | rfl | rfl <;> rfl
/-- how many classes of a level are held -/
noncomputable def cls (w : Nat → Nat) (t : Nat) (l : List Nat) : Nat := (dd (l.map fun h => w h / 64 ^ (t - 1))).length
noncomputable def tot4 (w : Nat → Nat) (l : List Nat) : Nat := cls w 1 l + cls w 2 l + cls w 3 l + cls w 4 l
theorem cls_add {t : Nat} (ht : 1 ≤ t) (l : List Nat) (k c : Nat) (hne : l ≠ []) (h1 : ∃ h ∈ l, c = dN (w k) (w h)) (h2 : ∀ h ∈ l, c ≤ dN (w k) (w h)) : cls w t (l ++ [k]) = cls w t l + if t ≤ c then 1 else 0 := by
  unfold cls
  rw [List.map_append, List.map_cons, List.map_nil, dd_add]
  congr 1
  by_cases htc : t ≤ c
  · rw [if_pos htc, if_neg]
    intro hm
    obtain ⟨h, hl, e⟩ := List.mem_map.mp hm
    have := (dN_ge ht).mp (Nat.le_trans htc (h2 h hl))
    exact this e.symm
  · rw [if_neg htc, if_pos]
    obtain ⟨h, hl, e⟩ := h1
    refine List.mem_map.mpr ⟨h, hl, ?_⟩
    have : ¬ t ≤ dN (w k) (w h) := by rw [← e]; exact htc
    rw [dN_ge ht] at this
    exact (Classical.not_not.mp this).symm
theorem tot4_add (l : List Nat) (k c : Nat) (hne : l ≠ []) (hc : c ≤ 4) (h1 : ∃ h ∈ l, c = dN (w k) (w h)) (h2 : ∀ h ∈ l, c ≤ dN (w k) (w h)) : tot4 w (l ++ [k]) = tot4 w l + c := by
  unfold tot4
  rw [cls_add (by decide) l k c hne h1 h2, cls_add (by decide) l k c hne h1 h2, cls_add (by decide) l k c hne h1 h2, cls_add (by decide) l k c hne h1 h2]
  have := four c hc
  (first | lia | omega)
theorem tot4_one (k : Nat) : tot4 w [k] = 4 := rfl
theorem tot4_same {l m : List Nat} (h : ∀ k, k ∈ l ↔ k ∈ m) : tot4 w l = tot4 w m := by
  have : ∀ t, cls w t l = cls w t m := fun t => dd_same fun x => by
    simp only [List.mem_map]
    constructor
    · rintro ⟨a, b, c⟩; exact ⟨a, (h a).mp b, c⟩
    · rintro ⟨a, b, c⟩; exact ⟨a, (h a).mpr b, c⟩
  unfold tot4
  rw [this, this, this, this]
theorem tot4_range (hm : ∀ i j, i ≤ j → j < n → w i ≤ w j) (hb : ∀ i, i < n → w i < 16777216) : ∀ m, m + 1 ≤ n → tot4 w (List.range (m + 1)) = 4 + ((List.range m).map fun k => dN (w (k + 1)) (w k)).sum
  | 0, _ => rfl
  | m + 1, h => by
    have hr : List.range (m + 1 + 1) = List.range (m + 1) ++ [m + 1] := List.range_succ
    have hr2 : List.range (m + 1) = List.range m ++ [m] := List.range_succ
    have ih := tot4_range hm hb m (by (first | lia | omega))
    rw [hr, tot4_add (w := w) (List.range (m + 1)) (m + 1) (dN (w (m + 1)) (w m)) (by simp) (dN_le (hb _ (by (first | lia | omega))) (hb _ (by (first | lia | omega)))) ⟨m, by simp, rfl⟩ ?_, ih]
    · conv => rhs; rw [hr2, List.map_append, List.sum_append]
      simp; (first | lia | omega)
    · intro h' hh
      rw [List.mem_range] at hh
      by_cases h0 : dN (w (m + 1)) (w m) = 0
      · (first | lia | omega)
      · exact (path hm (by (first | lia | omega)) (by (first | lia | omega)) (by (first | lia | omega))).mpr ⟨m, by (first | lia | omega), by (first | lia | omega), Nat.le_refl _⟩
end

/-! ## Plain: the net -/
theorem nodup_len {n : Nat} {l : List Nat} (h : l.Nodup) (hb : ∀ x ∈ l, x < n) : l.length ≤ n := by
  have p : l.Perm ((List.range n).filter (· ∈ l)) := (List.perm_ext_iff_of_nodup h (List.nodup_range.filter _)).mpr fun a => by
    rw [List.mem_filter, List.mem_range]
    constructor
    · intro ha; exact ⟨hb a ha, by simpa using ha⟩
    · rintro ⟨_, ha⟩; simpa using ha
  rw [p.length_eq]
  exact Nat.le_trans (List.length_filter_le ..) (by simp)
theorem pushAll_ok (D : Nat → Nat → Int) (held : List Int) (k : Nat) (hp : List IP) (h : Hp ltP (0, 0) 0 hp) : ∀ N, Hp ltP (0, 0) 0 (pushAll D held k N hp) ∧ ∀ p, p ∈ pushAll D held k N hp ↔ p ∈ hp ∨ ∃ j, j < N ∧ (j : Int) ∉ held ∧ p = (D (max j k) (min j k), (j : Int))
  | 0 => ⟨h, fun p => by simp [pushAll]⟩
  | N + 1 => by
    obtain ⟨a, b⟩ := pushAll_ok D held k hp h N
    rw [pushAll_succ]
    unfold pushOne
    by_cases hN : (N : Int) ∈ held
    · rw [if_pos hN]
      refine ⟨a, fun p => ?_⟩
      rw [b p]
      constructor
      · rintro (h | ⟨j, h1, h2, h3⟩)
        · exact .inl h
        · exact .inr ⟨j, by (first | lia | omega), h2, h3⟩
      · rintro (h | ⟨j, h1, h2, h3⟩)
        · exact .inl h
        · refine .inr ⟨j, ?_, h2, h3⟩
          by_cases e : j = N
          · subst e; exact absurd hN h2
          · (first | lia | omega)
    · rw [if_neg hN]
      obtain ⟨c, d⟩ := hpush_ok (d := ((0, 0) : IP)) ordP (x := (D (max N k) (min N k), (N : Int))) a
      refine ⟨c, fun p => ?_⟩
      rw [d.mem_iff, List.mem_cons, b p]
      constructor
      · rintro (h | h | ⟨j, h1, h2, h3⟩)
        · exact .inr ⟨N, by (first | lia | omega), hN, h⟩
        · exact .inl h
        · exact .inr ⟨j, by (first | lia | omega), h2, h3⟩
      · rintro (h | ⟨j, h1, h2, h3⟩)
        · exact .inr (.inl h)
        · by_cases e : j = N
          · subst e; exact .inl h3
          · exact .inr (.inr ⟨j, by (first | lia | omega), h2, h3⟩)
noncomputable abbrev wOf (vs : List Int) (i : Nat) : Nat := (vs.getD i 0).toNat
noncomputable abbrev castL (l : List Nat) : List Int := l.map fun (x : Nat) => (x : Int)
theorem mem_castL {l : List Nat} {x : Nat} : (x : Int) ∈ castL l ↔ x ∈ l := by
  unfold castL
  rw [List.mem_map]
  constructor
  · rintro ⟨y, hy, e⟩; have : y = x := by (first | lia | omega)
    subst this; exact hy
  · intro h; exact ⟨x, h, rfl⟩
structure Sorted24 (vs : List Int) : Prop where
  rng : ∀ v ∈ vs, 0 ≤ v ∧ v < 16777216
  inc : vs.Pairwise (· ≤ ·)
theorem Sorted24.cast {vs : List Int} (h : Sorted24 vs) {i : Nat} (hi : i < vs.length) : vs.getD i 0 = (wOf vs i : Int) := by
  have := h.rng _ (getD_mem hi)
  unfold wOf; (first | lia | omega)
theorem Sorted24.bnd {vs : List Int} (h : Sorted24 vs) : ∀ i, i < vs.length → wOf vs i < 16777216 := by
  intro i hi
  have := h.rng _ (getD_mem hi)
  unfold wOf; (first | lia | omega)
theorem Sorted24.mono {vs : List Int} (h : Sorted24 vs) : ∀ i j, i ≤ j → j < vs.length → wOf vs i ≤ wOf vs j := by
  intro i j hij hj
  by_cases e : i = j
  · subst e; exact Nat.le_refl _
  · have := List.pairwise_iff_getElem.mp h.inc i j (by (first | lia | omega)) hj (by (first | lia | omega))
    have e1 : vs.getD i 0 = vs[i] := by simp [List.getD_eq_getElem?_getD, show i < vs.length by (first | lia | omega)]
    have e2 : vs.getD j 0 = vs[j] := by simp [List.getD_eq_getElem?_getD, hj]
    unfold wOf
    rw [e1, e2]; (first | lia | omega)
theorem Sorted24.dist {vs : List Int} (h : Sorted24 vs) {i j : Nat} (hi : i < vs.length) (hj : j < vs.length) : dist (vs.getD i 0) (vs.getD j 0) = (dN (wOf vs i) (wOf vs j) : Int) := by
  rw [h.cast hi, h.cast hj, dist_nat]
theorem Sorted24.D {vs : List Int} (h : Sorted24 vs) {a b : Nat} (ha : a < vs.length) (hb : b < vs.length) (hab : a ≠ b) : (frow vs (max a b)).getD (min a b) 0 = (dN (wOf vs a) (wOf vs b) : Int) := by
  have hlt : min a b < max a b := by (first | lia | omega)
  rw [List.getD_eq_getElem?_getD, frow_get vs hlt, Option.getD_some, h.dist (by (first | lia | omega)) (by (first | lia | omega))]
  rcases Nat.lt_or_ge a b with q | q
  · rw [Nat.max_eq_right (by (first | lia | omega)), Nat.min_eq_left (by (first | lia | omega)), dN_comm]
  · rw [Nat.max_eq_left q, Nat.min_eq_right q]
theorem bes_sum {vs : List Int} (h : Sorted24 vs) : (bes vs).sum = (((List.range (vs.length - 1)).map fun k => dN (wOf vs (k + 1)) (wOf vs k)).sum : Nat) := by
  unfold bes
  have : ∀ l : List Nat, (∀ x ∈ l, x + 1 < vs.length) → (l.map fun i => Mine.dist (vs.getD (i + 1) 0) (vs.getD i 0)).sum = ((l.map fun k => dN (wOf vs (k + 1)) (wOf vs k)).sum : Nat) := by
    intro l
    induction l with
    | nil => intro _; rfl
    | cons x l ih =>
      intro hl
      have hx := hl x (.head _)
      rw [List.map_cons, List.map_cons, List.sum_cons, List.sum_cons, ih fun y hy => hl y (.tail _ hy), h.dist hx (by (first | lia | omega))]
      (first | lia | omega)
  exact this _ fun x hx => by rw [List.mem_range] at hx; (first | lia | omega)
structure JN (vs : List Int) (start : Int) (hp : List IP) (held : List Int) (tot : Int) (hs : List Nat) : Prop where
  eq : held = castL hs
  nd : hs.Nodup
  bd : ∀ h ∈ hs, h < vs.length
  heap : Hp ltP (0, 0) 0 hp
  len : hp.length ≤ 1 + hs.length * vs.length
  st : (hs = [] ∧ hp = [(0, start)] ∧ tot = 0) ∨ (hs ≠ [] ∧ (∀ p ∈ hp, ∃ j h, p = ((dN (wOf vs j) (wOf vs h) : Int), (j : Int)) ∧ j < vs.length ∧ h ∈ hs) ∧
    (∀ j, j < vs.length → j ∉ hs → ∀ h ∈ hs, ((dN (wOf vs j) (wOf vs h) : Int), (j : Int)) ∈ hp) ∧ tot = (tot4 (wOf vs) hs : Int) - 4)
theorem net_plain {vs : List Int} (V : Sorted24 vs) (hn : 1 ≤ vs.length) (hn2 : vs.length ≤ 100) {start : Int} (hst : 0 ≤ start ∧ start < vs.length) :
    NetJ (fun hp held tot => ∃ hs, JN vs start hp held tot hs) (fun i j => (frow vs i).getD j 0) vs.length start (fun t => t = (bes vs).sum) where
  init := ⟨[], rfl, List.nodup_nil, fun _ h => (nomatch h), fun i h0 hi => by simp at hi; (first | lia | omega), by simp, .inl ⟨rfl, rfl, rfl⟩⟩
  bnd := by
    rintro hp held tot ⟨hs, J⟩
    have hl := nodup_len J.nd J.bd
    have hm : hs.length * vs.length ≤ 100 * 100 := Nat.mul_le_mul (by (first | lia | omega)) (by (first | lia | omega))
    refine ⟨by have := J.len; (first | lia | omega), by rw [J.eq]; simpa using hl, ?_⟩
    intro p hp'
    rcases J.st with ⟨_, e, _⟩ | ⟨_, h, _⟩
    · rw [e] at hp'; simp at hp'; subst hp'; exact hst
    · obtain ⟨j, h, rfl, hj, _⟩ := h p hp'
      exact ⟨by show (0 : Int) ≤ (j : Int); (first | lia | omega), by show (j : Int) < _; (first | lia | omega)⟩
  skip := by
    rintro ks l held tot ⟨hs, J⟩ hk
    obtain ⟨a, b, c⟩ := hpop_ok (d := ((0, 0) : IP)) ordP J.heap
    have hlen := hpop_length ltP ks l
    have jl := J.len
    simp only [List.length_append, List.length_cons, List.length_nil] at jl
    refine ⟨hs, J.eq, J.nd, J.bd, b, by (first | lia | omega), ?_⟩
    rcases J.st with ⟨e, _, _⟩ | ⟨h1, h2, h3, h4⟩
    · rw [J.eq, e] at hk; cases hk
    · refine .inr ⟨h1, fun p hp => h2 p (c.mem_iff.mp (.tail _ hp)), fun j hj hjn h hh => ?_, h4⟩
      rcases List.mem_cons.mp (c.mem_iff.mpr (h3 j hj hjn h hh)) with e | e
      · exfalso
        rw [← e, J.eq] at hk
        exact hjn (mem_castL.mp hk)
      · exact e
  take := by
    rintro ks l held tot ⟨hs, J⟩ hk
    obtain ⟨a, b, c⟩ := hpop_ok (d := ((0, 0) : IP)) ordP J.heap
    have hlen := hpop_length ltP ks l
    have hmem := hpop_mem ltP ks l
    generalize hpop ltP ks l = pq at *
    obtain ⟨⟨cost, k⟩, hp1⟩ := pq
    simp only at *
    have hkr : ∃ kn : Nat, k = (kn : Int) ∧ kn < vs.length := by
      rcases J.st with ⟨_, e, _⟩ | ⟨_, h, _⟩
      · rw [e] at hmem; simp at hmem
        exact ⟨start.toNat, by (first | lia | omega), by (first | lia | omega)⟩
      · obtain ⟨j, h, e, hj, _⟩ := h _ hmem
        have := (Prod.mk.inj e).2
        exact ⟨j, this, hj⟩
    obtain ⟨kn, rfl, hkn⟩ := hkr
    rw [J.eq] at hk
    have hkh : kn ∉ hs := fun z => hk (mem_castL.mpr z)
    have nd' : (hs ++ [kn]).Nodup := by
      rw [List.nodup_append]
      refine ⟨J.nd, by simp, ?_⟩
      intro x hx y hy
      simp at hy; subst hy
      rintro rfl; exact hkh hx
    have bd' : ∀ h ∈ hs ++ [kn], h < vs.length := by
      intro h hh
      rcases List.mem_append.mp hh with q | q
      · exact J.bd h q
      · simp at q; subst q; exact hkn
    have len' := nodup_len nd' bd'
    simp only [List.length_append, List.length_cons, List.length_nil] at len'
    have eh : held ++ [(kn : Int)] = castL (hs ++ [kn]) := by rw [J.eq]; simp [castL]
    rw [eh, Int.toNat_natCast]
    obtain ⟨P1, P2⟩ := pushAll_ok (fun i j => (frow vs i).getD j 0) (castL (hs ++ [kn])) kn hp1 b vs.length
    have plen := pushAll_length (fun i j => (frow vs i).getD j 0) (castL (hs ++ [kn])) kn hp1 vs.length
    have jl := J.len
    simp only [List.length_append, List.length_cons, List.length_nil] at jl
    have push : ∀ j, j < vs.length → j ∉ hs ++ [kn] → ((dN (wOf vs j) (wOf vs kn) : Int), (j : Int)) ∈ pushAll (fun i j => (frow vs i).getD j 0) (castL (hs ++ [kn])) kn vs.length hp1 := by
      intro j hj hjn
      rw [P2]
      refine .inr ⟨j, hj, fun z => hjn (mem_castL.mp z), ?_⟩
      have hjk : j ≠ kn := fun z => hjn (by rw [z]; simp)
      rw [V.D hj hkn hjk]
    refine ⟨by rw [J.eq]; simp; (first | lia | omega), hs ++ [kn], rfl, nd', bd', P1, ?_, .inr ⟨by simp, ?_, ?_, ?_⟩⟩
    · simp only [List.length_append, List.length_cons, List.length_nil, Nat.add_mul]
      (first | lia | omega)
    · intro p hp
      rw [P2] at hp
      rcases hp with hp | ⟨j, hj, hjn, rfl⟩
      · have hp' : p ∈ ks ++ [l] := c.mem_iff.mp (.tail _ hp)
        rcases J.st with ⟨e0, e, _⟩ | ⟨_, h, _⟩
        · have : hp1 = [] := by
            have := c.length_eq
            rw [e] at this
            simp at this
            exact this
          rw [this] at hp; cases hp
        · obtain ⟨j, h, e, hj, hh⟩ := h p hp'
          exact ⟨j, h, e, hj, List.mem_append_left _ hh⟩
      · have hjn' : j ∉ hs ++ [kn] := fun z => hjn (mem_castL.mpr z)
        have hjk : j ≠ kn := fun z => hjn' (by rw [z]; simp)
        exact ⟨j, kn, by rw [V.D hj hkn hjk], hj, by simp⟩
    · intro j hj hjn h hh
      rcases List.mem_append.mp hh with q | q
      · rcases J.st with ⟨e0, _, _⟩ | ⟨_, _, h3, _⟩
        · rw [e0] at q; cases q
        · have hjh : j ∉ hs := fun z => hjn (List.mem_append_left _ z)
          rcases List.mem_cons.mp (c.mem_iff.mpr (h3 j hj hjh h q)) with e | e
          · exfalso
            have := (Prod.mk.inj e).2
            have : j = kn := by (first | lia | omega)
            exact hjn (by rw [this]; simp)
          · rw [P2]; exact .inl e
      · simp at q; subst q
        exact push j hj hjn
    · rcases J.st with ⟨e0, e, et⟩ | ⟨h1, h2, h3, h4⟩
      · rw [e] at hmem
        simp at hmem
        rw [e0, et]
        show _ = ((tot4 (wOf vs) [kn] : Nat) : Int) - 4
        rw [tot4_one]; (first | lia | omega)
      · obtain ⟨j, h, e, hj, hh⟩ := h2 _ hmem
        have ej := (Prod.mk.inj e).2
        have ec := (Prod.mk.inj e).1
        have hjk : j = kn := by (first | lia | omega)
        subst hjk
        have hb4 := dN_le (V.bnd j hj) (V.bnd h (J.bd h hh))
        rw [tot4_add (w := wOf vs) hs j (dN (wOf vs j) (wOf vs h)) h1 hb4 ⟨h, hh, rfl⟩ ?_, h4, ec]
        · push_cast; (first | lia | omega)
        · intro g hg
          have := a _ (h3 j hj hkh g hg)
          unfold ltP at this
          simp only [decide_eq_false_iff_not, not_or] at this
          rw [ec] at this
          (first | lia | omega)
  fin := by
    rintro held tot ⟨hs, J⟩
    rcases J.st with ⟨_, e, _⟩ | ⟨h1, h2, h3, h4⟩
    · cases e
    · have all : ∀ j, j ∈ hs ↔ j ∈ List.range vs.length := by
        intro j
        rw [List.mem_range]
        constructor
        · exact J.bd j
        · intro hj
          refine Decidable.byContradiction fun hjn => ?_
          obtain ⟨h, hh⟩ := List.exists_mem_of_ne_nil _ h1
          exact (nomatch h3 j hj hjn h hh)
      rw [h4, tot4_same all, bes_sum V]
      have hr := tot4_range V.mono V.bnd (vs.length - 1) (by (first | lia | omega))
      have e : vs.length - 1 + 1 = vs.length := by (first | lia | omega)
      rw [e] at hr
      rw [hr]; push_cast; (first | lia | omega)

/-! ## Plain: tables over the 24 numbers; the other checks -/
/-- what base64 gives for three octets -/
noncomputable def enc3 (b0 b1 b2 : Int) : List Int :=
  let l1 := Builtin.bitAnd (Builtin.bitOr (0 * 2 ^ 8) b0) 65535
  let l2 := Builtin.bitAnd (Builtin.bitOr (l1 * 2 ^ 8) b1) 65535
  let l3 := Builtin.bitAnd (Builtin.bitOr (l2 * 2 ^ 8) b2) 65535
  [sym (Builtin.bitAnd (l1.fdiv (2 ^ 2)) 63), sym (Builtin.bitAnd (l2.fdiv (2 ^ 4)) 63), sym (Builtin.bitAnd (l3.fdiv (2 ^ 6)) 63), sym (Builtin.bitAnd (l3.fdiv (2 ^ 0)) 63)]
theorem wl8 (lc : Int) (out : List Int) : wl lc out 8 = (out ++ [sym (Builtin.bitAnd (lc.fdiv (2 ^ 2)) 63)], 2) := by
  rw [wl, dif_pos (by decide)]
  show wl lc _ 2 = _
  rw [wl, dif_neg (by decide)]
theorem wl10 (lc : Int) (out : List Int) : wl lc out 10 = (out ++ [sym (Builtin.bitAnd (lc.fdiv (2 ^ 4)) 63)], 4) := by
  rw [wl, dif_pos (by decide)]
  show wl lc _ 4 = _
  rw [wl, dif_neg (by decide)]
theorem wl12 (lc : Int) (out : List Int) : wl lc out 12 = (out ++ [sym (Builtin.bitAnd (lc.fdiv (2 ^ 6)) 63)] ++ [sym (Builtin.bitAnd (lc.fdiv (2 ^ 0)) 63)], 0) := by
  rw [wl, dif_pos (by decide)]
  show wl lc _ 6 = _
  rw [wl, dif_pos (by decide)]
  show wl lc _ 0 = _
  rw [wl, dif_neg (by decide)]
theorem bAll3 (b0 b1 b2 : Int) : (bAll [b0, b1, b2]).1 = enc3 b0 b1 b2 := by
  unfold bAll
  simp only [List.foldl_cons, List.foldl_nil]
  have s1 : bstep ([], 0, 0) b0 = ([sym (Builtin.bitAnd ((Builtin.bitAnd (Builtin.bitOr (0 * 2 ^ 8) b0) 65535).fdiv (2 ^ 2)) 63)], 2, Builtin.bitAnd (Builtin.bitOr (0 * 2 ^ 8) b0) 65535) := by
    unfold bstep
    dsimp only
    rw [wl8]; rfl
  rw [s1]
  have s2 : ∀ o l b, bstep (o, 2, l) b = (o ++ [sym (Builtin.bitAnd ((Builtin.bitAnd (Builtin.bitOr (l * 2 ^ 8) b) 65535).fdiv (2 ^ 4)) 63)], 4, Builtin.bitAnd (Builtin.bitOr (l * 2 ^ 8) b) 65535) := by
    intro o l b
    unfold bstep
    dsimp only
    rw [wl10]
  rw [s2]
  have s3 : ∀ o l b, (bstep (o, 4, l) b).1 = o ++ [sym (Builtin.bitAnd ((Builtin.bitAnd (Builtin.bitOr (l * 2 ^ 8) b) 65535).fdiv (2 ^ 6)) 63)] ++ [sym (Builtin.bitAnd ((Builtin.bitAnd (Builtin.bitOr (l * 2 ^ 8) b) 65535).fdiv (2 ^ 0)) 63)] := by
    intro o l b
    unfold bstep
    dsimp only
    rw [wl12]
  rw [s3]
  rfl
theorem byte_back {n : Nat} (h : n < 256) : ((n.toUInt8).toNat : Int) = (n : Int) := by
  have : n.toUInt8.toNat = n % 256 := UInt8.toNat_ofNat'
  rw [this, Nat.mod_eq_of_lt h]
theorem txt_eq {w : Nat} (hw : w < 16777216) : txt w = byteArr (enc3 ((w / 65536 : Nat) : Int) ((w / 256 % 256 : Nat) : Int) ((w % 256 : Nat) : Int)) := by
  unfold txt
  rw [octs_eq hw]
  have e : bInts (byteArr [((w / 65536 : Nat) : Int), ((w / 256 % 256 : Nat) : Int), ((w % 256 : Nat) : Int)]) = [((w / 65536 : Nat) : Int), ((w / 256 % 256 : Nat) : Int), ((w % 256 : Nat) : Int)] := by
    unfold bInts byteArr
    simp only [List.map_cons, List.map_nil, Int.toNat_natCast]
    rw [byte_back (by (first | lia | omega)), byte_back (by (first | lia | omega)), byte_back (by (first | lia | omega))]
  rw [e, bAll3]
noncomputable def txtL (x : Int) : List Int := enc3 (((val x).toNat / 65536 : Nat) : Int) (((val x).toNat / 256 % 256 : Nat) : Int) (((val x).toNat % 256 : Nat) : Int)
noncomputable def xs24 : List Int := (List.range 24).map fun (i : Nat) => (i : Int)
theorem mem24 {x : Int} (h : 0 ≤ x ∧ x < 24) : x ∈ xs24 := by
  unfold xs24
  rw [List.mem_map]
  exact ⟨x.toNat, by rw [List.mem_range]; (first | lia | omega), by (first | lia | omega)⟩
theorem txt_tab : (xs24.all fun x => decide (txtL x = (figs x).reverse.map sgn)) = true := by decide +kernel
theorem lex_tab : (xs24.all fun x => xs24.all fun y => lexI (figs x).reverse (figs y).reverse == decide (val x < val y)) = true := by decide +kernel
theorem txt_val {x : Int} (h : 0 ≤ x ∧ x < 24) : txt (val x).toNat = sig x := by
  have hv := val_range x
  rw [txt_eq (by (first | lia | omega))]
  have := List.all_eq_true.mp txt_tab x (mem24 h)
  have := of_decide_eq_true this
  unfold txtL at this
  unfold sig
  rw [this]
theorem lex_val {x y : Int} (hx : 0 ≤ x ∧ x < 24) (hy : 0 ≤ y ∧ y < 24) : lexI (figs x).reverse (figs y).reverse = decide (val x < val y) := by
  have := List.all_eq_true.mp lex_tab x (mem24 hx)
  have := List.all_eq_true.mp this y (mem24 hy)
  simpa using this
theorem sig_size (x : Int) : (sig x).size = 4 := by unfold sig; rw [byteArr_size]; rfl
theorem cmn_tab : (xs24.all fun x => xs24.all fun y => decide ((dN (val x).toNat (val y).toNat : Int) = 4 - (cmn (sig x).toList (sig y).toList : Int))) = true := by decide +kernel
theorem cmn_val {x y : Int} (hx : 0 ≤ x ∧ x < 24) (hy : 0 ≤ y ∧ y < 24) : dist (val x) (val y) = 4 - (cmn (sig x).toList (sig y).toList : Int) := by
  have := List.all_eq_true.mp cmn_tab x (mem24 hx)
  have := of_decide_eq_true (List.all_eq_true.mp this y (mem24 hy))
  have h1 := val_range x
  have h2 := val_range y
  have e1 : val x = ((val x).toNat : Int) := by (first | lia | omega)
  have e2 : val y = ((val y).toNat : Int) := by (first | lia | omega)
  rw [e1, e2, dist_nat]
  exact this
/-! ### fronts -/
theorem take_cmn : ∀ (m : Nat) (a b : List UInt8), m ≤ a.length → m ≤ b.length → (a.take m = b.take m ↔ m ≤ cmn a b)
  | 0, a, b, _, _ => by simp
  | m + 1, [], b, h, _ => by simp at h
  | m + 1, x :: a, [], _, h => by simp at h
  | m + 1, x :: a, y :: b, h1, h2 => by
    have ih := take_cmn m a b (by simpa using h1) (by simpa using h2)
    rw [List.take_succ_cons, List.take_succ_cons, cmn]
    by_cases e : x = y
    · subst e
      rw [if_pos rfl]
      constructor
      · intro h; have := ih.mp (List.cons.inj h).2; (first | lia | omega)
      · intro h; rw [ih.mpr (by (first | lia | omega))]
    · rw [if_neg e]
      constructor
      · intro h; exact absurd (List.cons.inj h).1 e
      · intro h; (first | lia | omega)
theorem dd_four (L : List (List UInt8)) (p1 p2 p3 p4 : List UInt8) (h1 : p1.length = 1) (h2 : p2.length = 2) (h3 : p3.length = 3) (h4 : p4.length = 4) :
    (dd (L ++ [p1, p2, p3, p4])).length = (dd L).length + ((if p1 ∈ L then 0 else 1) + (if p2 ∈ L then 0 else 1) + (if p3 ∈ L then 0 else 1) + (if p4 ∈ L then 0 else 1)) := by
  have e : L ++ [p1, p2, p3, p4] = L ++ [p1] ++ [p2] ++ [p3] ++ [p4] := by simp
  have n21 : p2 ≠ p1 := fun z => by rw [z] at h2; (first | lia | omega)
  have n31 : p3 ≠ p1 := fun z => by rw [z] at h3; (first | lia | omega)
  have n32 : p3 ≠ p2 := fun z => by rw [z] at h3; (first | lia | omega)
  have n41 : p4 ≠ p1 := fun z => by rw [z] at h4; (first | lia | omega)
  have n42 : p4 ≠ p2 := fun z => by rw [z] at h4; (first | lia | omega)
  have n43 : p4 ≠ p3 := fun z => by rw [z] at h4; (first | lia | omega)
  rw [e, dd_add, dd_add, dd_add, dd_add]
  by_cases m1 : p1 ∈ L <;> by_cases m2 : p2 ∈ L <;> by_cases m3 : p3 ∈ L <;> by_cases m4 : p4 ∈ L <;> simp [n21, n31, n32, n41, n42, n43, m1, m2, m3, m4]
section
variable {t : Nat → List UInt8} {n : Nat}
noncomputable def Fro (t : Nat → List UInt8) (i : Nat) : List (List UInt8) := (List.range i).flatMap fun k => (List.range 4).map fun m => (t k).take (m + 1)
theorem Fro_succ (i : Nat) : Fro t (i + 1) = Fro t i ++ [(t i).take 1, (t i).take 2, (t i).take 3, (t i).take 4] := by
  unfold Fro
  rw [List.range_succ (n := i), List.flatMap_append]
  rfl
theorem mem_Fro {i m : Nat} (hl : ∀ k, k ≤ i → (t k).length = 4) (hm : 1 ≤ m ∧ m ≤ 4) : (t i).take m ∈ Fro t i ↔ ∃ k, k < i ∧ m ≤ cmn (t i) (t k) := by
  unfold Fro
  rw [List.mem_flatMap]
  constructor
  · rintro ⟨k, hk, h⟩
    rw [List.mem_range] at hk
    obtain ⟨m', hm', e⟩ := List.mem_map.mp h
    rw [List.mem_range] at hm'
    have l1 := hl i (Nat.le_refl _)
    have l2 := hl k (by (first | lia | omega))
    have hlen := congrArg List.length e
    simp only [List.length_take, l1, l2] at hlen
    have : m' + 1 = m := by (first | lia | omega)
    rw [this] at e
    exact ⟨k, hk, (take_cmn m _ _ (by (first | lia | omega)) (by (first | lia | omega))).mp e.symm⟩
  · rintro ⟨k, hk, h⟩
    have l1 := hl i (Nat.le_refl _)
    have l2 := hl k (by (first | lia | omega))
    refine ⟨k, by rw [List.mem_range]; exact hk, List.mem_map.mpr ⟨m - 1, by rw [List.mem_range]; (first | lia | omega), ?_⟩⟩
    have e : m - 1 + 1 = m := by (first | lia | omega)
    rw [e]
    exact ((take_cmn m _ _ (by (first | lia | omega)) (by (first | lia | omega))).mpr h).symm
theorem Fro_count (hl : ∀ k, k < n → (t k).length = 4) (hc : ∀ i j, j ≤ i → i + 1 < n → cmn (t (i + 1)) (t j) ≤ cmn (t (i + 1)) (t i)) : ∀ i, i + 1 ≤ n → (dd (Fro t (i + 1))).length = 4 + ((List.range i).map fun k => 4 - cmn (t (k + 1)) (t k)).sum
  | 0, h => by
    have l0 := hl 0 (by (first | lia | omega))
    have l : ∀ m, m ≤ 4 → ((t 0).take m).length = m := fun m hm => by rw [List.length_take, l0]; (first | lia | omega)
    rw [Fro_succ, dd_four _ _ _ _ _ (l 1 (by (first | lia | omega))) (l 2 (by (first | lia | omega))) (l 3 (by (first | lia | omega))) (l 4 (by (first | lia | omega)))]
    rfl
  | i + 1, h => by
    have ih := Fro_count hl hc i (by (first | lia | omega))
    have l0 := hl (i + 1) (by (first | lia | omega))
    have l : ∀ m, m ≤ 4 → ((t (i + 1)).take m).length = m := fun m hm => by rw [List.length_take, l0]; (first | lia | omega)
    have mem : ∀ m, 1 ≤ m → m ≤ 4 → ((t (i + 1)).take m ∈ Fro t (i + 1) ↔ m ≤ cmn (t (i + 1)) (t i)) := by
      intro m h1 h2
      rw [mem_Fro (fun k hk => hl k (by (first | lia | omega))) ⟨h1, h2⟩]
      constructor
      · rintro ⟨k, hk, hm⟩; exact Nat.le_trans hm (hc i k (by (first | lia | omega)) (by (first | lia | omega)))
      · intro hm; exact ⟨i, by (first | lia | omega), hm⟩
    rw [Fro_succ (i + 1), dd_four _ _ _ _ _ (l 1 (by (first | lia | omega))) (l 2 (by (first | lia | omega))) (l 3 (by (first | lia | omega))) (l 4 (by (first | lia | omega))), ih, List.range_succ, List.map_append, List.sum_append]
    simp only [mem 1 (by (first | lia | omega)) (by (first | lia | omega)), mem 2 (by (first | lia | omega)) (by (first | lia | omega)), mem 3 (by (first | lia | omega)) (by (first | lia | omega)), mem 4 (by (first | lia | omega)) (by (first | lia | omega))]
    have hcle := cmn_le (t (i + 1)) (t i)
    rw [l0] at hcle
    have hf := four (cmn (t (i + 1)) (t i)) hcle
    simp only [List.map_cons, List.map_nil, List.sum_cons, List.sum_nil]
    have : ∀ m, (if m ≤ cmn (t (i + 1)) (t i) then (0 : Nat) else 1) = 1 - (if m ≤ cmn (t (i + 1)) (t i) then 1 else 0) := fun m => by split <;> rfl
    rw [this, this, this, this]
    have b : ∀ m, (if m ≤ cmn (t (i + 1)) (t i) then (1 : Nat) else 0) ≤ 1 := fun m => by split <;> (first | lia | omega)
    have b1 := b 1
    have b2 := b 2
    have b3 := b 3
    have b4 := b 4
    (first | lia | omega)
end
/-! ### least xor -/
theorem xor_chain {w : Nat → Nat} {n : Nat} (hm : ∀ i j, i ≤ j → j < n → w i ≤ w j) : ∀ (d j : Nat), j + d + 1 < n → ∃ k, k + 1 < n ∧ w (k + 1) ^^^ w k ≤ w (j + d + 1) ^^^ w j
  | 0, j, h => ⟨j, h, Nat.le_refl _⟩
  | d + 1, j, h => by
    rcases xor_mid (hm j (j + d + 1) (by (first | lia | omega)) (by (first | lia | omega))) (hm (j + d + 1) (j + (d + 1) + 1) (by (first | lia | omega)) h) with q | q
    · obtain ⟨k, a, b⟩ := xor_chain hm d j (by (first | lia | omega))
      exact ⟨k, a, Nat.le_trans b q⟩
    · exact ⟨j + d + 1, by (first | lia | omega), q⟩
theorem least_plain {vs : List Int} (V : Sorted24 vs) {m y : Int} (hm : m ∈ pairX vs) (hmin : ∀ z ∈ pairX vs, m ≤ z) (hy : y ∈ besX vs) (hymin : ∀ z ∈ besX vs, y ≤ z) : m = y := by
  have x1 : ∀ i j, i < vs.length → j < vs.length → Builtin.bitXor (vs.getD i 0) (vs.getD j 0) = ((wOf vs i ^^^ wOf vs j : Nat) : Int) := fun i j hi hj => by rw [V.cast hi, V.cast hj, bitXor_nat]
  have h1 : m ≤ y := by
    refine hmin y ?_
    unfold besX at hy
    obtain ⟨k, hk, rfl⟩ := List.mem_map.mp hy
    rw [List.mem_range] at hk
    exact List.mem_flatMap.mpr ⟨k + 1, by rw [List.mem_range]; (first | lia | omega), List.mem_map.mpr ⟨k, by simp, rfl⟩⟩
  have h2 : y ≤ m := by
    unfold pairX at hm
    obtain ⟨i, hi, hm⟩ := List.mem_flatMap.mp hm
    obtain ⟨j, hj, rfl⟩ := List.mem_map.mp hm
    rw [List.mem_range] at hi hj
    obtain ⟨k, hk, hle⟩ := xor_chain V.mono (i - j - 1) j (by (first | lia | omega))
    have e : j + (i - j - 1) + 1 = i := by (first | lia | omega)
    rw [e] at hle
    have := hymin (Builtin.bitXor (vs.getD (k + 1) 0) (vs.getD k 0)) (List.mem_map.mpr ⟨k, by rw [List.mem_range]; (first | lia | omega), rfl⟩)
    rw [x1 _ _ hk (by (first | lia | omega))] at this
    rw [x1 _ _ hi (by (first | lia | omega))]
    (first | lia | omega)
  (first | lia | omega)
/-- far against the greatest of the steps between -/
theorem far_plain {vs : List Int} (V : Sorted24 vs) {i j : Nat} (hji : j < i) (hi : i < vs.length) {x : Int} (hx : x ∈ ((bes vs).drop j).take (i - j)) (hmax : ∀ y ∈ ((bes vs).drop j).take (i - j), y ≤ x) : dist (vs.getD i 0) (vs.getD j 0) = x := by
  have mem : ∀ y, y ∈ ((bes vs).drop j).take (i - j) ↔ ∃ k, j ≤ k ∧ k < i ∧ y = (dN (wOf vs (k + 1)) (wOf vs k) : Int) := by
    intro y
    have hbl : (bes vs).length = vs.length - 1 := by unfold bes; simp
    have g : ∀ k, k < i → (bes vs)[k]? = some ((dN (wOf vs (k + 1)) (wOf vs k) : Int)) := fun k hk => by rw [bes_get vs (by (first | lia | omega)), V.dist (by (first | lia | omega)) (by (first | lia | omega))]
    constructor
    · intro h
      obtain ⟨l, hl, e⟩ := List.getElem_of_mem h
      have hl' : l < i - j := by simp at hl; (first | lia | omega)
      refine ⟨j + l, by (first | lia | omega), by (first | lia | omega), ?_⟩
      have := g (j + l) (by (first | lia | omega))
      rw [← e, List.getElem_take, List.getElem_drop]
      rw [List.getElem?_eq_getElem (by (first | lia | omega))] at this
      exact Option.some.inj this
    · rintro ⟨k, a, b, rfl⟩
      refine List.mem_of_getElem? (i := k - j) ?_
      rw [List.getElem?_take_of_lt (by (first | lia | omega)), List.getElem?_drop]
      have e : j + (k - j) = k := by (first | lia | omega)
      rw [e]; exact g k b
  rw [V.dist hi (by (first | lia | omega))]
  obtain ⟨k, a, b, rfl⟩ := (mem x).mp hx
  have h1 : dN (wOf vs (k + 1)) (wOf vs k) ≤ dN (wOf vs i) (wOf vs j) := by
    by_cases h0 : dN (wOf vs (k + 1)) (wOf vs k) = 0
    · (first | lia | omega)
    · exact (path V.mono (by (first | lia | omega)) hi (by (first | lia | omega))).mpr ⟨k, a, b, Nat.le_refl _⟩
  have h2 : dN (wOf vs i) (wOf vs j) ≤ dN (wOf vs (k + 1)) (wOf vs k) := by
    by_cases h0 : dN (wOf vs i) (wOf vs j) = 0
    · (first | lia | omega)
    · obtain ⟨l, c, d, e⟩ := (path V.mono (by (first | lia | omega)) hi (show 1 ≤ dN (wOf vs i) (wOf vs j) by (first | lia | omega))).mp (Nat.le_refl _)
      have := hmax _ ((mem _).mpr ⟨l, c, d, rfl⟩)
      (first | lia | omega)
  (first | lia | omega)

/-! ## the law's body as a whole -/
theorem ne_of {σ : St} {b c : Addr} {p q : PO} (h1 : σ b = some p) (h2 : σ c = some q) (h : p ≠ q) : b ≠ c := fun z => by
  rw [z, h2] at h1; cases h1; exact h rfl
theorem draw_len (zs : List Int) : 3 ≤ (draw zs).length ∧ (draw zs).length ≤ 7 := by
  unfold draw; simp; (first | lia | omega)
theorem draw_range (zs : List Int) : ∀ x ∈ draw zs, 0 ≤ x ∧ x < 24 := by
  intro x hx
  unfold draw at hx
  rcases List.mem_append.mp hx with h | h
  · simp at h; (first | lia | omega)
  · obtain ⟨z, _, rfl⟩ := List.mem_map.mp h
    show 0 ≤ z.fmod 24 ∧ z.fmod 24 < 24
    rw [Int.fmod_eq_emod_of_nonneg _ (by decide)]
    (first | lia | omega)
section
variable {C : Cx} {n : Nat} {σ : St} {L : Addr} {a : Addr × Value}
set_option maxHeartbeats 8000000 in
theorem law_body (S : Stat C) {sc : Addr} {o : Obj} {zs : List Int} (hb : C.B sc = some o) (hcl : o.cls = .type "list") (hdt : ∃ vs m, o.data = .seq vs m ∧ IntsAre vs.toList zs) (hz : zs.length ≤ 1000) (hT1 : Tab1 σ) (hT2 : Tab2 σ) (hc1 : σ (L + 1) = some (.cell none)) (hc2 : σ (L + 2) = some (.cell none)) :
    WSs C (n + 14) (lawEnv L a) (bodyOf (stmtAt 24)) [("script", .imm (.ref sc))] σ (fun f _ σ' => f = .ret (.bool true) ∧ Tab1 σ' ∧ Tab2 σ') := by
  show WSs C (n + 14) (lawEnv L a) [lawStmt 0, lawStmt 1, lawStmt 2, lawStmt 3, lawStmt 4, lawStmt 5, lawStmt 6, lawStmt 7, lawStmt 8, lawStmt 9, lawStmt 10, lawStmt 11] _ σ _
  obtain ⟨hx3, hx7⟩ := draw_len zs
  have hxr := draw_range zs
  refine WSs_cons (s0 rfl hb hcl hdt hz fun dr σ1 hs1 hdr => ?_)
  generalize draw zs = xs at *
  have T1 := hT1.sub hs1
  have T2 := hT2.sub hs1
  have c1 := hs1 _ _ hc1
  have c2 := hs1 _ _ hc2
  have nL : L + 2 ≠ L + 1 := Nat.ne_of_gt (Nat.add_lt_add_left (by decide) _)
  clear hs1 hT1 hT2 hc1 hc2
  show WSs C (n + 14) (lawEnv L a) _ _ σ1 _
  refine WSs_cons (s1 S rfl hdr (by (first | lia | omega)) T2 c1 fun od σ2 k2 tt2 co2 od2 => ?_)
  have hvl : (inOrder (xs.map val)).length = xs.length := by rw [(inOrder_ok _).1.length_eq]; simp
  have V : Sorted24 (inOrder (xs.map val)) := by
    obtain ⟨p, q⟩ := inOrder_ok (xs.map val)
    refine ⟨fun v hv => ?_, q⟩
    obtain ⟨x, _, rfl⟩ := List.mem_map.mp (p.mem_iff.mp hv)
    exact val_range x
  have hvp := (inOrder_ok (xs.map val)).1
  generalize inOrder (xs.map val) = vs at *
  have tb1 : Tab1 σ2 := by
    obtain ⟨e, h, h'⟩ := T1
    obtain ⟨e2, h2, _⟩ := T2
    refine ⟨e, k2 _ _ ?_ h, h'⟩
    intro z
    simp only [List.mem_cons, List.not_mem_nil, or_false] at z
    rcases z with z | z
    · exact absurd z (by decide)
    · rw [z, c1] at h; cases h
  have dr2 : σ2 dr = some (.list (iL xs)) := by
    obtain ⟨e2, h2, _⟩ := T2
    refine k2 _ _ ?_ hdr
    intro z
    simp only [List.mem_cons, List.not_mem_nil, or_false] at z
    rcases z with z | z
    · rw [z, h2] at hdr; cases hdr
    · rw [z, c1] at hdr; cases hdr
  have cf2 : σ2 (L + 2) = some (.cell none) := by
    obtain ⟨e2, h2, _⟩ := T2
    refine k2 _ _ ?_ c2
    intro z
    simp only [List.mem_cons, List.not_mem_nil, or_false] at z
    rcases z with z | z
    · rw [z, h2] at c2; cases c2
    · exact nL z
  clear k2 T1 T2 c1 c2 hdr
  show WSs C (n + 14) (lawEnv L a) _ _ σ2 _
  refine WSs_cons (s2 S co2 od2 (by (first | lia | omega)) V.rng tb1 fun tx σ3 k3 t3 tx3 => ?_)
  have kk : ∀ {b p}, σ2 b = some p → (∀ e, p ≠ .tab e) → σ3 b = some p := fun {b p} hb hp => by
    obtain ⟨e, h, _⟩ := tb1
    refine k3 _ _ ?_ hb
    intro z
    simp only [List.mem_cons, List.not_mem_nil, or_false] at z
    rw [z, h] at hb; cases hb; exact hp e rfl
  have co3 := kk co2 (fun e z => by cases z)
  have od3 := kk od2 (fun e z => by cases z)
  have dr3 := kk dr2 (fun e z => by cases z)
  have cf3 := kk cf2 (fun e z => by cases z)
  have tt3 : Tab2 σ3 := let ⟨e, h, h'⟩ := tt2; ⟨e, k3 _ _ (by decide) h, h'⟩
  clear kk k3 co2 od2 dr2 cf2 tb1 tt2
  show WSs C (n + 14) (lawEnv L a) _ _ σ3 _
  refine WSs_cons (s3 S rfl dr3 (by (first | lia | omega)) (by (first | lia | omega)) (fun x hx y hy => lex_val (hxr x hx) (hxr y hy)) fun rw σ4 as ys s4' rw4 hyp hys hasl hrow4 => ?_)
  have hvy : vs = ys.map val := by
    refine List.Perm.eq_of_pairwise (le := (· ≤ ·)) (fun x y _ _ h1 h2 => by (first | lia | omega)) V.inc (List.pairwise_map.mpr hys) ?_
    exact hvp.trans (hyp.map val).symm
  have hyr : ∀ y ∈ ys, 0 ≤ y ∧ y < 24 := fun y hy => hxr y (hyp.mem_iff.mp hy)
  have hyl : ys.length = xs.length := hyp.length_eq
  have hTy : (vs.map fun v => txt v.toNat) = ys.map sig := by
    rw [hvy, List.map_map]
    refine List.map_congr_left fun y hy => ?_
    exact txt_val (hyr y hy)
  rw [hTy] at tx3
  have co4 := s4' _ _ co3
  have od4 := s4' _ _ od3
  have dr4 := s4' _ _ dr3
  have cf4 := s4' _ _ cf3
  have tx4 := s4' _ _ tx3
  have t4 := t3.sub s4'
  have tt4 := tt3.sub s4'
  clear co3 od3 dr3 cf3 tx3 t3 tt3 s4'
  show WSs C (n + 14) (lawEnv L a) _ _ σ4 _
  refine WSs_cons (s4 S co4 od4 (by (first | lia | omega)) V.rng t4 cf4 fun fa σ5 fas k5 t5 cf5 fa5 hfl hfr => ?_)
  have kk : ∀ {b p}, σ4 b = some p → (∀ e, p ≠ .tab e) → p ≠ .cell none → σ5 b = some p := fun {b p} hb hp hp2 => by
    obtain ⟨e, h, _⟩ := t4
    refine k5 _ _ ?_ hb
    intro z
    simp only [List.mem_cons, List.not_mem_nil, or_false] at z
    rcases z with z | z
    · rw [z, h] at hb; cases hb; exact hp e rfl
    · rw [z, cf4] at hb; cases hb; exact hp2 rfl
  have co5 := kk co4 (fun e z => by cases z) (fun z => by cases z)
  have od5 := kk od4 (fun e z => by cases z) (fun z => by cases z)
  have dr5 := kk dr4 (fun e z => by cases z) (fun z => by cases z)
  have tx5 := kk tx4 (fun e z => by cases z) (fun z => by cases z)
  have rw5 := kk rw4 (fun e z => by cases z) (fun z => by cases z)
  have hrow5 : ∀ (i : Nat) (x : Int), ys[i]? = some x → ∃ ad, as[i]? = some ad ∧ σ5 ad = some (.list (iL (figs x).reverse)) := fun i x h => by
    obtain ⟨ad, e1, e2⟩ := hrow4 i x h
    exact ⟨ad, e1, kk e2 (fun e z => by cases z) (fun z => by cases z)⟩
  have tt5 : Tab2 σ5 := by
    obtain ⟨e, h, h'⟩ := tt4
    refine ⟨e, k5 _ _ ?_ h, h'⟩
    intro z
    simp only [List.mem_cons, List.not_mem_nil, or_false] at z
    rcases z with z | z
    · exact absurd z (by decide)
    · rw [z, cf4] at h; cases h
  clear kk k5 tt4 t4 co4 od4 dr4 cf4 tx4 rw4 hrow4
  show WSs C (n + 14) (lawEnv L a) _ _ σ5 _
  refine WSs_cons (s5 S co5 od5 (by (first | lia | omega)) (by (first | lia | omega)) cf5 fa5 hfl hfr fun be hbe => ?_)
  have hs6 : SubS σ5 (σ5.set be (.list (iL (bes vs)))) := drop_set hbe
  have H6 : LCtx (σ5.set be (.list (iL (bes vs)))) L od fa tx be dr fas vs xs (ys.map sig) := {
    co := hs6 _ _ co5
    od := hs6 _ _ od5
    cf := hs6 _ _ cf5
    fa := hs6 _ _ fa5
    len := hfl
    row := fun j ad hj => hs6 _ _ (hfr j ad hj)
    be := St.set_same ..
    tx := hs6 _ _ tx5
    dr := hs6 _ _ dr5
    tl := by simp; (first | lia | omega)
    n1 := by (first | lia | omega)
    n2 := by (first | lia | omega) }
  have rw6 := hs6 _ _ rw5
  have t6 := t5.sub hs6
  have tt6 := tt5.sub hs6
  have hrow6 : ∀ (i : Nat) (x : Int), ys[i]? = some x → ∃ ad, as[i]? = some ad ∧ (σ5.set be (.list (iL (bes vs)))) ad = some (.list (iL (figs x).reverse)) := fun i x h => by
    obtain ⟨ad, e1, e2⟩ := hrow5 i x h
    exact ⟨ad, e1, hs6 _ _ e2⟩
  generalize σ5.set be (.list (iL (bes vs))) = σ6 at *
  clear hs6 t5 tt5 co5 od5 dr5 tx5 rw5 hrow5 hfr fa5 cf5 hbe
  show WSs C (n + 14) (lawEnv L a) _ _ σ6 _
  refine WSs_cons (s6 S rfl rfl H6.tx rw6 hasl (by (first | lia | omega)) hrow6 rfl fun σ7 hs7 => ?_)
  have H7 := H6.sub hs7
  have t7 := t6.sub hs7
  have tt7 := tt6.sub hs7
  have hlen : vs.length = ys.length := by (first | lia | omega)
  have hTsz : ∀ t ∈ ys.map sig, t.size ≤ 1000 := by
    intro t ht
    obtain ⟨y, _, rfl⟩ := List.mem_map.mp ht
    rw [sig_size]; decide
  have gy : ∀ i, i < vs.length → vs.getD i 0 = val (ys.getD i 0) ∧ (ys.map sig).getD i #[] = sig (ys.getD i 0) ∧ (0 ≤ ys.getD i 0 ∧ ys.getD i 0 < 24) := by
    intro i hi
    have hiy : i < ys.length := by (first | lia | omega)
    refine ⟨?_, ?_, hyr _ (getD_mem hiy)⟩
    · rw [hvy]; simp [List.getD_eq_getElem?_getD, hiy]
    · simp [List.getD_eq_getElem?_getD, hiy]
  have hB2 : ∀ i j, i < vs.length → j < vs.length → dist (vs.getD i 0) (vs.getD j 0) = 4 - (cmn ((ys.map sig).getD i #[]).toList ((ys.map sig).getD j #[]).toList : Int) := by
    intro i j hi hj
    obtain ⟨a1, a2, a3⟩ := gy i hi
    obtain ⟨b1, b2, b3⟩ := gy j hj
    rw [a1, b1, a2, b2]
    exact cmn_val a3 b3
  show WSs C (n + 14) (lawEnv L a) _ _ σ7 _
  refine WSs_cons (s7 S H7 hTsz (fun i j hji hi x hx hm => far_plain V hji hi hx hm) (fun i j hji hi => hB2 i j hi (by (first | lia | omega))) ⟨rfl, rfl, rfl, trivial⟩ fun σ8 hs8 => ?_)
  have H8 := H7.sub hs8
  have t8 := t7.sub hs8
  have tt8 := tt7.sub hs8
  have hst : 0 ≤ xs.sum.fmod xs.length ∧ xs.sum.fmod xs.length < vs.length := by
    rw [Int.fmod_eq_emod_of_nonneg _ (by (first | lia | omega))]
    have h1 := Int.emod_nonneg xs.sum (show (xs.length : Int) ≠ 0 by (first | lia | omega))
    have h2 := Int.emod_lt_of_pos xs.sum (show (0 : Int) < xs.length by (first | lia | omega))
    (first | lia | omega)
  show WSs C (n + 14) (lawEnv L a) _ _ σ8 _
  refine WSs_cons (s8 S H8 V.rng (by (first | lia | omega)) hxr (net_plain V (by (first | lia | omega)) (by (first | lia | omega)) hst) ?_)
  show WSs C (n + 14) (lawEnv L a) _ _ σ8 _
  have hD : ((dd ((fronts (ys.map sig)).map (·.toList))).length : Int) = 4 + (bes vs).sum := by
    have tlen : ∀ k, k < vs.length → ((ys.map sig).getD k #[]).toList.length = 4 := fun k hk => by
      rw [(gy k hk).2.1]; simpa using sig_size _
    have cN : ∀ i j, i < vs.length → j < vs.length → dN (wOf vs i) (wOf vs j) = 4 - cmn ((ys.map sig).getD i #[]).toList ((ys.map sig).getD j #[]).toList := by
      intro i j hi hj
      have h1 := hB2 i j hi hj
      rw [V.dist hi hj] at h1
      have h2 := cmn_le ((ys.map sig).getD i #[]).toList ((ys.map sig).getD j #[]).toList
      rw [tlen i hi] at h2
      (first | lia | omega)
    have hc : ∀ i j, j ≤ i → i + 1 < vs.length → cmn ((ys.map sig).getD (i + 1) #[]).toList ((ys.map sig).getD j #[]).toList ≤ cmn ((ys.map sig).getD (i + 1) #[]).toList ((ys.map sig).getD i #[]).toList := by
      intro i j hji hi
      have h1 := cN (i + 1) j hi (by (first | lia | omega))
      have h2 := cN (i + 1) i hi (by (first | lia | omega))
      have l1 := cmn_le ((ys.map sig).getD (i + 1) #[]).toList ((ys.map sig).getD j #[]).toList
      have l2 := cmn_le ((ys.map sig).getD (i + 1) #[]).toList ((ys.map sig).getD i #[]).toList
      rw [tlen _ hi] at l1 l2
      have : dN (wOf vs (i + 1)) (wOf vs i) ≤ dN (wOf vs (i + 1)) (wOf vs j) := by
        by_cases h0 : dN (wOf vs (i + 1)) (wOf vs i) = 0
        · (first | lia | omega)
        · exact (path V.mono (by (first | lia | omega)) hi (by (first | lia | omega))).mpr ⟨i, hji, by (first | lia | omega), Nat.le_refl _⟩
      (first | lia | omega)
    have cnt := Fro_count (t := fun k => ((ys.map sig).getD k #[]).toList) (n := vs.length) tlen hc (vs.length - 1) (by (first | lia | omega))
    have e1 : vs.length - 1 + 1 = ys.length := by (first | lia | omega)
    rw [e1] at cnt
    have efr : (fronts (ys.map sig)).map (·.toList) = Fro (fun k => ((ys.map sig).getD k #[]).toList) ys.length := by
      unfold fronts Fro
      rw [List.map_flatMap]
      have er : ys.map sig = (List.range ys.length).map fun k => (ys.map sig).getD k #[] := by
        apply List.ext_getElem
        · simp
        · intro i h1 h2
          simp at h1
          simp [List.getD_eq_getElem?_getD, h1]
      conv => lhs; rw [er, List.flatMap_map]
      congr 1
    rw [efr, cnt, bes_sum V]
    have : ((List.range (vs.length - 1)).map fun k => 4 - cmn ((ys.map sig).getD (k + 1) #[]).toList ((ys.map sig).getD k #[]).toList) = ((List.range (vs.length - 1)).map fun k => dN (wOf vs (k + 1)) (wOf vs k)) := by
      refine List.map_congr_left fun k hk => ?_
      rw [List.mem_range] at hk
      exact (cN (k + 1) k (by (first | lia | omega)) (by (first | lia | omega))).symm
    rw [this]
    push_cast
    rfl
  refine WSs_cons (s9 S H8 V.rng hTsz hD fun σ9 hs9 => ?_)
  have H9 := H8.sub hs9
  have t9 := t8.sub hs9
  have tt9 := tt8.sub hs9
  show WSs C (n + 14) (lawEnv L a) _ _ σ9 _
  refine WSs_cons (s10 S H9 fun m σ10 hs10 hm hmin => ?_)
  have H10 := H9.sub hs10
  have t10 := t9.sub hs10
  have tt10 := tt9.sub hs10
  show WSs C (n + 14) (lawEnv L a) _ _ σ10 _
  refine WSs_cons (s11 S H10 rfl (fun y hy hymin => least_plain V hm hmin hy hymin) fun σ11 hs11 => ?_)
  exact ⟨rfl, t10.sub hs11, tt10.sub hs11⟩
end
end Mine

namespace Mine
/-! ## the top's facts -/
set_option maxHeartbeats 4000000 in
theorem fn_28 {P : Params} {gh : Heap} (X : (frag P).In gh) : VR (fun a => gh.get? a) (.fn k_int2digits) (.ref 28) :=
  ⟨28, _, _, rfl, X 28 _ rfl, rfl, ⟨rfl, rfl, rfl, rfl, rfl, rfl, rfl, rfl, rfl, rfl, ⟨27, _, _, _, rfl, X 27 _ rfl, rfl, rfl⟩⟩⟩
set_option maxHeartbeats 4000000 in
theorem fn_35 {P : Params} {gh : Heap} (X : (frag P).In gh) : VR (fun a => gh.get? a) (.fn k_digits2int) (.ref 35) :=
  ⟨35, _, _, rfl, X 35 _ rfl, rfl, ⟨rfl, rfl, rfl, rfl, rfl, rfl, rfl, rfl, rfl, rfl, ⟨34, _, _, _, rfl, X 34 _ rfl, rfl, rfl⟩⟩⟩
set_option maxHeartbeats 4000000 in
theorem fn_42 {P : Params} {gh : Heap} (X : (frag P).In gh) : VR (fun a => gh.get? a) (.fn k_heappush) (.ref 42) :=
  ⟨42, _, _, rfl, X 42 _ rfl, rfl, ⟨rfl, rfl, rfl, rfl, rfl, rfl, rfl, rfl, rfl, rfl, ⟨41, _, _, _, rfl, X 41 _ rfl, rfl, rfl⟩⟩⟩
set_option maxHeartbeats 4000000 in
theorem fn_49 {P : Params} {gh : Heap} (X : (frag P).In gh) : VR (fun a => gh.get? a) (.fn k_heappop) (.ref 49) :=
  ⟨49, _, _, rfl, X 49 _ rfl, rfl, ⟨rfl, rfl, rfl, rfl, rfl, rfl, rfl, rfl, rfl, rfl, ⟨48, _, _, _, rfl, X 48 _ rfl, rfl, rfl⟩⟩⟩
set_option maxHeartbeats 4000000 in
theorem fn_56 {P : Params} {gh : Heap} (X : (frag P).In gh) : VR (fun a => gh.get? a) (.fn k_heapify) (.ref 56) :=
  ⟨56, _, _, rfl, X 56 _ rfl, rfl, ⟨rfl, rfl, rfl, rfl, rfl, rfl, rfl, rfl, rfl, rfl, ⟨55, _, _, _, rfl, X 55 _ rfl, rfl, rfl⟩⟩⟩
set_option maxHeartbeats 4000000 in
theorem fn_63 {P : Params} {gh : Heap} (X : (frag P).In gh) : VR (fun a => gh.get? a) (.fn k_siftdown) (.ref 63) :=
  ⟨63, _, _, rfl, X 63 _ rfl, rfl, ⟨rfl, rfl, rfl, rfl, rfl, rfl, rfl, rfl, rfl, rfl, ⟨62, _, _, _, rfl, X 62 _ rfl, rfl, rfl⟩⟩⟩
set_option maxHeartbeats 4000000 in
theorem fn_70 {P : Params} {gh : Heap} (X : (frag P).In gh) : VR (fun a => gh.get? a) (.fn k_siftup) (.ref 70) :=
  ⟨70, _, _, rfl, X 70 _ rfl, rfl, ⟨rfl, rfl, rfl, rfl, rfl, rfl, rfl, rfl, rfl, rfl, ⟨69, _, _, _, rfl, X 69 _ rfl, rfl, rfl⟩⟩⟩
set_option maxHeartbeats 4000000 in
theorem fn_77 {P : Params} {gh : Heap} (X : (frag P).In gh) : VR (fun a => gh.get? a) (.fn k_buffer) (.ref 77) :=
  ⟨77, _, _, rfl, X 77 _ rfl, rfl, ⟨rfl, rfl, rfl, rfl, rfl, rfl, rfl, rfl, rfl, rfl, ⟨76, _, _, _, rfl, X 76 _ rfl, rfl, rfl⟩⟩⟩
set_option maxHeartbeats 4000000 in
theorem fn_84 {P : Params} {gh : Heap} (X : (frag P).In gh) : VR (fun a => gh.get? a) (.fn k_truth) (.ref 84) :=
  ⟨84, _, _, rfl, X 84 _ rfl, rfl, ⟨rfl, rfl, rfl, rfl, rfl, rfl, rfl, rfl, rfl, rfl, ⟨83, _, _, _, rfl, X 83 _ rfl, rfl, rfl⟩⟩⟩
set_option maxHeartbeats 4000000 in
theorem fn_92 {P : Params} {gh : Heap} (X : (frag P).In gh) : VR (fun a => gh.get? a) (.fn k_b2a) (.ref 92) :=
  ⟨92, _, _, rfl, X 92 _ rfl, rfl, ⟨rfl, rfl, rfl, rfl, rfl, rfl, rfl, rfl, rfl, rfl, ⟨91, _, _, _, rfl, X 91 _ rfl, rfl, rfl⟩⟩⟩
set_option maxHeartbeats 4000000 in
theorem fn_100 {P : Params} {gh : Heap} (X : (frag P).In gh) : VR (fun a => gh.get? a) (.fn k_b64) (.ref 100) :=
  ⟨100, _, _, rfl, X 100 _ rfl, rfl, ⟨rfl, rfl, rfl, rfl, rfl, rfl, rfl, rfl, rfl, rfl, ⟨99, _, _, _, rfl, X 99 _ rfl, rfl, rfl⟩⟩⟩
set_option maxHeartbeats 4000000 in
theorem fn_107 {P : Params} {gh : Heap} (X : (frag P).In gh) : VR (fun a => gh.get? a) (.fn k_figures) (.ref 107) :=
  ⟨107, _, _, rfl, X 107 _ rfl, rfl, ⟨rfl, rfl, rfl, rfl, rfl, rfl, rfl, rfl, rfl, rfl, ⟨106, _, _, _, rfl, X 106 _ rfl, rfl, rfl⟩⟩⟩
set_option maxHeartbeats 4000000 in
theorem fn_114 {P : Params} {gh : Heap} (X : (frag P).In gh) : VR (fun a => gh.get? a) (.fn k_sign) (.ref 114) :=
  ⟨114, _, _, rfl, X 114 _ rfl, rfl, ⟨rfl, rfl, rfl, rfl, rfl, rfl, rfl, rfl, rfl, rfl, ⟨113, _, _, _, rfl, X 113 _ rfl, rfl, rfl⟩⟩⟩
set_option maxHeartbeats 4000000 in
theorem fn_121 {P : Params} {gh : Heap} (X : (frag P).In gh) : VR (fun a => gh.get? a) (.fn k_octets) (.ref 121) :=
  ⟨121, _, _, rfl, X 121 _ rfl, rfl, ⟨rfl, rfl, rfl, rfl, rfl, rfl, rfl, rfl, rfl, rfl, ⟨120, _, _, _, rfl, X 120 _ rfl, rfl, rfl⟩⟩⟩
set_option maxHeartbeats 4000000 in
theorem fn_128 {P : Params} {gh : Heap} (X : (frag P).In gh) : VR (fun a => gh.get? a) (.fn k_in_order) (.ref 128) :=
  ⟨128, _, _, rfl, X 128 _ rfl, rfl, ⟨rfl, rfl, rfl, rfl, rfl, rfl, rfl, rfl, rfl, rfl, ⟨127, _, _, _, rfl, X 127 _ rfl, rfl, rfl⟩⟩⟩
set_option maxHeartbeats 4000000 in
theorem fn_135 {P : Params} {gh : Heap} (X : (frag P).In gh) : VR (fun a => gh.get? a) (.fn k_common) (.ref 135) :=
  ⟨135, _, _, rfl, X 135 _ rfl, rfl, ⟨rfl, rfl, rfl, rfl, rfl, rfl, rfl, rfl, rfl, rfl, ⟨134, _, _, _, rfl, X 134 _ rfl, rfl, rfl⟩⟩⟩
set_option maxHeartbeats 4000000 in
theorem fn_142 {P : Params} {gh : Heap} (X : (frag P).In gh) : VR (fun a => gh.get? a) (.fn k_net) (.ref 142) :=
  ⟨142, _, _, rfl, X 142 _ rfl, rfl, ⟨rfl, rfl, rfl, rfl, rfl, rfl, rfl, rfl, rfl, rfl, ⟨141, _, _, _, rfl, X 141 _ rfl, rfl, rfl⟩⟩⟩
noncomputable def GFact (gh h : Heap) (F : Fz) (x : Str) (v : PV) : Prop := ∃ v' mg, VR F v v' ∧ h.Ns mainGlobals mg ∧ (mg x = some v' ∨ mg x = none ∧ ∃ mb, h.Ns builtinsNs mb ∧ mb x = some v')
set_option maxHeartbeats 8000000 in
theorem glob_ok {P : Params} {gh : Heap} {p : Program} {loose : List Str} {mean : ExcName → Option Value} {mg mb : Str → Option Value} (X : (frag P).In gh) (T : Top p loose mean mg mb gh) {F : Fz} (hB : Fz.Le (fun a => gh.get? a) F) {h : Heap} (hF : ∀ b o, F b = some o → h.get? b = some o) :
    ∀ x v, GL x = some v → GFact gh h F x v := by
  have hk : ∀ b o, gh.get? b = some o → h.get? b = some o := fun b o e => hF b o (hB b o e)
  have fn : ∀ {x : Str} {v : PV} {v' : Value}, VR (fun a => gh.get? a) v v' → nsIn (frag P) mainGlobals x = some (some v') → GFact gh h F x v := fun r e => ⟨_, mg, r.mono hB, T.g.keeps hk, .inl (mg_of X T.g e)⟩
  have bi : ∀ {x : Str} {v : PV} {v' : Value}, VR (fun a => gh.get? a) v v' → nsIn (frag P) mainGlobals x = some none → bootBuiltins x = some v' → x ≠ "__name__" → GFact gh h F x v := fun r e hb hn =>
    ⟨_, mg, r.mono hB, T.g.keeps hk, .inr ⟨mg_none_of X T.g e, mb, T.b.keeps hk, by rw [T.builtins _ hn]; exact hb⟩⟩
  intro x v hv
  have hm := mem_of_lookup hv
  unfold GLs at hm
  simp only [List.mem_cons, List.not_mem_nil, or_false, Prod.mk.injEq] at hm
  rcases hm with ⟨rfl, rfl⟩ | ⟨rfl, rfl⟩ | ⟨rfl, rfl⟩ | ⟨rfl, rfl⟩ | ⟨rfl, rfl⟩ | ⟨rfl, rfl⟩ | ⟨rfl, rfl⟩ | ⟨rfl, rfl⟩ | ⟨rfl, rfl⟩ | ⟨rfl, rfl⟩ | ⟨rfl, rfl⟩ | ⟨rfl, rfl⟩ | ⟨rfl, rfl⟩ | ⟨rfl, rfl⟩ | ⟨rfl, rfl⟩ | ⟨rfl, rfl⟩ | ⟨rfl, rfl⟩ | ⟨rfl, rfl⟩ | ⟨rfl, rfl⟩ | ⟨rfl, rfl⟩ | ⟨rfl, rfl⟩ | ⟨rfl, rfl⟩ | ⟨rfl, rfl⟩ | ⟨rfl, rfl⟩ | ⟨rfl, rfl⟩ | ⟨rfl, rfl⟩ | ⟨rfl, rfl⟩ | ⟨rfl, rfl⟩ | ⟨rfl, rfl⟩ | ⟨rfl, rfl⟩ | ⟨rfl, rfl⟩ | ⟨rfl, rfl⟩ | ⟨rfl, rfl⟩ | ⟨rfl, rfl⟩ | ⟨rfl, rfl⟩ | ⟨rfl, rfl⟩ | ⟨rfl, rfl⟩ | ⟨rfl, rfl⟩
  · exact fn (fn_28 X) rfl
  · exact fn (fn_35 X) rfl
  · exact fn (fn_42 X) rfl
  · exact fn (fn_49 X) rfl
  · exact fn (fn_56 X) rfl
  · exact fn (fn_63 X) rfl
  · exact fn (fn_70 X) rfl
  · exact fn (fn_77 X) rfl
  · exact fn (fn_84 X) rfl
  · exact fn (v' := .bytes b64tab _) ⟨_, rfl⟩ rfl
  · exact fn (fn_92 X) rfl
  · exact fn (fn_100 X) rfl
  · exact fn (fn_107 X) rfl
  · exact fn (fn_114 X) rfl
  · exact fn (fn_121 X) rfl
  · exact fn (fn_128 X) rfl
  · exact fn (fn_135 X) rfl
  · exact fn (fn_142 X) rfl
  · exact bi (v' := .builtin "len") rfl rfl rfl (by decide)
  · exact bi (v' := .builtin "sorted") rfl rfl rfl (by decide)
  · exact bi (v' := .builtin "min") rfl rfl rfl (by decide)
  · exact bi (v' := .builtin "max") rfl rfl rfl (by decide)
  · exact bi (v' := .builtin "sum") rfl rfl rfl (by decide)
  · exact bi (v' := .type "range") rfl rfl rfl (by decide)
  · exact bi (v' := .type "list") rfl rfl rfl (by decide)
  · exact bi (v' := .type "reversed") rfl rfl rfl (by decide)
  · exact bi (v' := .type "bytes") rfl rfl rfl (by decide)
  · exact bi (v' := .type "set") rfl rfl rfl (by decide)
  · exact bi (v' := .type "type") rfl rfl rfl (by decide)
  · exact bi (v' := .type "bool") rfl rfl rfl (by decide)
  · exact bi (v' := .type "int") rfl rfl rfl (by decide)
  · exact bi (v' := .type "bytearray") rfl rfl rfl (by decide)
  · exact bi (v' := .type "float") rfl rfl rfl (by decide)
  · exact bi (v' := .type "complex") rfl rfl rfl (by decide)
  · exact bi (v' := .type "str") rfl rfl rfl (by decide)
  · exact bi (v' := .type "tuple") rfl rfl rfl (by decide)
  · exact bi (v' := .type "dict") rfl rfl rfl (by decide)
  · exact bi (v' := .type "frozenset") rfl rfl rfl (by decide)
theorem nest_ok {prog : Program} {w : World} {gh : Heap} {p : Program} {loose : List Str} {mean : ExcName → Option Value} {mg mb : Str → Option Value} (T : Top p loose mean mg mb gh) {c P : Addr} (hc : CodeHd gh c P) (hP : gh.get? P = none) (hg : mainGlobals ≠ P) : NestOk ⟨prog, w, fun a => gh.get? a⟩ c P := by
  intro F hB h hF
  have hk : ∀ b o, gh.get? b = some o → h.get? b = some o := fun b o e => hF b o (hB b o e)
  refine ⟨hc.keeps hk, hg, mg, T.g.keeps hk, ?_⟩
  obtain ⟨bm, ob, b1, b2, b3, b4, b5, b6⟩ := T.bmain
  refine ⟨bm, ob, b1, b2, ?_, ?_, hk _ _ b3, b4, b5, b6⟩
  · intro z
    obtain ⟨o, es, ep, e, hd, _⟩ := T.g
    rw [z, e] at b3; cases b3; rw [hd] at b6; cases b6
  · intro z; rw [z, hP] at b3; cases b3
theorem stat_ok {prog : Program} {w : World} {gh : Heap} {p : Program} {loose : List Str} {mean : ExcName → Option Value} {mg mb : Str → Option Value} (X : (frag w.params).In gh) (T : Top p loose mean mg mb gh) (h1 : CodeHd gh 34 30) (h2 : CodeHd gh 27 23) (g1 : gh.get? 30 = none) (g2 : gh.get? 23 = none) :
    Stat ⟨prog, w, fun a => gh.get? a⟩ where
  dflt := ⟨_, _, X 93 _ rfl, rfl⟩
  nest1 := nest_ok T h2 g2 (by decide)
  nest2 := nest_ok T h1 g1 (by decide)
  nolim := fun F hB h hF => T.nolimit.keeps fun b o e => hF b o (hB b o e)
  glob := fun x v hv F hB h hF => glob_ok X T hB hF x v hv
end Mine

namespace Mine
/-! ## the join -/
noncomputable def st0 (L : Addr) : St := fun b => if b = L + 2 then some (.cell none) else if b = L + 1 then some (.cell none) else if b = 30 then some (.tab none) else if b = 23 then some (.tab none) else none
theorem grown_of {F : Fz} {L b : Addr} {ρ : Loc} {σ : St} {h : Heap} (R : Rep F L ρ σ h) {e : Option (Pos × Str)} (hb : σ b = some (.tab e)) : GrownAt b h := by
  obtain ⟨_, o, h1, h2⟩ := R.st b _ hb
  cases e with
  | none => exact ⟨#[], h1.trans (congrArg some h2)⟩
  | some q =>
    obtain ⟨p, q⟩ := q
    obtain ⟨c, _, h3⟩ := h2
    exact ⟨_, h1.trans (congrArg some h3)⟩
theorem law_join {prog : Program} {w : World} {gh : Heap} {p : Program} {loose : List Str} {mean : ExcName → Option Value} {mg mb m : Str → Option Value} {L sc : Addr} {o1 o2 : Obj} {vs : Array Value} {zs : List Int} {A : Around} {s : Shared} {a : Addr × Value} {Q : Flow → Shared → Prop} {E : Value → Shared → Prop}
    (X : (frag w.params).In gh) (T : Top p loose mean mg mb gh) (h1 : CodeHd gh 34 30) (h2 : CodeHd gh 27 23) (g1 : gh.get? 30 = none) (g2 : gh.get? 23 = none)
    (F : Fr gh L s.heap m) (hm : m "script" = some (.ref sc)) (hl : gh.IsList sc vs) (hI : IntsAre vs.toList zs) (hz : zs.length ≤ 63)
    (N : News gh L s.heap [(L + 2, o1), (L + 1, o2), (30, tabObj #[]), (23, tabObj #[])]) (hc1 : o1.data = .cell none) (hc2 : o2.data = .cell none) (hA : Room 14 A)
    (hQ : ∀ h' tk, (∀ b o, gh.get? b = some o → h'.get? b = some o) → GrownAt 30 h' → GrownAt 23 h' → Q (.ret (.bool true)) { s with heap := h', toks := tk }) :
    wpAny (model prog w) A (execs (bodyOf (stmtAt 24)) (lawEnv L a)) Q E s := by
  have n1 := N _ (.head _)
  have n2 := N _ (.tail _ (.head _))
  have n3 := N _ (.tail _ (.tail _ (.head _)))
  have n4 := N _ (.tail _ (.tail _ (.tail _ (.head _))))
  have S := stat_ok (prog := prog) X T h1 h2 g1 g2
  have d13 : (30 : Addr) ≠ L + 2 := fun z => by rw [z, n1.1] at n3; cases n3.1; cases hc1
  have d23 : (30 : Addr) ≠ L + 1 := fun z => by rw [z, n2.1] at n3; cases n3.1; cases hc2
  have d14 : (23 : Addr) ≠ L + 2 := fun z => by rw [z, n1.1] at n4; cases n4.1; cases hc1
  have d24 : (23 : Addr) ≠ L + 1 := fun z => by rw [z, n2.1] at n4; cases n4.1; cases hc2
  have d12 : L + 1 ≠ L + 2 := Nat.ne_of_lt (Nat.add_lt_add_left (by decide) _)
  have s1 : st0 L (L + 2) = some (.cell none) := by simp [st0]
  have s2 : st0 L (L + 1) = some (.cell none) := by unfold st0; rw [if_neg d12, if_pos rfl]
  have s3 : st0 L 30 = some (.tab none) := by unfold st0; rw [if_neg d13, if_neg d23, if_pos rfl]
  have s4 : st0 L 23 = some (.tab none) := by unfold st0; rw [if_neg d14, if_neg d24, if_neg (by decide), if_pos rfl]
  have R : Rep (fun b => gh.get? b) L [("script", .imm (.ref sc))] (st0 L) s.heap := by
    refine ⟨fun b o e => ⟨F.keep b o e, ?_, ?_⟩, fun b q e => ?_, ⟨m, F.ns, fun x v e => ?_⟩⟩
    · unfold st0
      rw [if_neg, if_neg, if_neg, if_neg]
      · intro z; rw [z] at e; rw [g2] at e; cases e
      · intro z; rw [z] at e; rw [g1] at e; cases e
      · intro z; rw [z] at e; rw [n2.2.2] at e; cases e
      · intro z; rw [z] at e; rw [n1.2.2] at e; cases e
    · exact Nat.ne_of_lt (Nat.lt_of_lt_of_le (Heap.lt_size e) F.above)
    · unfold st0 at e
      by_cases h : b = L + 2
      · rw [if_pos h] at e; cases e; subst h; exact ⟨n1.2.1, o1, n1.1, hc1⟩
      rw [if_neg h] at e
      by_cases h : b = L + 1
      · rw [if_pos h] at e; cases e; subst h; exact ⟨n2.2.1, o2, n2.1, hc2⟩
      rw [if_neg h] at e
      by_cases h : b = 30
      · rw [if_pos h] at e; cases e; subst h; exact ⟨n3.2.1, _, n3.1, rfl⟩
      rw [if_neg h] at e
      by_cases h : b = 23
      · rw [if_pos h] at e; cases e; subst h; exact ⟨n4.2.1, _, n4.1, rfl⟩
      rw [if_neg h] at e; cases e
    · rw [List.lookup_cons] at e
      cases q : x == Str.ofString "script" with
      | true =>
        have : x = Str.ofString "script" := by simpa using q
        subst this
        rw [q] at e; cases e
        exact ⟨_, hm, rfl⟩
      | false => rw [q] at e; cases e
  obtain ⟨o, lo1, lo2, nn, lo3⟩ := hl
  have B := law_body (n := 0) (L := L) (a := a) S (σ := st0 L) (sc := sc) (o := o) (zs := zs) lo1 lo2 ⟨_, _, lo3, hI⟩ (by omega) ⟨_, s4, .inl rfl⟩ ⟨_, s3, .inl rfl⟩ s2 s1
  refine B _ (Fz.Le.refl _) A s E Q hA R ?_
  rintro f fl ρ' σ' F' h' tk ⟨rfl, ⟨e1, t1, _⟩, ⟨e2, t2, _⟩⟩ le R' ⟨v, rfl, rfl⟩
  exact hQ h' tk (fun b o e => (R'.fz b o (le b o e)).1) (grown_of R' t2) (grown_of R' t1)
end Mine

namespace Mine
theorem room_top (env : Env) : Room 14 (callerA.deeper env) := ⟨(by decide +kernel : 1 + claimMargin + 1 + 14 < recursionLimit), (by decide +kernel : 4 + 3 + 20 * 14 + 100 < cLine), rfl⟩
end Mine
set_option maxHeartbeats 8000000 in
theorem PySem.Challenge.cw_oc0047_01_holds : PySem.Challenge.rw_oc0047_01.Holds := by
  w_on
  o_law
  refine holds_open (q := Mine.view) (loose := [Str.ofString "b2a_base64", Str.ofString "b64encode"]) (Xt := fun s => xlAt Mine.view [] s && recOk (RowW.records PySem.Challenge.rw_oc0047_01.row.toRowW) s) (XP := XL Mine.view []) (Yf := Hook.obs (kmHook Mine.frag Mine.fragAt Mine.fragAt_eq [30, 23])) (Ya := Hook.val (kmHook Mine.frag Mine.fragAt Mine.fragAt_eq [30, 23])) (YP := Hook.says (kmHook Mine.frag Mine.fragAt Mine.fragAt_eq [30, 23])) (N := 1434)
    Mine.left1 (Hook.of (kmHook Mine.frag Mine.fragAt Mine.fragAt_eq [30, 23])) (Hook.keeps (kmHook Mine.frag Mine.fragAt Mine.fragAt_eq [30, 23])) (fun s e => xl_of s (Bool.and_eq_true_iff.mp e).1) XL.keeps (by rfl) (by rfl) (by rfl) (fun s e => recFacts_of (Bool.and_eq_true_iff.mp e).2) (by rfl) (by assumption) (by decide +kernel) ⟨rfl, rfl, rfl, rfl, rfl, by decide +kernel⟩ ?hw ?hc
  case hw => w_witness2
  rename_i said
  clear said
  k_go0
  rename_i hI hr hc1 hc2 hD h1 tk1 o1 o2 left right X0 X T K F ch N l0
  refine Mine.law_join (a := (_, _)) X T ch ‹_› (hideAll_none _ (.head _)) (hideAll_none _ (.tail _ (.head _))) F rfl lifted hI (by omega) N (left.trans rfl) (right.trans rfl) (Mine.room_top _) fun h' tk hk g1 g2 => ?_
  refine ⟨⟨.inl ⟨_, .bool true, [], rfl, raisesW_false ?_, .bool true, ?_, fun _ => ⟨.nil, fun _ h => nomatch h⟩⟩, hk, rfl, ‹_›⟩, g1, g2, trivial⟩
  · wrow_none_raised
  · wrow_post
