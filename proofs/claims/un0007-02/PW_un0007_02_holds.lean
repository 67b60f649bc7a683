import PyProof.Rows.All
import Wide.All
import OpenK.AllK
import Wide.FinOn
import Lean
import PySem.Challenge.RW_un0007_02
open PySem PySem.W PyProof.Rows
set_option Elab.async false
set_option linter.all false
section
namespace Mine

inductive PV where
  | none
  | bool (b : Bool)
  | int (i : Int)
  | str (s : Str)
  | list (xs : List PV)
  | tup (xs : List PV)
  | rng (n : Int)
  | raw (v : Value)

noncomputable abbrev listObj (vs : List Value) (n : Nat) : Obj := { cls := .type "list", dict := Option.none, data := .seq vs.toArray n, slots := #[] }
noncomputable abbrev tupObj (vs : List Value) (n : Nat) : Obj := { cls := .type "tuple", dict := Option.none, data := .seq vs.toArray n, slots := #[] }
noncomputable abbrev rngObj (n : Int) (t u v : Tok) : Obj := { cls := .type "range", dict := Option.none, data := .fields #[.int 0 t, .int n u, .int 1 v], slots := #[] }

noncomputable def asc (s : Str) : Prop := ∀ c ∈ s.cps.toList, c < 128
mutual
noncomputable def VR (P : Addr → Obj → Prop) : PV → Value → Prop
  | .none, v => v = .none
  | .bool b, v => v = .bool b
  | .int i, v => ∃ t, v = .int i t
  | .str s, v => ∃ t, v = .str s t ∧ s.length ≤ sizeLine ∧ asc s
  | .list xs, v => ∃ a vs n, v = .ref a ∧ P a (listObj vs n) ∧ vs.length ≤ sizeLine ∧ VRs P xs vs
  | .tup xs, v => ∃ a vs n, v = .ref a ∧ P a (tupObj vs n) ∧ vs.length ≤ sizeLine ∧ VRs P xs vs
  | .rng n, v => ∃ a t u w, v = .ref a ∧ P a (rngObj n t u w) ∧ 0 ≤ n ∧ n ≤ 1000000
  | .raw w, v => v = w
noncomputable def VRs (P : Addr → Obj → Prop) : List PV → List Value → Prop
  | [], vs => vs = []
  | x :: xs, vs => ∃ v r, vs = v :: r ∧ VR P x v ∧ VRs P xs r
end

mutual
theorem VR.mono {P P' : Addr → Obj → Prop} (h : ∀ a o, P a o → P' a o) : ∀ (x : PV) (v : Value), VR P x v → VR P' x v
  | .none, _, e => e
  | .bool _, _, e => e
  | .int _, _, e => e
  | .str _, _, e => e
  | .list xs, _, e => by
    unfold VR at e ⊢
    obtain ⟨a, vs, n, e1, e2, e3, e4⟩ := e
    exact ⟨a, vs, n, e1, h _ _ e2, e3, VRs.mono h xs vs e4⟩
  | .tup xs, _, e => by
    unfold VR at e ⊢
    obtain ⟨a, vs, n, e1, e2, e3, e4⟩ := e
    exact ⟨a, vs, n, e1, h _ _ e2, e3, VRs.mono h xs vs e4⟩
  | .rng n, _, e => by
    unfold VR at e ⊢
    obtain ⟨a, t, u, w, e1, e2, e3⟩ := e
    exact ⟨a, t, u, w, e1, h _ _ e2, e3⟩
  | .raw _, _, e => e
theorem VRs.mono {P P' : Addr → Obj → Prop} (h : ∀ a o, P a o → P' a o) : ∀ (xs : List PV) (vs : List Value), VRs P xs vs → VRs P' xs vs
  | [], _, e => e
  | x :: xs, _, e => by
    unfold VRs at e ⊢
    obtain ⟨v, r, e1, e2, e3⟩ := e
    exact ⟨v, r, e1, VR.mono h x v e2, VRs.mono h xs r e3⟩
end

theorem VRs.length {P : Addr → Obj → Prop} : ∀ {xs : List PV} {vs : List Value}, VRs P xs vs → vs.length = xs.length
  | [], _, e => by unfold VRs at e; subst e; rfl
  | x :: xs, _, e => by
    unfold VRs at e
    obtain ⟨v, r, rfl, _, h⟩ := e
    simp [VRs.length h]
theorem VRs.get {P : Addr → Obj → Prop} : ∀ {xs : List PV} {vs : List Value}, VRs P xs vs → ∀ {i : Nat} {x : PV}, xs[i]? = some x → ∃ v, vs[i]? = some v ∧ VR P x v
  | [], _, _, i, x, hx => by simp at hx
  | y :: ys, _, e, 0, x, hx => by
    unfold VRs at e
    obtain ⟨v, r, rfl, h, _⟩ := e
    simp at hx; subst hx
    exact ⟨v, rfl, h⟩
  | y :: ys, _, e, i + 1, x, hx => by
    unfold VRs at e
    obtain ⟨v, r, rfl, _, h⟩ := e
    simp at hx
    obtain ⟨w, e1, e2⟩ := VRs.get h hx
    exact ⟨w, by simpa using e1, e2⟩
theorem VRs.append {P : Addr → Obj → Prop} : ∀ {xs ys : List PV} {vs us : List Value}, VRs P xs vs → VRs P ys us → VRs P (xs ++ ys) (vs ++ us)
  | [], _, _, _, e, f => by unfold VRs at e; subst e; exact f
  | x :: xs, _, _, _, e, f => by
    unfold VRs at e
    obtain ⟨v, r, rfl, h, hr⟩ := e
    show VRs P (x :: (xs ++ _)) (v :: (r ++ _))
    unfold VRs
    exact ⟨v, _, rfl, h, VRs.append hr f⟩
theorem VRs.one {P : Addr → Obj → Prop} {x : PV} {v : Value} (h : VR P x v) : VRs P [x] [v] := by
  unfold VRs; exact ⟨v, [], rfl, h, by unfold VRs; rfl⟩
theorem VRs.nil' {P : Addr → Obj → Prop} : VRs P [] [] := by unfold VRs; rfl
theorem VRs.cons' {P : Addr → Obj → Prop} {x : PV} {v : Value} {xs : List PV} {vs : List Value} (h : VR P x v) (hs : VRs P xs vs) : VRs P (x :: xs) (v :: vs) := by
  unfold VRs; exact ⟨v, vs, rfl, h, hs⟩
theorem VRs.take {P : Addr → Obj → Prop} : ∀ {xs : List PV} {vs : List Value} (_ : VRs P xs vs) (n : Nat), VRs P (xs.take n) (vs.take n)
  | [], _, e, n => by unfold VRs at e; subst e; simp; exact VRs.nil'
  | x :: xs, _, e, 0 => by simp; exact VRs.nil'
  | x :: xs, _, e, n + 1 => by
    unfold VRs at e
    obtain ⟨v, r, rfl, h, hr⟩ := e
    exact VRs.cons' h (VRs.take hr n)
theorem VRs.drop {P : Addr → Obj → Prop} : ∀ {xs : List PV} {vs : List Value} (_ : VRs P xs vs) (n : Nat), VRs P (xs.drop n) (vs.drop n)
  | [], _, e, n => by unfold VRs at e; subst e; simp; exact VRs.nil'
  | x :: xs, _, e, 0 => e
  | x :: xs, _, e, n + 1 => by
    unfold VRs at e
    obtain ⟨v, r, rfl, h, hr⟩ := e
    exact VRs.drop hr n
theorem VRs.set {P : Addr → Obj → Prop} : ∀ {xs : List PV} {vs : List Value} (_ : VRs P xs vs) (n : Nat) {x : PV} {v : Value} (_ : VR P x v), VRs P (xs.set n x) (vs.set n v)
  | [], _, e, n, x, v, _ => by unfold VRs at e; subst e; exact VRs.nil'
  | y :: ys, _, e, 0, x, v, h => by
    unfold VRs at e
    obtain ⟨w, r, rfl, _, hr⟩ := e
    exact VRs.cons' h hr
  | y :: ys, _, e, n + 1, x, v, h => by
    unfold VRs at e
    obtain ⟨w, r, rfl, hw, hr⟩ := e
    exact VRs.cons' hw (VRs.set hr n h)
theorem VRs.mem {P : Addr → Obj → Prop} {xs : List PV} {vs : List Value} (h : VRs P xs vs) {v : Value} (hv : v ∈ vs) : ∃ x ∈ xs, VR P x v := by
  obtain ⟨i, hi, e⟩ := List.mem_iff_getElem.mp hv
  have hx : i < xs.length := by rw [← h.length]; exact hi
  obtain ⟨w, e1, e2⟩ := h.get (List.getElem?_eq_getElem hx)
  rw [List.getElem?_eq_getElem hi, e] at e1
  cases e1
  exact ⟨_, List.getElem_mem hx, e2⟩

noncomputable def Fz (ow : Addr → Option Nat) (h : Heap) (a : Addr) (o : Obj) : Prop := ow a = Option.none ∧ h.get? a = some o

structure Le0 (ow : Addr → Option Nat) (h : Heap) (ow' : Addr → Option Nat) (h' : Heap) : Prop where
  fz : ∀ a o, Fz ow h a o → Fz ow' h' a o
structure Le (ow : Addr → Option Nat) (h : Heap) (ow' : Addr → Option Nat) (h' : Heap) : Prop extends Le0 ow h ow' h' where
  two : ∀ a o, ow a = some 2 → h.get? a = some o → ow' a = some 2 ∧ h'.get? a = some o

theorem Le0.refl (ow : Addr → Option Nat) (h : Heap) : Le0 ow h ow h := ⟨fun _ _ x => x⟩
theorem Le0.trans {o1 o2 o3 : Addr → Option Nat} {h1 h2 h3 : Heap} (x : Le0 o1 h1 o2 h2) (y : Le0 o2 h2 o3 h3) : Le0 o1 h1 o3 h3 := ⟨fun a o f => y.fz a o (x.fz a o f)⟩
theorem Le0.vr {ow ow' : Addr → Option Nat} {h h' : Heap} (l : Le0 ow h ow' h') {x : PV} {v : Value} (e : VR (Fz ow h) x v) : VR (Fz ow' h') x v := VR.mono l.fz x v e
theorem Le0.vrs {ow ow' : Addr → Option Nat} {h h' : Heap} (l : Le0 ow h ow' h') {x : List PV} {v : List Value} (e : VRs (Fz ow h) x v) : VRs (Fz ow' h') x v := VRs.mono l.fz x v e
theorem Le.refl (ow : Addr → Option Nat) (h : Heap) : Le ow h ow h := ⟨.refl .., fun _ _ x y => ⟨x, y⟩⟩
theorem Le.trans {o1 o2 o3 : Addr → Option Nat} {h1 h2 h3 : Heap} (x : Le o1 h1 o2 h2) (y : Le o2 h2 o3 h3) : Le o1 h1 o3 h3 :=
  ⟨x.toLe0.trans y.toLe0, fun a o e f => let ⟨p, q⟩ := x.two a o e f; y.two a o p q⟩
theorem Le.keeps {ow : Addr → Option Nat} {h h' : Heap} (k : ∀ b o, h.get? b = some o → h'.get? b = some o) : Le ow h ow h' := ⟨⟨fun a o f => ⟨f.1, k a o f.2⟩⟩, fun a o e f => ⟨e, k a o f⟩⟩
end Mine
end
section
namespace Mine

inductive Kd where
  | loc | cel | fre
  deriving DecidableEq
noncomputable abbrev Cx := List (Str × Kd)
inductive Slot where
  | unb
  | val (v : PV)
  | own (xs : List PV)
noncomputable abbrev Frame := List Slot

noncomputable def kindFits : Kd → Option NameKind → Bool
  | .loc, k => k == some .local
  | .cel, k => k == some .cell
  | .fre, k => k == some .cell || k == some .free

structure EnvOk (Γ : Cx) (gn : List Str) (env : Env) : Prop where
  fn : env.scope.kind = .function
  kinds : ∀ (i : Nat) (x : Str) (k : Kd), Γ[i]? = some (x, k) → kindFits k (env.kindOf x) = true
  plain : ∀ (i : Nat) (x : Str) (k : Kd), Γ[i]? = some (x, k) → (x == ("__debug__" : Str)) = false ∧ (x == ("__classdict__" : Str)) = false
  nodup : (Γ.map (·.1)).Nodup
  gl : env.globals = mainGlobals
  bl : env.builtins = builtinsNs
  gk : ∀ x ∈ gn, env.kindOf x = some .globalImplicit ∧ (x == ("__debug__" : Str)) = false

noncomputable def SlotR (ow : Addr → Option Nat) (h : Heap) (i : Nat) (sl : Option Slot) (v? : Option Value) : Prop := match sl with
  | some (.val pv) => ∃ v, v? = some v ∧ VR (Fz ow h) pv v
  | some (.own xs) => ∃ a vs n, v? = some (.ref a) ∧ ow a = some (i + 3) ∧ h.get? a = some (listObj vs n) ∧ VRs (Fz ow h) xs vs
  | _ => True
noncomputable def CellR (ow : Addr → Option Nat) (h : Heap) (sl : Option Slot) (v? : Option Value) : Prop := match sl with
  | some (.val pv) => ∃ v, v? = some v ∧ VR (Fz ow h) pv v
  | some (.own _) => False
  | _ => True

structure FR (H : Heap) (Γ : Cx) (env : Env) (fo : Addr → Prop) (base : Heap) (φ : Frame) (ow : Addr → Option Nat) (h : Heap) : Prop where
  top : ∀ b o, H.get? b = some o → base.get? b = some o
  hi : ∀ a, ow a ≠ none → H.get? a = none
  keep : ∀ b o, base.get? b = some o → h.get? b = some o
  own : ∀ a t, ow a = some (t + 1) → base.get? a = none ∧ (h.get? a).isSome = true
  for1 : ∀ a, fo a → ow a = some 0
  for2 : ∀ a, ow a = some 0 → (base.get? a).isSome = true
  len : φ.length = Γ.length
  ns : ∃ m, h.Ns env.locals m ∧ ∀ (i : Nat) (x : Str), Γ[i]? = some (x, Kd.loc) → SlotR ow h i φ[i]? (m x)
  nso : ow env.locals = some 1
  cel : ∀ (i : Nat) (x : Str), Γ[i]? = some (x, Kd.cel) → ∃ c v, env.cells.lookup x = some c ∧ h.IsCell c v ∧ ow c = some (i + 3) ∧ CellR ow h φ[i]? v
  fre : ∀ (i : Nat) (x : Str), Γ[i]? = some (x, Kd.fre) → ∃ c v pv, env.cells.lookup x = some c ∧ base.IsCell c (some v) ∧ φ[i]? = some (Slot.val pv) ∧ VR (Fz ow h) pv v

theorem get_none_size (h : Heap) : h.get? h.objs.size = none := by
  cases e : h.get? h.objs.size with
  | none => rfl
  | some o => exact absurd (Heap.lt_size e) (Nat.lt_irrefl _)

section
variable {H : Heap} {Γ : Cx} {env : Env} {fo : Addr → Prop} {base : Heap} {φ : Frame} {ow ow' : Addr → Option Nat} {h h' : Heap}

theorem FR.ex (F : FR H Γ env fo base φ ow h) {a : Addr} (e : ow a ≠ none) : (h.get? a).isSome = true := by
  cases q : ow a with
  | none => exact absurd q e
  | some t => cases t with
    | zero =>
      obtain ⟨o, ho⟩ := Option.isSome_iff_exists.mp (F.for2 a q)
      rw [F.keep a o ho]; rfl
    | succ t => exact (F.own a t q).2
theorem FR.fresh (F : FR H Γ env fo base φ ow h) {a : Addr} (e : h.get? a = none) : ow a = none := by
  cases q : ow a with
  | none => rfl
  | some t =>
    have := F.ex (a := a) (by rw [q]; simp)
    rw [e] at this; cases this
theorem FR.baseNone (F : FR H Γ env fo base φ ow h) {a : Addr} (e : h.get? a = none) : base.get? a = none := by
  cases q : base.get? a with
  | none => rfl
  | some o => rw [F.keep a o q] at e; cases e
theorem FR.topIn (F : FR H Γ env fo base φ ow h) : ∀ b o, H.get? b = some o → h.get? b = some o := fun b o e => F.keep b o (F.top b o e)
theorem FR.hNone (F : FR H Γ env fo base φ ow h) {a : Addr} (e : h.get? a = none) : H.get? a = none := by
  cases q : H.get? a with
  | none => rfl
  | some o => rw [F.topIn a o q] at e; cases e

theorem SlotR.mono (l : Le0 ow h ow' h') {i : Nat} (hk : ∀ a o, ow a = some (i + 3) → h.get? a = some o → ow' a = some (i + 3) ∧ h'.get? a = some o) {sl : Option Slot} {v? : Option Value} (e : SlotR ow h i sl v?) : SlotR ow' h' i sl v? := by
  unfold SlotR at e ⊢
  split at e
  · obtain ⟨v, e1, e2⟩ := e
    exact ⟨v, e1, l.vr e2⟩
  · obtain ⟨a, vs, n, e1, e2, e3, e4⟩ := e
    exact ⟨a, vs, n, e1, (hk a _ e2 e3).1, (hk a _ e2 e3).2, l.vrs e4⟩
  · trivial
theorem CellR.mono (l : Le0 ow h ow' h') {sl : Option Slot} {v? : Option Value} (e : CellR ow h sl v?) : CellR ow' h' sl v? := by
  unfold CellR at e ⊢
  split at e
  · obtain ⟨v, e1, e2⟩ := e
    exact ⟨v, e1, l.vr e2⟩
  · exact e
  · trivial

theorem FR.grow (F : FR H Γ env fo base φ ow h) (k : ∀ b o, h.get? b = some o → h'.get? b = some o)
    (ko : ∀ a, (h.get? a).isSome = true → ow' a = ow a) (kn : ∀ a, h.get? a = none → ow' a ≠ none → (h'.get? a).isSome = true ∧ ow' a ≠ some 0) : FR H Γ env fo base φ ow' h' := by
  have keq : ∀ a t, ow a = some t → ow' a = some t := fun a t e => by rw [ko a (F.ex (by rw [e]; simp)), e]
  have l : Le0 ow h ow' h' := ⟨fun a o f => ⟨by rw [ko a (by rw [f.2]; rfl)]; exact f.1, k a o f.2⟩⟩
  refine ⟨F.top, fun a e => ?_, fun b o e => k b o (F.keep b o e), fun a t e => ?_, fun a e => keq a 0 (F.for1 a e), fun a e => ?_, F.len, ?_, keq _ _ F.nso, fun i x e => ?_, fun i x e => ?_⟩
  · cases q : h.get? a with
    | none => exact F.hNone q
    | some o => rw [ko a (by rw [q]; rfl)] at e; exact F.hi a e
  · cases q : h.get? a with
    | none => exact ⟨F.baseNone q, (kn a q (by rw [e]; simp)).1⟩
    | some o =>
      rw [ko a (by rw [q]; rfl)] at e
      obtain ⟨e1, e2⟩ := F.own a t e
      exact ⟨e1, by rw [k a o q]; rfl⟩
  · cases q : h.get? a with
    | none => exact absurd e (kn a q (by rw [e]; simp)).2
    | some o => rw [ko a (by rw [q]; rfl)] at e; exact F.for2 a e
  · obtain ⟨m, hm, hs⟩ := F.ns
    exact ⟨m, hm.keeps k, fun i x e => (hs i x e).mono l fun a o e1 e2 => ⟨keq _ _ e1, k a o e2⟩⟩
  · obtain ⟨c, v, e1, e2, e3, e4⟩ := F.cel i x e
    exact ⟨c, v, e1, e2.keeps k, keq _ _ e3, e4.mono l⟩
  · obtain ⟨c, v, pv, e1, e2, e3, e4⟩ := F.fre i x e
    exact ⟨c, v, pv, e1, e2, e3, l.vr e4⟩
theorem FR.keeps (F : FR H Γ env fo base φ ow h) (k : ∀ b o, h.get? b = some o → h'.get? b = some o) : FR H Γ env fo base φ ow h' :=
  F.grow k (fun _ _ => rfl) fun a e q => absurd (F.fresh e) q

noncomputable def tagged (ow : Addr → Option Nat) (a : Addr) (t : Nat) : Addr → Option Nat := fun b => if b = a then some t else ow b
theorem tagged_self {ow : Addr → Option Nat} {a : Addr} {t : Nat} : tagged ow a t a = some t := by simp [tagged]
theorem tagged_ne {ow : Addr → Option Nat} {a b : Addr} {t : Nat} (h : b ≠ a) : tagged ow a t b = ow b := by simp [tagged, h]
theorem FR.tag (F : FR H Γ env fo base φ ow h) (k : ∀ b o, h.get? b = some o → h'.get? b = some o) {a : Addr} (hn : h.get? a = none) (ha : (h'.get? a).isSome = true) (t : Nat) :
    FR H Γ env fo base φ (tagged ow a (t + 1)) h' :=
  F.grow k (fun b e => tagged_ne (fun q => by subst q; rw [hn] at e; cases e)) fun b e q => by
    by_cases hb : b = a
    · subst hb; exact ⟨ha, by rw [tagged_self]; simp⟩
    · rw [tagged_ne hb] at q; exact absurd (F.fresh e) q
noncomputable def untag (ow : Addr → Option Nat) (a : Addr) : Addr → Option Nat := fun b => if b = a then none else ow b
theorem untag_ne {ow : Addr → Option Nat} {a b : Addr} (h : b ≠ a) : untag ow a b = ow b := by simp [untag, h]
theorem untag_self {ow : Addr → Option Nat} {a : Addr} : untag ow a a = none := by simp [untag]
theorem Le.untag (ow : Addr → Option Nat) (h : Heap) (a : Addr) (ha : ow a ≠ some 2) : Le ow h (untag ow a) h := ⟨⟨fun b o f => ⟨by unfold Mine.untag; split; rfl; exact f.1, f.2⟩⟩, fun b o e f => ⟨by rw [untag_ne (fun (q : b = a) => ha (q ▸ e))]; exact e, f⟩⟩

theorem get_set_self {φ : Frame} {i : Nat} {sl s' : Slot} (h : φ[i]? = some s') : (φ.set i sl)[i]? = some sl := by
  have : i < φ.length := by
    rcases Nat.lt_or_ge i φ.length with q | q
    · exact q
    · rw [List.getElem?_eq_none q] at h; cases h
  simp [this]
theorem get_set_ne {φ : Frame} {i j : Nat} {sl : Slot} (h : j ≠ i) : (φ.set i sl)[j]? = φ[j]? := by
  rw [List.getElem?_set_ne (Ne.symm h)]

theorem FR.freeze (F : FR H Γ env fo base φ ow h) {i : Nat} {x : Str} {xs : List PV} (hx : Γ[i]? = some (x, Kd.loc)) (hs : φ[i]? = some (.own xs)) (hsz : xs.length ≤ sizeLine) :
    ∃ ow' v, FR H Γ env fo base (φ.set i (.val (.list xs))) ow' h ∧ Le ow h ow' h ∧ (∀ m, h.Ns env.locals m → m x = some v) ∧ VR (Fz ow' h) (.list xs) v ∧ (∀ b t, ow' b = some t → ow b = some t) ∧ (∀ b t, ow b = some t → t ≤ 2 → ow' b = some t) := by
  obtain ⟨m, hm, hsl⟩ := F.ns
  have q := hsl i x hx
  rw [hs] at q
  obtain ⟨a, vs, n, e1, e2, e3, e4⟩ := q
  have l := Le.untag ow h a (by rw [e2]; intro q; cases q)
  have vr : VR (Fz (untag ow a) h) (.list xs) (.ref a) := by
    unfold VR
    exact ⟨a, vs, n, rfl, ⟨untag_self, e3⟩, by rw [e4.length]; exact hsz, l.vrs e4⟩
  have ne : ∀ b t, ow b = some t → t ≠ i + 3 → untag ow a b = some t := fun b t e ht => by
    rw [untag_ne (fun q => by subst q; rw [e2] at e; cases e; exact ht rfl), e]
  have un : ∀ b t, untag ow a b = some t → ow b = some t := fun b t e => by
    unfold untag at e; split at e; cases e; exact e
  refine ⟨untag ow a, .ref a, ⟨F.top, fun b e => ?_, F.keep, fun b t e => F.own b t (un b _ e), fun b e => ne b 0 (F.for1 b e) (by lia), fun b e => F.for2 b (un b _ e), by rw [List.length_set]; exact F.len, ⟨m, hm, fun j y hy => ?_⟩, ne _ _ F.nso (by lia), fun j y hy => ?_, fun j y hy => ?_⟩, l, fun m' hm' => ?_, vr, un, fun b t e ht => ne b t e (by lia)⟩
  · cases q : untag ow a b with
    | none => exact absurd q e
    | some t => exact F.hi b (by rw [un b t q]; simp)
  · by_cases hj : j = i
    · subst hj
      rw [hx] at hy; cases hy
      rw [get_set_self hs]
      exact ⟨_, e1, vr⟩
    · rw [get_set_ne hj]
      exact (hsl j y hy).mono l.toLe0 fun b o q1 q2 => ⟨ne b _ q1 (by lia), q2⟩
  · obtain ⟨c, v, f1, f2, f3, f4⟩ := F.cel j y hy
    by_cases hj : j = i
    · subst hj; rw [hx] at hy; cases hy
    · rw [get_set_ne hj]
      exact ⟨c, v, f1, f2, ne c _ f3 (by lia), f4.mono l.toLe0⟩
  · obtain ⟨c, v, pv, f1, f2, f3, f4⟩ := F.fre j y hy
    by_cases hj : j = i
    · subst hj; rw [hx] at hy; cases hy
    · rw [get_set_ne hj]
      exact ⟨c, v, pv, f1, f2, f3, l.vr f4⟩
  · obtain ⟨o, es, ep, ho, hd, hk, hf⟩ := hm
    obtain ⟨o', es', ep', ho', hd', hk', hf'⟩ := hm'
    rw [ho] at ho'; cases ho'
    rw [hd] at hd'; cases hd'
    rw [← hf', hf, e1]
end
end Mine
end
section
namespace Mine
section
variable {M : Model} {A : Around} {E : Value → Shared → Prop} {s : Shared}
variable {H : Heap} {Γ : Cx} {gn : List Str} {env : Env} {fo : Addr → Prop} {base : Heap} {φ : Frame} {ow : Addr → Option Nat}

theorem load_val {i : Nat} {x : Str} {k : Kd} {pv : PV} {Q : Value → Shared → Prop} (O : EnvOk Γ gn env) (F : FR H Γ env fo base φ ow s.heap) (hx : Γ[i]? = some (x, k)) (hs : φ[i]? = some (.val pv))
    (h : ∀ v, VR (Fz ow s.heap) pv v → Q v s) : wpAny M A (loadName env x) Q E s := by
  have hk := O.kinds i x k hx
  have hp := O.plain i x k hx
  cases k with
  | loc =>
    obtain ⟨m, hm, hsl⟩ := F.ns
    have q := hsl i x hx
    rw [hs] at q
    obtain ⟨v, e1, e2⟩ := q
    exact wpAny_loadName_local O.fn (by simpa [kindFits] using hk) hm e1 (h v e2)
  | cel =>
    obtain ⟨c, v, e1, e2, e3, e4⟩ := F.cel i x hx
    rw [hs] at e4
    obtain ⟨v', rfl, e5⟩ := e4
    exact wpAny_loadName_cell O.fn (by simpa [kindFits] using hk) e1 e2 (h v' e5)
  | fre =>
    obtain ⟨c, v, pv', e1, e2, e3, e4⟩ := F.fre i x hx
    rw [hs] at e3; cases e3
    have e2' := e2.keeps F.keep
    simp only [kindFits, Bool.or_eq_true, beq_iff_eq] at hk
    rcases hk with hk | hk
    · exact wpAny_loadName_cell O.fn hk e1 e2' (h v e4)
    · exact wpAny_loadName_free O.fn hk e1 e2' (h v e4) hp.2

theorem load_own {i : Nat} {x : Str} {xs : List PV} {Q : Value → Shared → Prop} (O : EnvOk Γ gn env) (F : FR H Γ env fo base φ ow s.heap) (hx : Γ[i]? = some (x, .loc)) (hs : φ[i]? = some (.own xs))
    (h : ∀ a vs n, ow a = some (i + 3) → s.heap.get? a = some (listObj vs n) → VRs (Fz ow s.heap) xs vs → Q (.ref a) s) : wpAny M A (loadName env x) Q E s := by
  have hk := O.kinds i x _ hx
  obtain ⟨m, hm, hsl⟩ := F.ns
  have q := hsl i x hx
  rw [hs] at q
  obtain ⟨a, vs, n, e1, e2, e3, e4⟩ := q
  exact wpAny_loadName_local O.fn (by simpa [kindFits] using hk) hm e1 (h a vs n e2 e3 e4)

theorem load_freeze {i : Nat} {x : Str} {xs : List PV} {Q : Value → Shared → Prop} (O : EnvOk Γ gn env) (F : FR H Γ env fo base φ ow s.heap) (hx : Γ[i]? = some (x, .loc)) (hs : φ[i]? = some (.own xs)) (hsz : xs.length ≤ sizeLine)
    (h : ∀ v ow', FR H Γ env fo base (φ.set i (.val (.list xs))) ow' s.heap → Le ow s.heap ow' s.heap → (∀ b t, ow' b = some t → ow b = some t) → (∀ b t, ow b = some t → t ≤ 2 → ow' b = some t) → VR (Fz ow' s.heap) (.list xs) v → Q v s) : wpAny M A (loadName env x) Q E s := by
  have hk := O.kinds i x _ hx
  obtain ⟨ow', v, F', l, hv, vr, un, lo⟩ := F.freeze hx hs hsz
  obtain ⟨m, hm, hsl⟩ := F.ns
  exact wpAny_loadName_local O.fn (by simpa [kindFits] using hk) hm (hv m hm) (h v ow' F' l un lo vr)

theorem FR.turn {h h' : Heap} {t : Nat} (F : FR H Γ env fo base φ ow h) (k : ∀ b o, ow b ≠ some (t + 1) → h.get? b = some o → h'.get? b = some o) (ke : ∀ b, ow b = some (t + 1) → (h.get? b).isSome = true → (h'.get? b).isSome = true)
    {φ' : Frame} (hl : φ'.length = φ.length) (hφ : ∀ (j : Nat), j + 2 ≠ t → φ'[j]? = φ[j]?)
    (hns : ∃ m, h'.Ns env.locals m ∧ ∀ (i : Nat) (x : Str), Γ[i]? = some (x, Kd.loc) → SlotR ow h' i φ'[i]? (m x))
    (hcel : ∀ (i : Nat) (x : Str), i + 2 = t → Γ[i]? = some (x, Kd.cel) → ∃ c v, env.cells.lookup x = some c ∧ h'.IsCell c v ∧ ow c = some (i + 3) ∧ CellR ow h' φ'[i]? v)
    (hfre : ∀ (i : Nat) (x : Str), Γ[i]? = some (x, Kd.fre) → i + 2 ≠ t) :
    FR H Γ env fo base φ' ow h' := by
  have l : Le0 ow h ow h' := ⟨fun a o f => ⟨f.1, k a o (by rw [f.1]; simp) f.2⟩⟩
  refine ⟨F.top, F.hi, fun b o e => k b o (fun q => ?_) (F.keep b o e), fun b u e => ⟨(F.own b u e).1, ?_⟩, F.for1, F.for2, hl.trans F.len, hns, F.nso, fun i x e => ?_, fun i x e => ?_⟩
  · have := (F.own b t q).1
    rw [e] at this; cases this
  · have q := (F.own b u e).2
    by_cases hu : u = t
    · subst hu; exact ke b e q
    · obtain ⟨o, ho⟩ := Option.isSome_iff_exists.mp q
      rw [k b o (by rw [e]; intro q'; cases q'; exact hu rfl) ho]; rfl
  · by_cases hi : i + 2 = t
    · exact hcel i x hi e
    · obtain ⟨c, v, e1, e2, e3, e4⟩ := F.cel i x e
      rw [hφ i hi]
      obtain ⟨o, ho, hd⟩ := e2
      exact ⟨c, v, e1, ⟨o, k c o (by rw [e3]; intro q; cases q; exact hi rfl) ho, hd⟩, e3, e4.mono l⟩
  · obtain ⟨c, v, pv, e1, e2, e3, e4⟩ := F.fre i x e
    rw [hφ i (hfre i x e)]
    exact ⟨c, v, pv, e1, e2, e3, l.vr e4⟩

theorem Le.turn {h h' : Heap} {t : Nat} (k : ∀ b o, ow b ≠ some (t + 1) → h.get? b = some o → h'.get? b = some o) (ht : t ≠ 1) : Le ow h ow h' := ⟨⟨fun a o f => ⟨f.1, k a o (by rw [f.1]; simp) f.2⟩⟩, fun a o e f => ⟨e, k a o (by rw [e]; intro q; cases q; exact ht rfl) f⟩⟩

theorem name_at_inj (O : EnvOk Γ gn env) {i j : Nat} {x : Str} {k k' : Kd} (hi : Γ[i]? = some (x, k)) (hj : Γ[j]? = some (x, k')) : i = j := by
  have h1 : (Γ.map (·.1))[i]? = some x := by simp [hi]
  have h2 : (Γ.map (·.1))[j]? = some x := by simp [hj]
  have li : i < (Γ.map (·.1)).length := by
    rcases Nat.lt_or_ge i (Γ.map (·.1)).length with q | q
    · exact q
    · rw [List.getElem?_eq_none q] at h1; cases h1
  have lj : j < (Γ.map (·.1)).length := by
    rcases Nat.lt_or_ge j (Γ.map (·.1)).length with q | q
    · exact q
    · rw [List.getElem?_eq_none q] at h2; cases h2
  rw [List.getElem?_eq_getElem li] at h1
  rw [List.getElem?_eq_getElem lj] at h2
  have e := (Option.some.inj h1).trans (Option.some.inj h2).symm
  have pw := List.pairwise_iff_getElem.mp O.nodup
  rcases Nat.lt_trichotomy i j with q | q | q
  · exact absurd e (pw i j li lj q)
  · exact q
  · exact absurd e.symm (pw j i lj li q)

theorem lt_of_at {Γ : Cx} {i : Nat} {x : Str × Kd} (h : Γ[i]? = some x) : i < Γ.length := by
  rcases Nat.lt_or_ge i Γ.length with q | q
  · exact q
  · rw [List.getElem?_eq_none q] at h; cases h

theorem store_loc {i : Nat} {x : Str} {sl : Slot} {v : Value} {Q : Unit → Shared → Prop} (O : EnvOk Γ gn env) (F : FR H Γ env fo base φ ow s.heap) (hx : Γ[i]? = some (x, .loc))
    (hv : ∀ h', Le ow s.heap ow h' → (∀ b o, ow b ≠ some 1 → s.heap.get? b = some o → h'.get? b = some o) → SlotR ow h' i (some sl) (some v))
    (h : ∀ h' tk, FR H Γ env fo base (φ.set i sl) ow h' → Le ow s.heap ow h' → Q () { s with heap := h', toks := tk }) : wpAny M A (storeName env x v) Q E s := by
  have hk := O.kinds i x _ hx
  obtain ⟨m, hm, hsl⟩ := F.ns
  have hi : i < φ.length := by rw [F.len]; exact lt_of_at hx
  refine wpAny_storeName_local (by simpa [kindFits] using hk) hm (fun h' hn hs => ?_) (by rw [O.fn]; rfl)
  have k : ∀ b o, ow b ≠ some (0 + 1) → s.heap.get? b = some o → h'.get? b = some o := fun b o e q => (hs.2 b (fun z => e (by rw [z]; exact F.nso))).trans q
  have l : Le ow s.heap ow h' := Le.turn k (by lia)
  refine h h' _ ⟨F.top, F.hi, fun b o e => k b o (fun q => ?_) (F.keep b o e), fun b u e => ⟨(F.own b u e).1, ?_⟩, F.for1, F.for2, by rw [List.length_set]; exact F.len, ⟨_, hn, fun j y hy => ?_⟩, F.nso, fun j y hy => ?_, fun j y hy => ?_⟩ l
  · have := (F.own b 0 q).1
    rw [e] at this; cases this
  · by_cases hb : b = env.locals
    · subst hb
      obtain ⟨o, _, _, ho, _⟩ := hn
      rw [ho]; rfl
    · rw [hs.2 b hb]; exact (F.own b u e).2
  · by_cases hj : j = i
    · subst hj
      rw [hx] at hy; cases hy
      simp only [if_true]
      rw [show (φ.set j sl)[j]? = some sl by simp [hi]]
      exact hv h' l k
    · have hyx : y ≠ x := fun e => hj (name_at_inj O (e ▸ hy) hx)
      simp only [if_neg hyx]
      rw [get_set_ne hj]
      refine (hsl j y hy).mono l.toLe0 fun a o e1 e2 => ⟨e1, k a o (by rw [e1]; intro q; cases q) e2⟩
  · obtain ⟨c, v', e1, e2, e3, e4⟩ := F.cel j y hy
    have hj : j ≠ i := fun e => by subst e; rw [hx] at hy; cases hy
    rw [get_set_ne hj]
    obtain ⟨o, ho, hd⟩ := e2
    exact ⟨c, v', e1, ⟨o, k c o (by rw [e3]; intro q; cases q) ho, hd⟩, e3, e4.mono l.toLe0⟩
  · obtain ⟨c, v', pv, e1, e2, e3, e4⟩ := F.fre j y hy
    have hj : j ≠ i := fun e => by subst e; rw [hx] at hy; cases hy
    rw [get_set_ne hj]
    exact ⟨c, v', pv, e1, e2, e3, l.vr e4⟩

theorem store_cel {i : Nat} {x : Str} {pv : PV} {v : Value} {Q : Unit → Shared → Prop} (O : EnvOk Γ gn env) (F : FR H Γ env fo base φ ow s.heap) (hx : Γ[i]? = some (x, .cel)) (hv : VR (Fz ow s.heap) pv v)
    (h : ∀ h' tk, FR H Γ env fo base (φ.set i (.val pv)) ow h' → Le ow s.heap ow h' → Q () { s with heap := h', toks := tk }) : wpAny M A (storeName env x v) Q E s := by
  have hk := O.kinds i x _ hx
  obtain ⟨c, v₀, e1, e2, e3, e4⟩ := F.cel i x hx
  have hi : i < φ.length := by rw [F.len]; exact lt_of_at hx
  refine wpAny_storeName_cell O.fn (by simpa [kindFits] using hk) e1 e2 (fun h' hc hs => ?_)
  have k : ∀ b o, ow b ≠ some (i + 2 + 1) → s.heap.get? b = some o → h'.get? b = some o := fun b o e q => (hs.2 b (fun z => e (by rw [z]; exact e3))).trans q
  have l : Le ow s.heap ow h' := Le.turn k (by lia)
  have hcl : env.locals ≠ c := fun e => by have := F.nso; rw [e, e3] at this; cases this
  refine h h' s.toks (F.turn (t := i + 2) k (fun b e q => ?_) (List.length_set ..) (fun j hj => get_set_ne (by lia)) ?_ (fun j y hj hy => ?_) fun j y hy hj => ?_) l
  · by_cases hb : b = c
    · subst hb; obtain ⟨o, ho, _⟩ := hc; rw [ho]; rfl
    · rw [hs.2 b hb]; exact q
  · obtain ⟨m, hm, hsl⟩ := F.ns
    refine ⟨m, hm.sameBut hs hcl, fun j y hy => ?_⟩
    have hj : j ≠ i := fun e => by subst e; rw [hx] at hy; cases hy
    rw [get_set_ne hj]
    exact (hsl j y hy).mono l.toLe0 fun a o q1 q2 => ⟨q1, k a o (by rw [q1]; intro q; cases q; exact hj rfl) q2⟩
  · have hj' : j = i := by lia
    subst hj'
    rw [hx] at hy; cases hy
    refine ⟨c, some v, e1, hc, e3, ?_⟩
    rw [show (φ.set j (Slot.val pv))[j]? = some (Slot.val pv) by simp [hi]]
    exact ⟨v, rfl, l.vr hv⟩
  · have hj' : j = i := by lia
    subst hj'
    rw [hx] at hy; cases hy

theorem store_val {i : Nat} {x : Str} {k : Kd} {pv : PV} {v : Value} {Q : Unit → Shared → Prop} (O : EnvOk Γ gn env) (F : FR H Γ env fo base φ ow s.heap) (hx : Γ[i]? = some (x, k)) (hk : k ≠ .fre) (hv : VR (Fz ow s.heap) pv v)
    (h : ∀ h' tk, FR H Γ env fo base (φ.set i (.val pv)) ow h' → Le ow s.heap ow h' → Q () { s with heap := h', toks := tk }) : wpAny M A (storeName env x v) Q E s := by
  cases k with
  | loc => exact store_loc (sl := .val pv) O F hx (fun h' l _ => show ∃ w, some v = some w ∧ VR (Fz ow h') pv w from ⟨v, rfl, l.vr hv⟩) h
  | cel => exact store_cel O F hx hv h
  | fre => exact absurd rfl hk
end
end Mine
end
set_option genInjectivity false
set_option genSizeOf false
section
namespace Mine

inductive Tg where
  | one (i : Nat)
  | many (is : List Nat)
structure CI where
  names : List (Str × Kd × Nat)
  gn : List Str
mutual
inductive E where
  | const (v : PV)
  | var (i : Nat)
  | glob (k : Nat)
  | bin (op : Operator) (l r : E)
  | cmp (op : CmpOp) (l r : E)
  | ife (t a b : E)
  | call (f : E) (args : Es)
  | lenv (k i : Nat)
  | meth (o : E) (m : Str) (args : Es)
  | sub (o i : E)
  | subv (j : Nat) (i : E)
  | slc (o : E) (lo hi : Oe)
  | list (es : Es)
  | tup (es : Es)
  | comp (c : CI) (elt : E) (t : Tg) (iter : E) (ifs : Es) (rest : Gs)
inductive Es where
  | nil
  | cons (e : E) (es : Es)
inductive Oe where
  | no
  | yes (e : E)
inductive Gs where
  | nil
  | cons (t : Tg) (iter : E) (ifs : Es) (rest : Gs)
end

/-! what the operations give -/
mutual
noncomputable def dat : PV → Option PyData
  | .none => some .none
  | .bool b => some (.bool b)
  | .int i => some (.int i)
  | .str s => some (.str s)
  | .list xs => (dats xs).map .list
  | .tup xs => (dats xs).map .tuple
  | _ => none
noncomputable def dats : List PV → Option (List PyData)
  | [] => some []
  | x :: xs => match dat x, dats xs with
    | some d, some ds => some (d :: ds)
    | _, _ => none
end

noncomputable def onInt (b : PV) (k : Int → Prop) : Prop := match b with
  | .int y => k y
  | _ => False
theorem onInt_ok {b : PV} {k : Int → Prop} (h : onInt b k) : ∃ y, b = .int y ∧ k y := by
  cases b with
  | int y => exact ⟨_, rfl, h⟩
  | _ => exact h.elim
noncomputable def onStr (b : PV) (k : Str → Prop) : Prop := match b with
  | .str y => k y
  | _ => False
theorem onStr_ok {b : PV} {k : Str → Prop} (h : onStr b k) : ∃ y, b = .str y ∧ k y := by
  cases b with
  | str y => exact ⟨_, rfl, h⟩
  | _ => exact h.elim
noncomputable def onLst (b : PV) (k : List PV → Prop) : Prop := match b with
  | .list y => k y
  | _ => False
theorem onLst_ok {b : PV} {k : List PV → Prop} (h : onLst b k) : ∃ y, b = .list y ∧ k y := by
  cases b with
  | list y => exact ⟨_, rfl, h⟩
  | _ => exact h.elim
noncomputable def onBl (b : PV) (k : Bool → Prop) : Prop := match b with
  | .bool y => k y
  | _ => False
theorem onBl_ok {b : PV} {k : Bool → Prop} (h : onBl b k) : ∃ y, b = .bool y ∧ k y := by
  cases b with
  | bool y => exact ⟨_, rfl, h⟩
  | _ => exact h.elim
noncomputable def intsP (a b : PV) (k : Int → Int → Prop) : Prop := onInt a fun x => onInt b (k x)
theorem ints_ok {a b : PV} {k : Int → Int → Prop} (h : intsP a b k) : ∃ x y, a = .int x ∧ b = .int y ∧ k x y := by
  obtain ⟨x, rfl, h1⟩ := onInt_ok h
  obtain ⟨y, rfl, h2⟩ := onInt_ok h1
  exact ⟨x, y, rfl, rfl, h2⟩
noncomputable def addP (a b : PV) (K : PV → Prop) : Prop := match a with
  | .int a => onInt b fun b => K (.int (a + b))
  | .str a => onStr b fun b => a.length + b.length ≤ 65536 ∧ K (.str (a ++ b))
  | .list a => onLst b fun b => a.length + b.length ≤ 65536 ∧ K (.list (a ++ b))
  | _ => False
noncomputable def subP (a b : PV) (K : PV → Prop) : Prop := match a with
  | .int a => onInt b fun b => K (.int (a - b))
  | .bool a => onBl b fun b => K (.int (b2i a - b2i b))
  | _ => False
noncomputable def mulP (a b : PV) (K : PV → Prop) : Prop := match a with
  | .str a => onInt b fun n => a.length ≤ 16 ∧ -1024 ≤ n ∧ n ≤ 1024 ∧ K (.str (Txt.mul a n))
  | _ => False
noncomputable def binop (op : Operator) (a b : PV) (K : PV → Prop) : Prop := match op with
  | .Add => addP a b K
  | .Sub => subP a b K
  | .Mult => mulP a b K
  | .Mod => intsP a b fun a b => 0 < b ∧ K (.int (a % b))
  | .BitAnd => intsP a b fun a b => K (.int (Builtin.bitAnd a b))
  | _ => False
noncomputable def isInts : List PV → Option (List Int)
  | [] => some []
  | .int i :: r => (isInts r).map (i :: ·)
  | _ :: _ => none
noncomputable def isBools : List PV → Option (List Bool)
  | [] => some []
  | .bool i :: r => (isBools r).map (i :: ·)
  | _ :: _ => none
noncomputable def isStrs : List PV → Option (List Str)
  | [] => some []
  | .str i :: r => (isStrs r).map (i :: ·)
  | _ :: _ => none
noncomputable def ltP (a b : PV) (K : Bool → Prop) : Prop := match a with
  | .int a => onInt b fun b => K (decide (a < b))
  | .str a => onStr b fun b => K (decide (a.cps.toList < b.cps.toList))
  | _ => False
noncomputable def gtP (a b : PV) (K : Bool → Prop) : Prop := match a with
  | .int a => onInt b fun b => K (decide (a > b))
  | .str a => onStr b fun b => K (decide (b.cps.toList < a.cps.toList))
  | _ => False
noncomputable def cmpop (op : CmpOp) (a b : PV) (K : Bool → Prop) : Prop := match op with
  | .Lt => ltP a b K
  | .Gt => gtP a b K
  | .Eq => ∃ da db, dat a = some da ∧ dat b = some db ∧ min da.depth db.depth ≤ 8 ∧ K (PyData.eqv da db)
  | .NotEq => ∃ da db, dat a = some da ∧ dat b = some db ∧ min da.depth db.depth ≤ 8 ∧ K (!PyData.eqv da db)
  | _ => False
noncomputable def itemsOf : PV → Option (List PV)
  | .list xs => some xs
  | .tup xs => some xs
  | .rng n => some ((List.range n.toNat).map fun (i : Nat) => PV.int i)
  | .str s => some (s.cps.toList.map fun c => .str ⟨#[c]⟩)
  | _ => none
noncomputable def itemAt : PV → PV → (PV → Prop) → Prop
  | .list xs, .int i, K => 0 ≤ i ∧ ∃ x, xs[i.toNat]? = some x ∧ K x
  | .tup xs, .int i, K => 0 ≤ i ∧ ∃ x, xs[i.toNat]? = some x ∧ K x
  | .str s, .int i, K => 0 ≤ i ∧ ∃ c, s.cps.toList[i.toNat]? = some c ∧ K (.str ⟨#[c]⟩)
  | _, _, _ => False
noncomputable def cut {α : Type} (xs : List α) (lo hi : Option Int) : List α :=
  let h := match hi with | some h => xs.take h.toNat | none => xs
  match lo with | some l => h.drop l.toNat | none => h
noncomputable def sliceOf : PV → Option Int → Option Int → (PV → Prop) → Prop
  | .list xs, lo, hi, K => (∀ i ∈ lo.toList ++ hi.toList, 0 ≤ i ∧ i < 2 ^ 62) ∧ K (.list (cut xs lo hi))
  | .str s, lo, hi, K => (∀ i ∈ lo.toList ++ hi.toList, 0 ≤ i ∧ i < 2 ^ 62) ∧ K (.str ⟨(cut s.cps.toList lo hi).toArray⟩)
  | _, _, _, _ => False
noncomputable def maxOf : List Int → Int
  | [] => 0
  | x :: r => r.foldl max x
noncomputable def methOk (SP : Value → List PV → PV → Prop) : PV → Str → Prop
  | .raw p, m => m = "sub" ∧ ∃ vs r, SP (.builtin "re.Pattern.sub") (.raw p :: vs) r
  | .list _, m => m = "index"
  | .str _, m => m = "join" ∨ m = "split"
  | _, _ => False
noncomputable def strMeth (m : Str) : String := if m = "join" then "str.join" else "str.split"
noncomputable def arg1 (vs : List PV) (k : PV → Prop) : Prop := match vs with
  | [] => False
  | x :: r => (match r with
    | [] => k x
    | _ :: _ => False)
theorem arg1_ok {vs : List PV} {k : PV → Prop} (h : arg1 vs k) : ∃ x, vs = [x] ∧ k x := by
  cases vs with
  | nil => exact h.elim
  | cons x r => cases r with
    | nil => exact ⟨_, rfl, h⟩
    | cons _ _ => exact h.elim
noncomputable def lenOf (x : PV) (K : PV → Prop) : Prop := match x with
  | .list xs => K (.int xs.length)
  | .str s => K (.int s.length)
  | _ => False
noncomputable def listOf (x : PV) (K : PV → Prop) : Prop := match x with
  | .list xs => xs.length ≤ 65536 ∧ K (.list xs)
  | .rng n => n ≤ 65536 ∧ K (.list ((List.range n.toNat).map fun (i : Nat) => PV.int i))
  | _ => False
noncomputable def max2 (x y : PV) (K : PV → Prop) : Prop :=
False
noncomputable def sumP (vs : List PV) (K : PV → Prop) : Prop :=
False
noncomputable def max1 (x : PV) (K : PV → Prop) : Prop := onLst x fun xs => ∃ ns, isInts xs = some ns ∧ ns ≠ [] ∧ K (.int (maxOf ns))
noncomputable def maxP (vs : List PV) (K : PV → Prop) : Prop := match vs with
  | [] => False
  | x :: r => (match r with
    | [] => max1 x K
    | y :: r => (match r with
      | [] => max2 x y K
      | _ :: _ => False))
noncomputable def app (SP : Value → List PV → PV → Prop) (f : PV) (vs : List PV) (K : PV → Prop) : Prop := match f with
  | .raw v => (match v with
    | .ref f => ∃ r, SP (.ref f) vs r ∧ K r
    | .builtin b => if b = "len" then arg1 vs (lenOf · K) else if b = "sum" then sumP vs K
      else if b = "max" then maxP vs K else if b = "sorted" then ∃ r, SP (.builtin "sorted") vs r ∧ K r else False
    | .type t => if t = "list" then arg1 vs (listOf · K) else if t = "range" then arg1 vs fun x => onInt x fun n => 0 ≤ n ∧ n ≤ 1000000 ∧ K (.rng n) else False
    | _ => False)
  | _ => False
noncomputable def meth (SP : Value → List PV → PV → Prop) : PV → Str → List PV → (PV → Prop) → Prop
  | .raw p, m, vs, K => m = "sub" ∧ ∃ r, SP (.builtin "re.Pattern.sub") (.raw p :: vs) r ∧ K r
  | .list xs, m, [.int a], K => m = "index" ∧ ∃ ns, isInts xs = some ns ∧ a ∈ ns ∧ K (.int (ns.idxOf a))
  | .str x, m, vs, K => (m = "join" ∨ m = "split") ∧ ∃ r, SP (.builtin (strMeth m)) (.str x :: vs) r ∧ K r
  | _, _, _, _ => False

noncomputable def setAll : Frame → List Nat → List PV → Frame
  | φ, i :: is, x :: xs => setAll (φ.set i (.val x)) is xs
  | φ, _, _ => φ
noncomputable def asg : Tg → PV → Frame → (Frame → Prop) → Prop
  | .one i, v, φ, K => K (φ.set i (.val v))
  | .many is, v, φ, K => ∃ xs, (v = .list xs ∨ v = .tup xs) ∧ xs.length = is.length ∧ K (setAll φ is xs)
noncomputable def loopI (turn : PV → Frame → List PV → (Frame → List PV → Prop) → Prop) : List PV → Frame → List PV → (Frame → List PV → Prop) → Prop
  | [], φ, acc, K => K φ acc
  | v :: vs, φ, acc, K => turn v φ acc fun φ acc => loopI turn vs φ acc K
noncomputable def startC (φ : Frame) : List (Str × Kd × Nat) → Option Frame
  | [] => some []
  | (_, .fre, j) :: r => match φ[j]? with
    | some (.val v) => (startC φ r).map (.val v :: ·)
    | _ => none
  | _ :: r => (startC φ r).map (.unb :: ·)

section
variable (GT : List (Str × PV)) (SP : Value → List PV → PV → Prop)
mutual
noncomputable def evE : E → Frame → (PV → Frame → Prop) → Prop
  | .const v, φ, K => K v φ
  | .var i, φ, K => match φ[i]? with
    | some (.val v) => K v φ
    | some (.own xs) => xs.length ≤ 65536 ∧ K (.list xs) (φ.set i (.val (.list xs)))
    | _ => False
  | .glob k, φ, K => match GT[k]? with
    | some (_, v) => K v φ
    | none => False
  | .bin op l r, φ, K => evE l φ fun a φ => evE r φ fun b φ => binop op a b fun v => K v φ
  | .cmp op l r, φ, K => evE l φ fun a φ => evE r φ fun b φ => cmpop op a b fun c => K (.bool c) φ
  | .ife t a b, φ, K => evT t φ fun c φ => (c = true → evE a φ K) ∧ (c = false → evE b φ K)
  | .call f as, φ, K => evE f φ fun fv φ => evEs as φ fun vs φ => app SP fv vs fun r => K r φ
  | .lenv k i, φ, K => match GT[k]?, φ[i]? with
    | some (_, .raw (.builtin "len")), some (.own xs) => xs.length ≤ 65536 ∧ K (.int xs.length) φ
    | _, _ => False
  | .meth o m as, φ, K => evE o φ fun ov φ => methOk SP ov m ∧ evEs as φ fun vs φ => meth SP ov m vs fun r => K r φ
  | .sub o i, φ, K => evE o φ fun ov φ => evE i φ fun iv φ => itemAt ov iv fun r => K r φ
  | .subv j i, φ, K => match φ[j]? with
    | some (.own xs) => evE i φ fun iv φ => φ[j]? = some (.own xs) ∧ xs.length ≤ 65536 ∧ ∃ k x, iv = .int k ∧ 0 ≤ k ∧ xs[k.toNat]? = some x ∧ K x φ
    | _ => False
  | .slc o lo hi, φ, K => evE o φ fun ov φ => evO lo φ fun l φ => evO hi φ fun h φ => sliceOf ov l h fun r => K r φ
  | .list es, φ, K => evEs es φ fun vs φ => vs.length ≤ 65536 ∧ K (.list vs) φ
  | .tup es, φ, K => evEs es φ fun vs φ => vs.length ≤ 65536 ∧ K (.tup vs) φ
  | .comp c elt t iter ifs rest, φ, K => evE iter φ fun x φ => ∃ items φ₀, itemsOf x = some items ∧ startC φ c.names = some φ₀ ∧
      loopI (fun v φ acc K => asg t v φ fun φ => evTs ifs φ fun b φ => (b = true → evG rest (evE elt) φ acc K) ∧ (b = false → K φ acc)) items φ₀ [] fun _ acc => acc.length ≤ 65536 ∧ K (.list acc) φ
noncomputable def evEs : Es → Frame → (List PV → Frame → Prop) → Prop
  | .nil, φ, K => K [] φ
  | .cons e es, φ, K => evE e φ fun v φ => evEs es φ fun vs φ => K (v :: vs) φ
noncomputable def evO : Oe → Frame → (Option Int → Frame → Prop) → Prop
  | .no, φ, K => K none φ
  | .yes e, φ, K => evE e φ fun v φ => ∃ i, v = .int i ∧ K (some i) φ
noncomputable def evT : E → Frame → (Bool → Frame → Prop) → Prop
  | .cmp op l r, φ, K => evE l φ fun a φ => evE r φ fun b φ => cmpop op a b fun c => K c φ
  | .call f as, φ, K => evE f φ fun fv φ => evEs as φ fun vs φ => app SP fv vs fun r => ∃ b, r = .bool b ∧ K b φ
  | _, _, _ => False
noncomputable def evTs : Es → Frame → (Bool → Frame → Prop) → Prop
  | .nil, φ, K => K true φ
  | .cons c cs, φ, K => evT c φ fun b φ => (b = true → evTs cs φ K) ∧ (b = false → K false φ)
noncomputable def evG : Gs → (Frame → (PV → Frame → Prop) → Prop) → Frame → List PV → (Frame → List PV → Prop) → Prop
  | .nil, elt, φ, acc, K => elt φ fun v φ => acc.length ≤ 65536 ∧ K φ (acc ++ [v])
  | .cons t iter ifs rest, elt, φ, acc, K => evE iter φ fun x φ => ∃ items, itemsOf x = some items ∧
      loopI (fun v φ acc K => asg t v φ fun φ => evTs ifs φ fun b φ => (b = true → evG rest elt φ acc K) ∧ (b = false → K φ acc)) items φ acc K
end

mutual
inductive S where
  | asg (t : Tg) (e : E)
  | own (i : Nat) (e : E)
  | swap (j : Nat) (a b e : E)
  | app (j : Nat) (e : E)
  | loop (t : Tg) (iter : E) (body orelse : Bs)
  | enum (k : Nat) (t : Tg) (iter : E) (body orelse : Bs)
  | ife (t : E) (a b : Bs)
  | ret (e : E)
  | brk
  | ifX (op : CmpOp) (f : E) (as : Es) (r : E) (a b : Bs)
inductive Bs where
  | nil
  | cons (s : S) (r : Bs)
end
noncomputable def setO (GT : List (Str × PV)) (SP : Value → List PV → PV → Prop) (i : E) (j : Nat) (x : PV) (φ : Frame) (K : Frame → Prop) : Prop := match φ[j]? with
  | some (.own xs) => evE GT SP i φ fun iv φ => φ[j]? = some (.own xs) ∧ ∃ n, iv = .int n ∧ 0 ≤ n ∧ n < xs.length ∧ xs.length ≤ 65536 ∧ K (φ.set j (.own (xs.set n.toNat x)))
  | _ => False
noncomputable def evX (GT : List (Str × PV)) (SP SX : Value → List PV → PV → Prop) (f : E) (as : Es) (φ : Frame) (K : PV → Frame → Prop) : Prop :=
  evE GT SP f φ fun fv φ => ∃ a, fv = .raw (.ref a) ∧ (∃ vs r, SX (.ref a) vs r) ∧ evEs GT SP as φ fun vs φ => ∃ r, SX (.ref a) vs r ∧ K r φ
structure Ks where
  n : Frame → Prop
  r : PV → Prop
  b : Frame → Prop
noncomputable def loopF (turn : PV → Frame → (Frame → Prop) → Prop) : List PV → Frame → (Frame → Prop) → Prop
  | [], φ, done => done φ
  | v :: vs, φ, done => turn v φ fun φ => loopF turn vs φ done
variable (SX : Value → List PV → PV → Prop)
mutual
noncomputable def evS : S → Frame → Ks → Prop
  | .asg t e, φ, k => evE GT SP e φ fun v φ => asg t v φ k.n
  | .own i e, φ, k => evE GT SP e φ fun v φ => ∃ xs, v = .list xs ∧ k.n (φ.set i (.own xs))
  | .swap j a b e, φ, k => evE GT SP e φ fun v φ => ∃ x y, v = .tup [x, y] ∧ setO GT SP a j x φ fun φ => setO GT SP b j y φ k.n
  | .app j e, φ, k => match φ[j]? with
    | some (.own xs) => evE GT SP e φ fun v φ => φ[j]? = some (.own xs) ∧ xs.length ≤ 65536 ∧ k.n (φ.set j (.own (xs ++ [v])))
    | _ => False
  | .loop t iter body orelse, φ, k => evE GT SP iter φ fun x φ => ∃ items, itemsOf x = some items ∧
      loopF (fun v φ nxt => asg t v φ fun φ => evB body φ ⟨nxt, k.r, k.n⟩) items φ fun φ => evB orelse φ k
  | .enum g t iter body orelse, φ, k => (∃ x, GT[g]? = some (x, .raw (.type "enumerate"))) ∧ evE GT SP iter φ fun x φ => ∃ items, x = .tup items ∧
      loopF (fun v φ nxt => asg t v φ fun φ => evB body φ ⟨nxt, k.r, k.n⟩) (items.zipIdx.map fun p => .tup [.int p.2, p.1]) φ fun φ => evB orelse φ k
  | .ife t a b, φ, k => evT GT SP t φ fun c φ => (c = true → evB a φ k) ∧ (c = false → evB b φ k)
  | .ret e, φ, k => evE GT SP e φ fun v _ => k.r v
  | .brk, φ, k => k.b φ
  | .ifX op f as r a b, φ, k => evX GT SP SX f as φ fun x φ => evE GT SP r φ fun y φ => cmpop op x y fun c => (c = true → evB a φ k) ∧ (c = false → evB b φ k)
noncomputable def evB : Bs → Frame → Ks → Prop
  | .nil, φ, k => k.n φ
  | .cons s r, φ, k => evS s φ ⟨fun φ => evB r φ k, k.r, k.b⟩
end
end
/-! one line of a definition each: no equation has to be made from the whole -/
section
variable {GT : List (Str × PV)} {SP : Value → List PV → PV → Prop} {φ : Frame} {K : PV → Prop} {b : Bool} {y i n : Int} {bn : _} {s m : Str} {xs us vs r : List PV} {u v x : PV} {w : Value} {a : Addr} {j : Nat} {js : List Nat} {lo hi : Option Int} {ki : Int → Prop} {ks : Str → Prop} {kl : List PV → Prop} {kb : Bool → Prop} {kf : Frame → Prop} {rs : List (Str × Kd × Nat)}
theorem dat_none : dat .none = (some .none) := rfl
theorem dat_bool : dat (.bool b) = (some (.bool b)) := rfl
theorem dat_int : dat (.int i) = (some (.int i)) := rfl
theorem dat_str : dat (.str s) = (some (.str s)) := rfl
theorem dat_list : dat (.list xs) = ((dats xs).map .list) := rfl
theorem dat_tup : dat (.tup xs) = ((dats xs).map .tuple) := rfl
theorem dat_rng : dat (.rng n) = (none) := rfl
theorem dat_raw : dat (.raw w) = (none) := rfl
theorem dats_nil : dats [] = (some []) := rfl
theorem dats_cons : dats (x :: xs) = (match dat x, dats xs with
    | some d, some ds => some (d :: ds)
    | _, _ => none) := rfl
theorem onInt_int : onInt (.int y) ki = (ki y) := rfl
theorem onStr_str : onStr (.str s) ks = (ks s) := rfl
theorem onLst_list : onLst (.list xs) kl = (kl xs) := rfl
theorem onBl_bool : onBl (.bool b) kb = (kb b) := rfl
theorem addP_int : addP (.int y) u K = (onInt u fun b => K (.int (y + b))) := rfl
theorem addP_str : addP (.str s) u K = (onStr u fun b => s.length + b.length ≤ 65536 ∧ K (.str (s ++ b))) := rfl
theorem addP_list : addP (.list xs) u K = (onLst u fun b => xs.length + b.length ≤ 65536 ∧ K (.list (xs ++ b))) := rfl
theorem subP_int : subP (.int y) u K = (onInt u fun b => K (.int (y - b))) := rfl
theorem subP_bool : subP (.bool b) u K = (onBl u fun c => K (.int (b2i b - b2i c))) := rfl
theorem mulP_str : mulP (.str s) u K = (onInt u fun n => s.length ≤ 16 ∧ -1024 ≤ n ∧ n ≤ 1024 ∧ K (.str (Txt.mul s n))) := rfl
theorem binop_Add : binop .Add u v K = (addP u v K) := rfl
theorem binop_Sub : binop .Sub u v K = (subP u v K) := rfl
theorem binop_Mult : binop .Mult u v K = (mulP u v K) := rfl
theorem binop_Mod : binop .Mod u v K = (intsP u v fun a b => 0 < b ∧ K (.int (a % b))) := rfl
theorem binop_BitAnd : binop .BitAnd u v K = (intsP u v fun a b => K (.int (Builtin.bitAnd a b))) := rfl
theorem ltP_int : ltP (.int y) u kb = (onInt u fun b => kb (decide (y < b))) := rfl
theorem ltP_str : ltP (.str s) u kb = (onStr u fun b => kb (decide (s.cps.toList < b.cps.toList))) := rfl
theorem gtP_int : gtP (.int y) u kb = (onInt u fun b => kb (decide (y > b))) := rfl
theorem gtP_str : gtP (.str s) u kb = (onStr u fun b => kb (decide (b.cps.toList < s.cps.toList))) := rfl
theorem cmpop_Lt : cmpop .Lt u v kb = (ltP u v kb) := rfl
theorem cmpop_Gt : cmpop .Gt u v kb = (gtP u v kb) := rfl
theorem isInts_nil : isInts [] = (some []) := rfl
theorem isInts_int : isInts (.int i :: r) = ((isInts r).map (i :: ·)) := rfl
theorem isInts_none : isInts (.none :: r) = (none) := rfl
theorem isInts_bool : isInts (.bool b :: r) = (none) := rfl
theorem isInts_str : isInts (.str s :: r) = (none) := rfl
theorem isInts_list : isInts (.list xs :: r) = (none) := rfl
theorem isInts_tup : isInts (.tup xs :: r) = (none) := rfl
theorem isInts_rng : isInts (.rng i :: r) = (none) := rfl
theorem isInts_raw : isInts (.raw w :: r) = (none) := rfl
theorem itemAt_list : itemAt (.list xs) (.int i) K = (0 ≤ i ∧ ∃ x, xs[i.toNat]? = some x ∧ K x) := rfl
theorem itemAt_tup : itemAt (.tup xs) (.int i) K = (0 ≤ i ∧ ∃ x, xs[i.toNat]? = some x ∧ K x) := rfl
theorem itemAt_str : itemAt (.str s) (.int i) K = (0 ≤ i ∧ ∃ c, s.cps.toList[i.toNat]? = some c ∧ K (.str ⟨#[c]⟩)) := rfl
theorem sliceOf_list : sliceOf (.list xs) lo hi K = ((∀ i ∈ lo.toList ++ hi.toList, 0 ≤ i ∧ i < 2 ^ 62) ∧ K (.list (cut xs lo hi))) := rfl
theorem sliceOf_str : sliceOf (.str s) lo hi K = ((∀ i ∈ lo.toList ++ hi.toList, 0 ≤ i ∧ i < 2 ^ 62) ∧ K (.str ⟨(cut s.cps.toList lo hi).toArray⟩)) := rfl
theorem methOk_raw : methOk SP (.raw w) m = ((m = "sub" ∧ ∃ vs r, SP (.builtin "re.Pattern.sub") (.raw w :: vs) r)) := rfl
theorem methOk_list : methOk SP (.list xs) m = ((m = "index")) := rfl
theorem methOk_str : methOk SP (.str s) m = ((m = "join" ∨ m = "split")) := rfl
theorem meth_raw : meth SP (.raw w) m vs K = ((m = "sub" ∧ ∃ r, SP (.builtin "re.Pattern.sub") (.raw w :: vs) r ∧ K r)) := rfl
theorem meth_list : meth SP (.list xs) m [.int y] K = ((m = "index" ∧ ∃ ns, isInts xs = some ns ∧ y ∈ ns ∧ K (.int (ns.idxOf y)))) := rfl
theorem meth_str : meth SP (.str s) m vs K = (((m = "join" ∨ m = "split") ∧ ∃ r, SP (.builtin (strMeth m)) (.str s :: vs) r ∧ K r)) := rfl
theorem arg1_one : arg1 [u] K = (K u) := rfl
theorem lenOf_list : lenOf (.list xs) K = (K (.int xs.length)) := rfl
theorem lenOf_str : lenOf (.str s) K = (K (.int s.length)) := rfl
theorem listOf_list : listOf (.list xs) K = ((xs.length ≤ 65536 ∧ K (.list xs))) := rfl
theorem listOf_rng : listOf (.rng n) K = ((n ≤ 65536 ∧ K (.list ((List.range n.toNat).map fun (i : Nat) => PV.int i)))) := rfl
theorem app_ref : app SP (.raw (.ref a)) vs K = (∃ r, SP (.ref a) vs r ∧ K r) := rfl
theorem app_builtin : app SP (.raw (.builtin bn)) vs K = (if bn = "len" then arg1 vs (lenOf · K) else if bn = "sum" then sumP vs K
      else if bn = "max" then maxP vs K else if bn = "sorted" then ∃ r, SP (.builtin "sorted") vs r ∧ K r else False) := rfl
theorem app_type : app SP (.raw (.type bn)) vs K = (if bn = "list" then arg1 vs (listOf · K) else if bn = "range" then arg1 vs fun x => onInt x fun n => 0 ≤ n ∧ n ≤ 1000000 ∧ K (.rng n) else False) := rfl
theorem asg_one : asg (.one j) u φ kf = (kf (φ.set j (.val u))) := rfl
theorem asg_many : asg (.many js) u φ kf = (∃ xs, (u = .list xs ∨ u = .tup xs) ∧ xs.length = js.length ∧ kf (setAll φ js xs)) := rfl
theorem setAll_cons : setAll φ (j :: js) (u :: us) = (setAll (φ.set j (.val u)) js us) := rfl
theorem setAll_nil : setAll φ [] us = (φ) := rfl
theorem startC_nil : startC φ [] = (some []) := rfl
theorem startC_fre : startC φ ((s, .fre, j) :: rs) = (match φ[j]? with
    | some (.val v) => (startC φ rs).map (.val v :: ·)
    | _ => none) := rfl
theorem startC_loc : startC φ ((s, .loc, j) :: rs) = ((startC φ rs).map (.unb :: ·)) := rfl
theorem startC_cel : startC φ ((s, .cel, j) :: rs) = ((startC φ rs).map (.unb :: ·)) := rfl
end
section
variable {GT : List (Str × PV)} {SP SX : Value → List PV → PV → Prop} {φ : Frame}
theorem evE_const {v} {K : PV → Frame → Prop} : evE GT SP (.const v) φ K = (K v φ) := rfl
theorem evE_var {i} {K : PV → Frame → Prop} : evE GT SP (.var i) φ K = (match φ[i]? with
    | some (.val v) => K v φ
    | some (.own xs) => xs.length ≤ 65536 ∧ K (.list xs) (φ.set i (.val (.list xs)))
    | _ => False) := rfl
theorem evE_glob {k} {K : PV → Frame → Prop} : evE GT SP (.glob k) φ K = (match GT[k]? with
    | some (_, v) => K v φ
    | none => False) := rfl
theorem evE_bin {op} {l} {r} {K : PV → Frame → Prop} : evE GT SP (.bin op l r) φ K = (evE GT SP l φ fun a φ => evE GT SP r φ fun b φ => binop op a b fun v => K v φ) := rfl
theorem evE_cmp {op} {l} {r} {K : PV → Frame → Prop} : evE GT SP (.cmp op l r) φ K = (evE GT SP l φ fun a φ => evE GT SP r φ fun b φ => cmpop op a b fun c => K (.bool c) φ) := rfl
theorem evE_ife {t} {a} {b} {K : PV → Frame → Prop} : evE GT SP (.ife t a b) φ K = (evT GT SP t φ fun c φ => (c = true → evE GT SP a φ K) ∧ (c = false → evE GT SP b φ K)) := rfl
theorem evE_call {f} {as} {K : PV → Frame → Prop} : evE GT SP (.call f as) φ K = (evE GT SP f φ fun fv φ => evEs GT SP as φ fun vs φ => app SP fv vs fun r => K r φ) := rfl
theorem evE_lenv {k} {i} {K : PV → Frame → Prop} : evE GT SP (.lenv k i) φ K = (match GT[k]?, φ[i]? with
    | some (_, .raw (.builtin "len")), some (.own xs) => xs.length ≤ 65536 ∧ K (.int xs.length) φ
    | _, _ => False) := rfl
theorem evE_meth {o} {m} {as} {K : PV → Frame → Prop} : evE GT SP (.meth o m as) φ K = (evE GT SP o φ fun ov φ => methOk SP ov m ∧ evEs GT SP as φ fun vs φ => meth SP ov m vs fun r => K r φ) := rfl
theorem evE_sub {o} {i} {K : PV → Frame → Prop} : evE GT SP (.sub o i) φ K = (evE GT SP o φ fun ov φ => evE GT SP i φ fun iv φ => itemAt ov iv fun r => K r φ) := rfl
theorem evE_subv {j} {i} {K : PV → Frame → Prop} : evE GT SP (.subv j i) φ K = (match φ[j]? with
    | some (.own xs) => evE GT SP i φ fun iv φ => φ[j]? = some (.own xs) ∧ xs.length ≤ 65536 ∧ ∃ k x, iv = .int k ∧ 0 ≤ k ∧ xs[k.toNat]? = some x ∧ K x φ
    | _ => False) := rfl
theorem evE_slc {o} {lo} {hi} {K : PV → Frame → Prop} : evE GT SP (.slc o lo hi) φ K = (evE GT SP o φ fun ov φ => evO GT SP lo φ fun l φ => evO GT SP hi φ fun h φ => sliceOf ov l h fun r => K r φ) := rfl
theorem evE_list {es} {K : PV → Frame → Prop} : evE GT SP (.list es) φ K = (evEs GT SP es φ fun vs φ => vs.length ≤ 65536 ∧ K (.list vs) φ) := rfl
theorem evE_tup {es} {K : PV → Frame → Prop} : evE GT SP (.tup es) φ K = (evEs GT SP es φ fun vs φ => vs.length ≤ 65536 ∧ K (.tup vs) φ) := rfl
theorem evE_comp {c} {elt} {t} {iter} {ifs} {rest} {K : PV → Frame → Prop} : evE GT SP (.comp c elt t iter ifs rest) φ K = (evE GT SP iter φ fun x φ => ∃ items φ₀, itemsOf x = some items ∧ startC φ c.names = some φ₀ ∧
      loopI (fun v φ acc K => asg t v φ fun φ => evTs GT SP ifs φ fun b φ => (b = true → evG GT SP rest (evE GT SP elt) φ acc K) ∧ (b = false → K φ acc)) items φ₀ [] fun _ acc => acc.length ≤ 65536 ∧ K (.list acc) φ) := rfl
theorem evEs_nil  {K : List PV → Frame → Prop} : evEs GT SP .nil φ K = (K [] φ) := rfl
theorem evEs_cons {e} {es} {K : List PV → Frame → Prop} : evEs GT SP (.cons e es) φ K = (evE GT SP e φ fun v φ => evEs GT SP es φ fun vs φ => K (v :: vs) φ) := rfl
theorem evO_no  {K : Option Int → Frame → Prop} : evO GT SP .no φ K = (K none φ) := rfl
theorem evO_yes {e} {K : Option Int → Frame → Prop} : evO GT SP (.yes e) φ K = (evE GT SP e φ fun v φ => ∃ i, v = .int i ∧ K (some i) φ) := rfl
theorem evT_cmp {op} {l} {r} {K : Bool → Frame → Prop} : evT GT SP (.cmp op l r) φ K = (evE GT SP l φ fun a φ => evE GT SP r φ fun b φ => cmpop op a b fun c => K c φ) := rfl
theorem evT_call {f} {as} {K : Bool → Frame → Prop} : evT GT SP (.call f as) φ K = (evE GT SP f φ fun fv φ => evEs GT SP as φ fun vs φ => app SP fv vs fun r => ∃ b, r = .bool b ∧ K b φ) := rfl
theorem evT_const {v} {K : Bool → Frame → Prop} : evT GT SP (.const v) φ K = (False) := rfl
theorem evT_var {i} {K : Bool → Frame → Prop} : evT GT SP (.var i) φ K = (False) := rfl
theorem evT_glob {k} {K : Bool → Frame → Prop} : evT GT SP (.glob k) φ K = (False) := rfl
theorem evT_bin {op} {l} {r} {K : Bool → Frame → Prop} : evT GT SP (.bin op l r) φ K = (False) := rfl
theorem evT_ife {t} {a} {b} {K : Bool → Frame → Prop} : evT GT SP (.ife t a b) φ K = (False) := rfl
theorem evT_lenv {k} {i} {K : Bool → Frame → Prop} : evT GT SP (.lenv k i) φ K = (False) := rfl
theorem evT_meth {o} {m} {as} {K : Bool → Frame → Prop} : evT GT SP (.meth o m as) φ K = (False) := rfl
theorem evT_sub {o} {i} {K : Bool → Frame → Prop} : evT GT SP (.sub o i) φ K = (False) := rfl
theorem evT_subv {j} {i} {K : Bool → Frame → Prop} : evT GT SP (.subv j i) φ K = (False) := rfl
theorem evT_slc {o} {lo} {hi} {K : Bool → Frame → Prop} : evT GT SP (.slc o lo hi) φ K = (False) := rfl
theorem evT_list {es} {K : Bool → Frame → Prop} : evT GT SP (.list es) φ K = (False) := rfl
theorem evT_tup {es} {K : Bool → Frame → Prop} : evT GT SP (.tup es) φ K = (False) := rfl
theorem evT_comp {c} {elt} {t} {iter} {ifs} {rest} {K : Bool → Frame → Prop} : evT GT SP (.comp c elt t iter ifs rest) φ K = (False) := rfl
theorem evTs_nil  {K : Bool → Frame → Prop} : evTs GT SP .nil φ K = (K true φ) := rfl
theorem evTs_cons {c} {cs} {K : Bool → Frame → Prop} : evTs GT SP (.cons c cs) φ K = (evT GT SP c φ fun b φ => (b = true → evTs GT SP cs φ K) ∧ (b = false → K false φ)) := rfl
theorem evG_nil  {elt : Frame → (PV → Frame → Prop) → Prop} {acc : List PV} {K : Frame → List PV → Prop} : evG GT SP .nil elt φ acc K = (elt φ fun v φ => acc.length ≤ 65536 ∧ K φ (acc ++ [v])) := rfl
theorem evG_cons {t} {iter} {ifs} {rest} {elt : Frame → (PV → Frame → Prop) → Prop} {acc : List PV} {K : Frame → List PV → Prop} : evG GT SP (.cons t iter ifs rest) elt φ acc K = (evE GT SP iter φ fun x φ => ∃ items, itemsOf x = some items ∧
      loopI (fun v φ acc K => asg t v φ fun φ => evTs GT SP ifs φ fun b φ => (b = true → evG GT SP rest elt φ acc K) ∧ (b = false → K φ acc)) items φ acc K) := rfl
theorem evS_asg {t} {e} {k : Ks} : evS GT SP SX (.asg t e) φ k = (evE GT SP e φ fun v φ => Mine.asg t v φ k.n) := rfl
theorem evS_own {i} {e} {k : Ks} : evS GT SP SX (.own i e) φ k = (evE GT SP e φ fun v φ => ∃ xs, v = .list xs ∧ k.n (φ.set i (.own xs))) := rfl
theorem evS_swap {j} {a} {b} {e} {k : Ks} : evS GT SP SX (.swap j a b e) φ k = (evE GT SP e φ fun v φ => ∃ x y, v = .tup [x, y] ∧ setO GT SP a j x φ fun φ => setO GT SP b j y φ k.n) := rfl
theorem evS_app {j} {e} {k : Ks} : evS GT SP SX (.app j e) φ k = (match φ[j]? with
    | some (.own xs) => evE GT SP e φ fun v φ => φ[j]? = some (.own xs) ∧ xs.length ≤ 65536 ∧ k.n (φ.set j (.own (xs ++ [v])))
    | _ => False) := rfl
theorem evS_loop {t} {iter} {body} {orelse} {k : Ks} : evS GT SP SX (.loop t iter body orelse) φ k = (evE GT SP iter φ fun x φ => ∃ items, itemsOf x = some items ∧
      loopF (fun v φ nxt => Mine.asg t v φ fun φ => evB GT SP SX body φ ⟨nxt, k.r, k.n⟩) items φ fun φ => evB GT SP SX orelse φ k) := rfl
theorem evS_enum {g} {t} {iter} {body} {orelse} {k : Ks} : evS GT SP SX (.enum g t iter body orelse) φ k = ((∃ x, GT[g]? = some (x, .raw (.type "enumerate"))) ∧ evE GT SP iter φ fun x φ => ∃ items, x = .tup items ∧
      loopF (fun v φ nxt => Mine.asg t v φ fun φ => evB GT SP SX body φ ⟨nxt, k.r, k.n⟩) (items.zipIdx.map fun p => .tup [.int p.2, p.1]) φ fun φ => evB GT SP SX orelse φ k) := rfl
theorem evS_ife {t} {a} {b} {k : Ks} : evS GT SP SX (.ife t a b) φ k = (evT GT SP t φ fun c φ => (c = true → evB GT SP SX a φ k) ∧ (c = false → evB GT SP SX b φ k)) := rfl
theorem evS_ret {e} {k : Ks} : evS GT SP SX (.ret e) φ k = (evE GT SP e φ fun v _ => k.r v) := rfl
theorem evS_brk  {k : Ks} : evS GT SP SX .brk φ k = (k.b φ) := rfl
theorem evS_ifX {op} {f} {as} {r} {a} {b} {k : Ks} : evS GT SP SX (.ifX op f as r a b) φ k = (evX GT SP SX f as φ fun x φ => evE GT SP r φ fun y φ => cmpop op x y fun c => (c = true → evB GT SP SX a φ k) ∧ (c = false → evB GT SP SX b φ k)) := rfl
theorem evB_nil_  {k : Ks} : evB GT SP SX .nil φ k = (k.n φ) := rfl
theorem evB_cons {s : S} {r : Bs} {k : Ks} : evB GT SP SX (.cons s r) φ k = (evS GT SP SX s φ ⟨fun φ => evB GT SP SX r φ k, k.r, k.b⟩) := rfl
end

section
variable {SP : Value → List PV → PV → Prop} {xs : List PV} {a b : Int} {K : PV → Prop}
theorem app_len : app SP (.raw (.builtin "len")) [.list xs] K = K (.int xs.length) := by
  rw [app_builtin, if_pos rfl]; rfl
theorem app_max1 : app SP (.raw (.builtin "max")) [.list xs] K = ∃ ns, isInts xs = some ns ∧ ns ≠ [] ∧ K (.int (maxOf ns)) := by
  rw [app_builtin, if_neg (by decide), if_neg (by decide), if_pos rfl]; rfl
end
end Mine
end
section
namespace Mine
section
variable {prog : Program} {w : World} {A : Around} {E : Value → Shared → Prop} {s : Shared} {ow : Addr → Option Nat}

noncomputable abbrev OpQ (K : PV → Prop) (ow : Addr → Option Nat) (s : Shared) (Q : Value → Shared → Prop) : Prop :=
  ∀ v pv h' tk, K pv → (∀ b o, s.heap.get? b = some o → h'.get? b = some o) → VR (Fz ow h') pv v → Q v { s with heap := h', toks := tk }

theorem mulOk_small {a b : Int} (h : 0 ≤ a) (h' : a < 65536) : IntMulOk a b := .of_left (by
  have e : a.natAbs < 2 ^ 16 := by lia
  unfold Builtin.Int.intBits
  split
  · lia
  · have := (Nat.log2_lt (n := a.natAbs) (k := 16) (by simp_all)).mpr e
    lia)
theorem foldl_append_eq' {α : Type} (l : List (Array α)) : ∀ acc : Array α, List.foldl (fun x1 x2 => x1 ++ x2) acc l = (acc.toList ++ (l.map (·.toList)).flatten).toArray := by
  induction l with
  | nil => intro acc; simp
  | cons x r ih => intro acc; rw [List.foldl_cons, ih]; simp

theorem txt_mul_list (x : Str) (n : Int) : (Txt.mul x n).cps.toList = (List.replicate n.toNat x.cps.toList).flatten := by
  unfold Txt.mul
  split
  · have : n.toNat = 0 := by lia
    rw [this]; rfl
  · split
    · rename_i h1 h2
      simp only [Bool.or_eq_true, beq_iff_eq] at h2
      rcases h2 with h2 | h2
      · subst h2; simp
      · have : x.cps.toList = [] := by
          have : x.cps.size = 0 := h2
          simpa using this
        rw [this]; simp
    · show (List.foldl (fun x1 x2 => x1 ++ x2) #[] (List.replicate n.toNat x.cps)).toList = _
      rw [foldl_append_eq']; simp
theorem length_flatten_replicate {α : Type} (l : List α) : ∀ n : Nat, (List.replicate n l).flatten.length = n * l.length
  | 0 => by simp
  | n + 1 => by rw [List.replicate_succ, List.flatten_cons, List.length_append, length_flatten_replicate l n, Nat.succ_mul]; lia
theorem push_keep (h : Heap) (x : Obj) : ∀ b o, h.get? b = some o → (h.push x).get? b = some o := fun _ _ e => Heap.get?_push_of_some x e

theorem asc_append {a b : Str} (h : asc a) (g : asc b) : asc (a ++ b) := by
  intro c hc
  rw [Str.cps_append] at hc
  simp at hc
  rcases hc with q | q
  · exact h c (by simpa using q)
  · exact g c (by simpa using q)

theorem vr_listObj {h : Heap} {xs : List PV} {vs : List Value} {a : Addr} {n : Nat} (ha : h.get? a = some (listObj vs n)) (ho : ow a = none) (hs : VRs (Fz ow h) xs vs) (hz : xs.length ≤ sizeLine) : VR (Fz ow h) (.list xs) (.ref a) := by
  unfold VR
  exact ⟨a, vs, n, rfl, ⟨ho, ha⟩, by rw [hs.length]; exact hz, hs⟩

theorem VRs.flat {P : Addr → Obj → Prop} {xs : List PV} {vs : List Value} (h : VRs P xs vs) : ∀ n, VRs P (List.replicate n xs).flatten (List.replicate n vs).flatten
  | 0 => VRs.nil'
  | n + 1 => by
    simp only [List.replicate_succ, List.flatten_cons]
    exact VRs.append h (VRs.flat h n)

theorem binop_ok {op : Operator} {a b : PV} {va vb : Value} {K : PV → Prop} {Q : Value → Shared → Prop} (hK : binop op a b K) (ha : VR (Fz ow s.heap) a va) (hb : VR (Fz ow s.heap) b vb)
    (hf : ∀ x, s.heap.get? x = none → ow x = none) (hQ : OpQ K ow s Q) : wpAny (model prog w) A (binaryOp op va vb) Q E s := by
  have k0 : ∀ b o, s.heap.get? b = some o → s.heap.get? b = some o := fun _ _ e => e
  cases op with
  | Add => cases a with
    | int x =>
      replace hK := onInt_ok hK; obtain ⟨y, rfl, hK⟩ := hK
      unfold VR at ha hb
      obtain ⟨t, rfl⟩ := ha; obtain ⟨u, rfl⟩ := hb
      exact add_int (hQ _ _ s.heap _ hK k0 ⟨_, rfl⟩)
    | str x =>
      replace hK := onStr_ok hK; obtain ⟨y, rfl, hK⟩ := hK
      unfold VR at ha hb
      obtain ⟨t, rfl, la, sa⟩ := ha; obtain ⟨u, rfl, lb, sb⟩ := hb
      refine P.add_str ?_
      have z : (65536 : Nat) ≤ sizeLine := by decide
      split
      · rename_i e
        have : x ++ y = y := by
          have : x = Str.empty := Str.ext' (by simpa [Str.length, Str.empty] using e)
          subst this; exact Str.empty_append y
        rw [this] at hK
        exact hQ _ _ s.heap s.toks hK.2 k0 ⟨_, rfl, lb, sb⟩
      · split
        · rename_i e
          have : x ++ y = x := by
            have : y = Str.empty := Str.ext' (by simpa [Str.length, Str.empty] using e)
            subst this; exact Str.append_empty x
          rw [this] at hK
          exact hQ _ _ s.heap s.toks hK.2 k0 ⟨_, rfl, la, sa⟩
        · have hz : (x ++ y).length ≤ sizeLine := by rw [Str.length_append]; have := hK.1; lia
          exact ⟨hz, hQ _ _ s.heap _ hK.2 k0 ⟨_, rfl, hz, asc_append sa sb⟩⟩
    | list x =>
      replace hK := onLst_ok hK; obtain ⟨y, rfl, hK⟩ := hK
      unfold VR at ha hb
      obtain ⟨a, vs, n, rfl, f1, l1, s1⟩ := ha; obtain ⟨b, us, m, rfl, f2, l2, s2⟩ := hb
      obtain ⟨hz, hK⟩ := hK
      have z : sizeLine = 16777216 := rfl
      have hz' : vs.length + us.length ≤ 65536 := by rw [s1.length, s2.length]; exact hz
      refine concat_meets ⟨_, f1.2, rfl⟩ ⟨_, f2.2, rfl⟩ noFill_list_add seq_list_add PySem.F.slot_list_add PySem.F.entry_list_add (PySem.F.args_list_add_2 _ _) (list_addW a b vs.toArray us.toArray n m none none #[] #[] (by simp; lia)) ⟨f1.2, f2.2, ?_⟩
      have e : vs.toArray ++ us.toArray = (vs ++ us).toArray := by simp
      rw [e]
      refine hQ _ _ _ s.toks hK (push_keep _ _) ?_
      refine vr_listObj (vs := vs ++ us) (n := 0) (Heap.get?_push_size _ rfl) (hf _ (get_none_size _)) ?_ (by simp; lia)
      exact VRs.mono (fun a o x => ⟨x.1, push_keep _ _ _ _ x.2⟩) _ _ (VRs.append s1 s2)
    | _ => exact hK.elim
  | Sub => cases a with
    | int x =>
      replace hK := onInt_ok hK; obtain ⟨y, rfl, hK⟩ := hK
      unfold VR at ha hb
      obtain ⟨t, rfl⟩ := ha; obtain ⟨u, rfl⟩ := hb
      exact sub_int (hQ _ _ s.heap _ hK k0 ⟨_, rfl⟩)
    | bool x =>
      replace hK := onBl_ok hK; obtain ⟨y, rfl, hK⟩ := hK
      unfold VR at ha hb
      subst ha; subst hb
      exact sub_bool (hQ _ _ s.heap _ hK k0 ⟨_, rfl⟩)
    | _ => exact hK.elim
  | Mult => cases a with
    | str x =>
      replace hK := onInt_ok hK; obtain ⟨n, rfl, hK⟩ := hK
      unfold VR at ha hb
      obtain ⟨t, rfl, la, sa⟩ := ha; obtain ⟨u, rfl⟩ := hb
      obtain ⟨h1, h0, h2, hK⟩ := hK
      have z : sizeLine = 16777216 := rfl
      have hb2 : x.length * n.toNat ≤ 16 * 1024 := Nat.mul_le_mul h1 (by lia)
      refine SB.mul ?_ ?_
      · refine ⟨by simp; lia, fun p _ => ?_, fun _ _ => by simp [Builtin.Str.tooLong]; lia⟩
        have : (16 : Int) ≤ (2 ^ 63 - 1) / n := by
          rw [Int.le_ediv_iff_mul_le (by lia)]; lia
        lia
      · intro t' k
        refine hQ _ _ s.heap k hK k0 ⟨_, rfl, ?_, ?_⟩
        · have e : (Txt.mul x n).length = (Txt.mul x n).cps.toList.length := by simp [Str.length]
          rw [e, txt_mul_list, length_flatten_replicate]
          have : x.cps.toList.length = x.length := by simp [Str.length]
          rw [this, Nat.mul_comm]; lia
        · intro c hc
          rw [txt_mul_list] at hc
          obtain ⟨l, hl, hc⟩ := List.mem_flatten.mp hc
          exact sa c ((List.mem_replicate.mp hl).2 ▸ hc)
    | _ => exact hK.elim
  | Mod =>
    replace hK := ints_ok hK; obtain ⟨x, y, rfl, rfl, hK⟩ := hK
    unfold VR at ha hb
    obtain ⟨t, rfl⟩ := ha; obtain ⟨u, rfl⟩ := hb
    refine mod_int (by lia) ?_
    have : x.fmod y = x % y := Int.fmod_eq_emod_of_nonneg x (by lia)
    rw [this]; exact hQ _ _ s.heap _ hK.2 k0 ⟨_, rfl⟩
  | BitAnd =>
    replace hK := ints_ok hK; obtain ⟨x, y, rfl, rfl, hK⟩ := hK
    unfold VR at ha hb
    obtain ⟨t, rfl⟩ := ha; obtain ⟨u, rfl⟩ := hb
    exact and_int (hQ _ _ s.heap _ hK k0 ⟨_, rfl⟩)
  | _ => exact hK.elim
end
end Mine
end
section
namespace Mine

theorem asc_strOk {s : Str} (h : asc s) : PyData.strOk s = true := by
  unfold PyData.strOk
  rw [Array.all_eq_true']
  intro c hc
  have := h c (by simpa using hc)
  simp; lia

mutual
theorem VR.lay {P : Addr → Obj → Prop} : ∀ (x : PV) (v : Value) (d : PyData), VR P x v → dat x = some d → d.canLay0 = true
  | .none, _, d, _, e => by simp only [↓dat_none, ↓dat_bool, ↓dat_int, ↓dat_str, ↓dat_list, ↓dat_tup, ↓dat_rng, ↓dat_raw] at e; cases e; rfl
  | .bool b, _, d, _, e => by simp only [↓dat_none, ↓dat_bool, ↓dat_int, ↓dat_str, ↓dat_list, ↓dat_tup, ↓dat_rng, ↓dat_raw] at e; cases e; rfl
  | .int i, _, d, _, e => by simp only [↓dat_none, ↓dat_bool, ↓dat_int, ↓dat_str, ↓dat_list, ↓dat_tup, ↓dat_rng, ↓dat_raw] at e; cases e; rfl
  | .str x, _, d, r, e => by
    simp only [↓dat_none, ↓dat_bool, ↓dat_int, ↓dat_str, ↓dat_list, ↓dat_tup, ↓dat_rng, ↓dat_raw] at e; cases e
    unfold VR at r
    obtain ⟨_, _, _, ha⟩ := r
    exact asc_strOk ha
  | .list xs, _, d, r, e => by
    simp only [↓dat_none, ↓dat_bool, ↓dat_int, ↓dat_str, ↓dat_list, ↓dat_tup, ↓dat_rng, ↓dat_raw] at e
    unfold VR at r
    obtain ⟨a, vs, n, _, _, _, hs⟩ := r
    cases q : dats xs with
    | none => rw [q] at e; cases e
    | some ds => rw [q] at e; cases e; exact VRs.lay xs vs ds hs q
  | .tup xs, _, d, r, e => by
    simp only [↓dat_none, ↓dat_bool, ↓dat_int, ↓dat_str, ↓dat_list, ↓dat_tup, ↓dat_rng, ↓dat_raw] at e
    unfold VR at r
    obtain ⟨a, vs, n, _, _, _, hs⟩ := r
    cases q : dats xs with
    | none => rw [q] at e; cases e
    | some ds => rw [q] at e; cases e; exact VRs.lay xs vs ds hs q
  | .rng _, _, d, _, e => by simp only [↓dat_none, ↓dat_bool, ↓dat_int, ↓dat_str, ↓dat_list, ↓dat_tup, ↓dat_rng, ↓dat_raw] at e; cases e
  | .raw _, _, d, _, e => by simp only [↓dat_none, ↓dat_bool, ↓dat_int, ↓dat_str, ↓dat_list, ↓dat_tup, ↓dat_rng, ↓dat_raw] at e; cases e
theorem VRs.lay {P : Addr → Obj → Prop} : ∀ (xs : List PV) (vs : List Value) (ds : List PyData), VRs P xs vs → dats xs = some ds → PyData.canLayAll0 ds = true
  | [], _, ds, _, e => by simp only [↓dats_nil, ↓dats_cons] at e; cases e; rfl
  | x :: xs, _, ds, r, e => by
    unfold VRs at r
    obtain ⟨v, vr, rfl, h, hr⟩ := r
    simp only [↓dats_nil, ↓dats_cons] at e
    split at e
    · rename_i d ds' h1 h2
      cases e
      simp [PyData.canLayAll0, VR.lay x v d h h1, VRs.lay xs vr ds' hr h2]
    · cases e
end

mutual
theorem VR.reads {ow : Addr → Option Nat} {h : Heap} : ∀ (x : PV) (v : Value) (d : PyData), VR (Fz ow h) x v → dat x = some d → ∃ as, Reads h v d as
  | .none, _, d, r, e => by simp only [↓dat_none, ↓dat_bool, ↓dat_int, ↓dat_str, ↓dat_list, ↓dat_tup, ↓dat_rng, ↓dat_raw] at e; cases e; unfold VR at r; subst r; exact ⟨_, .none⟩
  | .bool b, _, d, r, e => by simp only [↓dat_none, ↓dat_bool, ↓dat_int, ↓dat_str, ↓dat_list, ↓dat_tup, ↓dat_rng, ↓dat_raw] at e; cases e; unfold VR at r; subst r; exact ⟨_, .bool b⟩
  | .int i, _, d, r, e => by simp only [↓dat_none, ↓dat_bool, ↓dat_int, ↓dat_str, ↓dat_list, ↓dat_tup, ↓dat_rng, ↓dat_raw] at e; cases e; unfold VR at r; obtain ⟨t, rfl⟩ := r; exact ⟨_, .int i t⟩
  | .str x, _, d, r, e => by simp only [↓dat_none, ↓dat_bool, ↓dat_int, ↓dat_str, ↓dat_list, ↓dat_tup, ↓dat_rng, ↓dat_raw] at e; cases e; unfold VR at r; obtain ⟨t, rfl, _⟩ := r; exact ⟨_, .str x t⟩
  | .list xs, _, d, r, e => by
    simp only [↓dat_none, ↓dat_bool, ↓dat_int, ↓dat_str, ↓dat_list, ↓dat_tup, ↓dat_rng, ↓dat_raw] at e
    unfold VR at r
    obtain ⟨a, vs, n, rfl, ho, _, hs⟩ := r
    cases q : dats xs with
    | none => rw [q] at e; cases e
    | some ds =>
      rw [q] at e; cases e
      obtain ⟨as, ra⟩ := VRs.reads xs vs ds hs q
      exact ⟨_, .list ho.2 rfl rfl (by simpa using ra)⟩
  | .tup xs, _, d, r, e => by
    simp only [↓dat_none, ↓dat_bool, ↓dat_int, ↓dat_str, ↓dat_list, ↓dat_tup, ↓dat_rng, ↓dat_raw] at e
    unfold VR at r
    obtain ⟨a, vs, n, rfl, ho, _, hs⟩ := r
    cases q : dats xs with
    | none => rw [q] at e; cases e
    | some ds =>
      rw [q] at e; cases e
      obtain ⟨as, ra⟩ := VRs.reads xs vs ds hs q
      exact ⟨_, .tuple ho.2 rfl rfl (by simpa using ra)⟩
  | .rng _, _, d, _, e => by simp only [↓dat_none, ↓dat_bool, ↓dat_int, ↓dat_str, ↓dat_list, ↓dat_tup, ↓dat_rng, ↓dat_raw] at e; cases e
  | .raw _, _, d, _, e => by simp only [↓dat_none, ↓dat_bool, ↓dat_int, ↓dat_str, ↓dat_list, ↓dat_tup, ↓dat_rng, ↓dat_raw] at e; cases e
theorem VRs.reads {ow : Addr → Option Nat} {h : Heap} : ∀ (xs : List PV) (vs : List Value) (ds : List PyData), VRs (Fz ow h) xs vs → dats xs = some ds → ∃ as, ReadsAll h vs ds as
  | [], _, ds, r, e => by simp only [↓dats_nil, ↓dats_cons] at e; cases e; unfold VRs at r; subst r; exact ⟨_, .nil⟩
  | x :: xs, _, ds, r, e => by
    unfold VRs at r
    obtain ⟨v, vr, rfl, h, hr⟩ := r
    simp only [↓dats_nil, ↓dats_cons] at e
    split at e
    · rename_i d ds' h1 h2
      cases e
      obtain ⟨as, ra⟩ := VR.reads x v d h h1
      obtain ⟨bs, rb⟩ := VRs.reads xs vr ds' hr h2
      exact ⟨_, .cons ra rb⟩
    · cases e
end

section
variable {prog : Program} {w : World} {A : Around} {E : Value → Shared → Prop} {s : Shared} {ow : Addr → Option Nat}

theorem cmpop_ok {op : CmpOp} {a b : PV} {va vb : Value} {K : Bool → Prop} {Q : Value → Shared → Prop} (hK : cmpop op a b K) (ha : VR (Fz ow s.heap) a va) (hb : VR (Fz ow s.heap) b vb)
    (hu : A.units + 16 < cLine) (hQ : ∀ c, K c → Q (.bool c) s) : wpAny (model prog w) A (compareOp op va vb) Q E s := by
  cases op with
  | Lt => cases a with
    | int x =>
      replace hK := onInt_ok hK; obtain ⟨y, rfl, hK⟩ := hK
      unfold VR at ha hb
      obtain ⟨t, rfl⟩ := ha; obtain ⟨u, rfl⟩ := hb
      exact PySem.P.lt_int (hQ _ hK)
    | str x =>
      replace hK := onStr_ok hK; obtain ⟨y, rfl, hK⟩ := hK
      unfold VR at ha hb
      obtain ⟨t, rfl, _⟩ := ha; obtain ⟨u, rfl, _⟩ := hb
      exact lt_str (hQ _ hK)
    | _ => exact hK.elim
  | Gt => cases a with
    | int x =>
      replace hK := onInt_ok hK; obtain ⟨y, rfl, hK⟩ := hK
      unfold VR at ha hb
      obtain ⟨t, rfl⟩ := ha; obtain ⟨u, rfl⟩ := hb
      exact PySem.P.gt_int (hQ _ hK)
    | str x =>
      replace hK := onStr_ok hK; obtain ⟨y, rfl, hK⟩ := hK
      unfold VR at ha hb
      obtain ⟨t, rfl, _⟩ := ha; obtain ⟨u, rfl, _⟩ := hb
      exact PySem.P.gt_str (hQ _ hK)
    | _ => exact hK.elim
  | Eq =>
    obtain ⟨da, db, e1, e2, hd, hK⟩ := hK
    obtain ⟨as, ra⟩ := VR.reads _ _ _ ha e1
    obtain ⟨bs, rb⟩ := VR.reads _ _ _ hb e2
    exact SeqAt.compareEq_reads ra rb (VR.lay _ _ _ ha e1) (VR.lay _ _ _ hb e2) (by lia) (hQ _ hK)
  | NotEq =>
    obtain ⟨da, db, e1, e2, hd, hK⟩ := hK
    obtain ⟨as, ra⟩ := VR.reads _ _ _ ha e1
    obtain ⟨bs, rb⟩ := VR.reads _ _ _ hb e2
    exact SeqAt.compareNe_reads ra rb (VR.lay _ _ _ ha e1) (VR.lay _ _ _ hb e2) (by lia) (hQ _ hK)
  | _ => exact hK.elim
end
end Mine
end
section
namespace Mine

theorem range_pick {α : Type} (l : List α) : ∀ n : Nat, (List.range n).filterMap (fun k => l[k]?) = l.take n
  | 0 => by simp
  | n + 1 => by
    rw [List.range_succ, List.filterMap_append, range_pick l n, List.take_succ]
    cases h : l[n]? <;> simp [h]
theorem sliceRange_one (a b : Nat) : sliceRange (a : Int) (b : Int) 1 = (List.range (b - a)).map fun k => a + k := by
  unfold sliceRange
  have e : (if (1 : Int) > 0 then (if (a : Int) < b then ((b : Int) - a + 1 - 1) / 1 else 0) else (if (a : Int) > b then ((a : Int) - b - 1 - 1) / (-1) else 0)).toNat = b - a := by
    simp only [show (1 : Int) > 0 from by decide, if_true]
    split
    · simp
    · lia
  simp only [e]
  apply List.map_congr_left
  intro k _
  lia
theorem pick_eq {α : Type} (xs : List α) (a b : Nat) : (sliceRange (a : Int) (b : Int) 1).filterMap (fun k => xs[k]?) = (xs.take b).drop a := by
  rw [sliceRange_one, List.filterMap_map]
  have : ((fun k => xs[k]?) ∘ fun k => a + k) = fun k => (xs.drop a)[k]? := by funext k; simp
  rw [this, range_pick, List.drop_take]

theorem clipI (i : Int) (n : Nat) (h : 0 ≤ i) : max 0 (min (if i < 0 then i + (n : Int) else i) (n : Int)) = ((min i.toNat n : Nat) : Int) := by
  obtain ⟨k, rfl⟩ := Int.eq_ofNat_of_zero_le h
  rw [if_neg (Int.not_lt.mpr h), Int.toNat_natCast]
  rcases Nat.le_total k n with q | q
  · rw [Nat.min_eq_left q, Int.min_eq_left (Int.ofNat_le.mpr q), Int.max_eq_right h]
  · rw [Nat.min_eq_right q, Int.min_eq_right (Int.ofNat_le.mpr q), Int.max_eq_right (Int.natCast_nonneg _)]
theorem take_min {α : Type} (xs : List α) (k : Nat) : xs.take (min k xs.length) = xs.take k := by
  rcases Nat.le_total k xs.length with q | q
  · rw [Nat.min_eq_left q]
  · rw [Nat.min_eq_right q, List.take_of_length_le (Nat.le_refl _), List.take_of_length_le q]
theorem drop_min {α : Type} (xs : List α) (k n : Nat) (h : xs.length ≤ n) : xs.drop (min k n) = xs.drop k := by
  rcases Nat.le_total k n with q | q
  · rw [Nat.min_eq_left q]
  · rw [Nat.min_eq_right q, List.drop_of_length_le h, List.drop_of_length_le (Nat.le_trans h q)]
theorem range_cut {α : Type} (xs : List α) (lo hi : Option Int) (h1 : ∀ i ∈ lo.toList, 0 ≤ i) (h2 : ∀ i ∈ hi.toList, 0 ≤ i) (a b : Int)
    (ha : a = match lo with | none => 0 | some i => max 0 (min (if i < 0 then i + (xs.length : Int) else i) (xs.length : Int)))
    (hb : b = match hi with | none => (xs.length : Int) | some i => max 0 (min (if i < 0 then i + (xs.length : Int) else i) (xs.length : Int))) :
    (sliceRange a b 1).filterMap (fun k => xs[k]?) = cut xs lo hi := by
  subst ha hb
  cases lo with
  | none =>
    cases hi with
    | none =>
      have := pick_eq xs 0 xs.length
      simpa [cut] using this
    | some j =>
      have := pick_eq xs 0 (min j.toNat xs.length)
      simp only [clipI j xs.length (h2 j (by simp))]
      rw [take_min] at this
      simpa [cut] using this
  | some i =>
    cases hi with
    | none =>
      have := pick_eq xs (min i.toNat xs.length) xs.length
      simp only [clipI i xs.length (h1 i (by simp))]
      rw [List.take_length, drop_min _ _ _ (Nat.le_refl _)] at this
      simpa [cut] using this
    | some j =>
      have := pick_eq xs (min i.toNat xs.length) (min j.toNat xs.length)
      simp only [clipI i xs.length (h1 i (by simp)), clipI j xs.length (h2 j (by simp))]
      rw [take_min, drop_min _ _ _ (by simp; lia)] at this
      simpa [cut] using this
theorem min_sub (p q n : Nat) (h : q ≤ n) : q - min p n = q - p := by
  rcases Nat.le_total p n with k | k
  · rw [Nat.min_eq_left k]
  · rw [Nat.min_eq_right k, Nat.sub_eq_zero_of_le h, Nat.sub_eq_zero_of_le (Nat.le_trans h k)]
theorem range_cut_len {α : Type} (xs : List α) (lo hi : Option Int) (h1 : ∀ i ∈ lo.toList, 0 ≤ i) (h2 : ∀ i ∈ hi.toList, 0 ≤ i) (a b : Int)
    (ha : a = match lo with | none => 0 | some i => max 0 (min (if i < 0 then i + (xs.length : Int) else i) (xs.length : Int)))
    (hb : b = match hi with | none => (xs.length : Int) | some i => max 0 (min (if i < 0 then i + (xs.length : Int) else i) (xs.length : Int))) :
    (sliceRange a b 1).length = (cut xs lo hi).length := by
  subst ha hb
  cases lo with
  | none =>
    cases hi with
    | none =>
      have := congrArg List.length (sliceRange_one 0 xs.length)
      simpa [cut] using this
    | some j =>
      simp only [clipI j xs.length (h2 j (by simp))]
      have := congrArg List.length (sliceRange_one 0 (min j.toNat xs.length))
      simpa [cut] using this
  | some i =>
    cases hi with
    | none =>
      simp only [clipI i xs.length (h1 i (by simp))]
      have := congrArg List.length (sliceRange_one (min i.toNat xs.length) xs.length)
      rw [this, List.length_map, List.length_range]
      exact (min_sub _ _ _ (Nat.le_refl _)).trans List.length_drop.symm
    | some j =>
      simp only [clipI i xs.length (h1 i (by simp)), clipI j xs.length (h2 j (by simp))]
      have := congrArg List.length (sliceRange_one (min i.toNat xs.length) (min j.toNat xs.length))
      rw [this, List.length_map, List.length_range]
      show _ = ((xs.take _).drop _).length
      rw [List.length_drop, List.length_take]
      exact min_sub _ _ _ (Nat.min_le_right _ _)
theorem strSlice_cut_len (x : Str) (lo hi : Option Int) (h1 : ∀ i ∈ lo.toList, 0 ≤ i) (h2 : ∀ i ∈ hi.toList, 0 ≤ i) : (Builtin.Str.strSliceIndices lo hi 1 x.length).length = (cut x.cps.toList lo hi).length := by
  have e : x.length = x.cps.toList.length := by simp [Str.length]
  rw [← range_cut_len x.cps.toList lo hi h1 h2 _ _ rfl rfl]
  unfold Builtin.Str.strSliceIndices
  rw [e]
  cases lo <;> cases hi <;> simp
theorem cut_sub {α : Type} (xs : List α) (lo hi : Option Int) : (cut xs lo hi).Sublist xs := by
  unfold cut; cases lo <;> cases hi
  · exact List.Sublist.refl _
  · exact List.take_sublist _ _
  · exact List.drop_sublist _ _
  · exact (List.drop_sublist _ _).trans (List.take_sublist _ _)
theorem slicePick_cut (items : Array Value) (lo hi : Option Int) (h1 : ∀ i ∈ lo.toList, 0 ≤ i) (h2 : ∀ i ∈ hi.toList, 0 ≤ i) : slicePick items lo hi none = (cut items.toList lo hi).toArray := by
  have := range_cut items.toList lo hi h1 h2 (sliceBounds lo hi none items.size).1 (sliceBounds lo hi none items.size).2.1 (by cases lo <;> rfl) (by cases hi <;> rfl)
  rw [← this]
  unfold slicePick
  simp [sliceBounds]
theorem strSlice_cut (x : Str) (lo hi : Option Int) (h1 : ∀ i ∈ lo.toList, 0 ≤ i) (h2 : ∀ i ∈ hi.toList, 0 ≤ i) : (Builtin.Str.strSliceIndices lo hi 1 x.length).filterMap (fun k => x.cps[k]?) = cut x.cps.toList lo hi := by
  have e : x.length = x.cps.toList.length := by simp [Str.length]
  rw [← range_cut x.cps.toList lo hi h1 h2 _ _ rfl rfl]
  unfold Builtin.Str.strSliceIndices
  rw [e]
  cases lo <;> cases hi <;> simp
theorem cut_len {α : Type} (xs : List α) (lo hi : Option Int) : (cut xs lo hi).length ≤ xs.length := by
  unfold cut; cases lo <;> cases hi <;> simp <;> omega
theorem cut_mem {α : Type} (xs : List α) (lo hi : Option Int) {x : α} (h : x ∈ cut xs lo hi) : x ∈ xs := by
  unfold cut at h
  cases lo <;> cases hi
  · exact h
  · exact List.mem_of_mem_take h
  · exact List.mem_of_mem_drop h
  · exact List.mem_of_mem_take (List.mem_of_mem_drop h)
theorem VRs.cut {P : Addr → Obj → Prop} {xs : List PV} {vs : List Value} (h : VRs P xs vs) (lo hi : Option Int) : VRs P (cut xs lo hi) (cut vs lo hi) := by
  unfold Mine.cut
  cases hi <;> cases lo
  · exact h
  · exact h.drop _
  · exact h.take _
  · exact (h.take _).drop _

theorem seqIndex_nat {k : Int} {n : Nat} (h0 : 0 ≤ k) (h : k.toNat < n) : seqIndex? k n = some k.toNat := by
  unfold seqIndex?
  have e : (if k < 0 then k + (n : Int) else k) = k := if_neg (by lia)
  simp only [e]
  rw [if_pos (by simp; lia)]
section
variable {prog : Program} {w : World} {A : Around} {E : Value → Shared → Prop} {s : Shared} {ow : Addr → Option Nat}

theorem tail_ok {value slice : Expr} {o i : Value} {T id : String} {Q : Value → Shared → Prop} (hT : s.TypeIs o T) (hl : typeLookup (.type T) "__getitem__" = pure (some (.builtin id)))
    (hg : wpAny (model prog w) A (getItem o i) Q E s) : wpAny (model prog w) A (subscriptTail value slice o i) Q E s := by
  by_cases h : ∃ l u p, slice = .Slice l u none p
  · obtain ⟨l, u, p, rfl⟩ := h
    exact tail_any hT hl hg (ops := [i, o]) rfl
  · refine tail_any hT hl hg (ops := [o, i]) ?_
    unfold subscripted
    split
    · rename_i q; exact absurd ⟨_, _, _, rfl⟩ h
    · rename_i q; cases q
    · rfl

theorem getItem_ok {o i : PV} {vo vi : Value} {value slice : Expr} {K : PV → Prop} {Q : Value → Shared → Prop} (hK : itemAt o i K) (ho : VR (Fz ow s.heap) o vo) (hi : VR (Fz ow s.heap) i vi) (hQ : OpQ K ow s Q) :
    wpAny (model prog w) A (subscriptTail value slice vo vi) Q E s := by
  have k0 : ∀ b o, s.heap.get? b = some o → s.heap.get? b = some o := fun _ _ e => e
  have z : sizeLine = 16777216 := rfl
  unfold itemAt at hK
  split at hK
  · unfold VR at ho hi
    obtain ⟨a, vs, n, rfl, f, l, hs⟩ := ho; obtain ⟨t, rfl⟩ := hi
    obtain ⟨h0, x, hx, hK⟩ := hK
    obtain ⟨v, hv, vr⟩ := hs.get hx
    rename_i k
    have hlt : k.toNat < vs.length := by
      rcases Nat.lt_or_ge k.toNat vs.length with q | q
      · exact q
      · rw [List.getElem?_eq_none q] at hv; cases hv
    refine tail_ok ⟨_, f.2, rfl⟩ slot_list_getitem.lookup (wpAny_getItem_list (items := vs.toArray) ⟨_, f.2, rfl, n, rfl⟩ h0 (by lia) (by simpa using hv) (hQ v x s.heap s.toks hK k0 vr))
  · unfold VR at ho hi
    obtain ⟨a, vs, n, rfl, f, l, hs⟩ := ho; obtain ⟨t, rfl⟩ := hi
    obtain ⟨h0, x, hx, hK⟩ := hK
    obtain ⟨v, hv, vr⟩ := hs.get hx
    rename_i k
    have hlt : k.toNat < vs.length := by
      rcases Nat.lt_or_ge k.toNat vs.length with q | q
      · exact q
      · rw [List.getElem?_eq_none q] at hv; cases hv
    have hT : s.TypeIs (.ref a) "tuple" := ⟨_, f.2, rfl⟩
    refine tail_ok hT PySem.F.slot_tuple_getitem.lookup (getItem_tuple (items := vs.toArray) (j := k.toNat) ⟨_, f.2, rfl, n, rfl⟩ (by lia) (by lia) (by rw [List.size_toArray]; exact seqIndex_nat h0 hlt) (by simpa using hv) (hQ v x s.heap s.toks hK k0 vr))
  · unfold VR at ho hi
    obtain ⟨t, rfl, l, hs⟩ := ho; obtain ⟨u, rfl⟩ := hi
    obtain ⟨h0, c, hc, hK⟩ := hK
    rename_i x k
    have hlt : k.toNat < x.length := by
      rcases Nat.lt_or_ge k.toNat x.length with q | q
      · exact q
      · rw [List.getElem?_eq_none (by simpa [Str.length] using q)] at hc; cases hc
    have hc' : Txt.charAt x k = some c := by
      unfold Txt.charAt
      rw [seqIndex_nat h0 hlt]
      simpa using hc
    refine tail_ok (typeIs_str s x t) PySem.F.slot_str_getitem.lookup (SB.getItem (by unfold fitsSsize; simp; lia) (by rw [hc']; rfl) ?_)
    have e : Txt.item x k = ⟨#[c]⟩ := by unfold Txt.item; rw [hc']; rfl
    rw [e]
    refine hQ _ _ s.heap _ hK k0 ⟨_, rfl, by simp [Str.length]; lia, fun d hd => ?_⟩
    have : d = c := by simpa using hd
    rw [this]
    exact hs c (List.mem_of_getElem? hc)
  · exact hK.elim
end
end Mine
end
section
namespace Mine
section
variable {prog : Program} {w : World} {A : Around} {E : Value → Shared → Prop} {s : Shared} {ow : Addr → Option Nat}

noncomputable def PartR (l : Option Int) (v : Value) : Prop := match l with | none => v = .none | some i => ∃ t, v = .int i t
theorem PartR.isPart {l : Option Int} {v : Value} (h : PartR l v) : IsPart v l := by
  cases l with
  | none => unfold PartR at h; subst h; exact .none
  | some i => obtain ⟨t, rfl⟩ := h; exact .int i t
theorem PartR.part {l : Option Int} {v : Value} (h : PartR l v) : ∃ p : Option (Int × Tok), v = partValue p ∧ p.map (·.1) = l := by
  cases l with
  | none => unfold PartR at h; subst h; exact ⟨none, rfl, rfl⟩
  | some i => obtain ⟨t, rfl⟩ := h; exact ⟨some (i, t), rfl, rfl⟩

theorem slice_ok {o : PV} {lo hi : Option Int} {vo vl vu : Value} {value slice : Expr} {a : Addr} {K : PV → Prop} {Q : Value → Shared → Prop} (hK : sliceOf o lo hi K) (ho : VR (Fz ow s.heap) o vo)
    (pl : PartR lo vl) (pu : PartR hi vu) (ha : s.heap.get? a = some { cls := .type "slice", data := .fields #[vl, vu, .none] }) (hf : ∀ x, s.heap.get? x = none → ow x = none) (hQ : OpQ K ow s Q) :
    wpAny (model prog w) A (subscriptTail value slice vo (.ref a)) Q E s := by
  have k0 : ∀ b o, s.heap.get? b = some o → s.heap.get? b = some o := fun _ _ e => e
  have z : sizeLine = 16777216 := rfl
  unfold sliceOf at hK
  split at hK
  · unfold VR at ho
    obtain ⟨l, vs, n, rfl, f, lz, hs⟩ := ho
    obtain ⟨hb, hK⟩ := hK
    have h1 : ∀ i ∈ lo.toList, 0 ≤ i := fun i q => (hb i (List.mem_append_left _ q)).1
    have h2 : ∀ i ∈ hi.toList, 0 ≤ i := fun i q => (hb i (List.mem_append_right _ q)).1
    refine tail_ok ⟨_, f.2, rfl⟩ slot_list_getitem.lookup (wpAny_getItem_list_slice (items := vs.toArray) (st := none) ⟨_, f.2, rfl, n, rfl⟩ ⟨_, ha, rfl, rfl⟩ pl.isPart pu.isPart .none (by simp) ?_ (by simpa using lz))
    rw [slicePick_cut _ _ _ h1 h2]
    refine hQ _ _ _ s.toks hK (push_keep _ _) ?_
    have hc := VRs.cut hs lo hi
    refine vr_listObj (vs := cut vs lo hi) (n := 0) (Heap.get?_push_size _ rfl) (hf _ (get_none_size _)) ?_ ?_
    · exact VRs.mono (fun a o x => ⟨x.1, push_keep _ _ _ _ x.2⟩) _ _ hc
    · rw [← hc.length]; exact Nat.le_trans (cut_len vs lo hi) lz
  · unfold VR at ho
    obtain ⟨t, rfl, lz, hs⟩ := ho
    obtain ⟨hb, hK⟩ := hK
    rename_i x
    have h1 : ∀ i ∈ lo.toList, 0 ≤ i := fun i q => (hb i (List.mem_append_left _ q)).1
    have h2 : ∀ i ∈ hi.toList, 0 ≤ i := fun i q => (hb i (List.mem_append_right _ q)).1
    obtain ⟨p, rfl, e1⟩ := pl.part
    obtain ⟨q, rfl, e2⟩ := pu.part
    refine tail_ok (typeIs_str s x t) PySem.F.slot_str_getitem.lookup (wpAny_getItem_str_slice (l := p) (u := q) (st := none) ⟨_, ha, rfl, rfl⟩ rfl ?_)
    have hcut := strSlice_cut x lo hi h1 h2
    have hlen : (cut x.cps.toList lo hi).length ≤ x.length := by
      have := cut_len x.cps.toList lo hi
      simpa [Str.length] using this
    have hasc : asc ⟨(cut x.cps.toList lo hi).toArray⟩ := fun c hc => hs c (cut_mem _ lo hi (by simpa using hc))
    unfold sliceMade slicePicked
    rw [e1, e2]
    simp only [Option.map_none, Option.getD_none]
    split
    · rename_i e
      have hx : (cut x.cps.toList lo hi) = x.cps.toList := by
        have hl : (Builtin.Str.strSliceIndices lo hi 1 x.length).length = x.length := by simpa using e
        rw [strSlice_cut_len x lo hi h1 h2] at hl
        exact (cut_sub x.cps.toList lo hi).eq_of_length (by rw [hl]; simp [Str.length])
      rw [hx] at hK
      exact hQ _ _ s.heap s.toks hK k0 ⟨_, rfl, lz, hs⟩
    · rw [hcut]
      refine ⟨by simp [Str.length]; simp [Str.length] at hlen lz; lia, hQ _ _ s.heap _ hK k0 ⟨_, rfl, by simp [Str.length]; simp [Str.length] at hlen lz; lia, hasc⟩⟩
  · exact hK.elim

theorem newList_ok {xs : List PV} {vs : List Value} {Q : Value → Shared → Prop} (hs : VRs (Fz ow s.heap) xs vs) (hz : xs.length ≤ 65536)
    (hQ : Q (.ref s.heap.objs.size) { s with heap := s.heap.push (listObj vs 0) }) : wpAny (model prog w) A (newList vs) Q E s :=
  wpAny_newObj_type hQ (by have z : sizeLine = 16777216 := rfl; have := hs.length; show vs.toArray.size ≤ sizeLine; simp; lia)
theorem newTuple_ok {xs : List PV} {vs : List Value} {Q : Value → Shared → Prop} (hs : VRs (Fz ow s.heap) xs vs) (hz : xs.length ≤ 65536)
    (hQ : Q (.ref s.heap.objs.size) { s with heap := s.heap.push (tupObj vs 0) }) : wpAny (model prog w) A (newTuple vs) Q E s :=
  wpAny_newObj_type hQ (by have z : sizeLine = 16777216 := rfl; have := hs.length; show vs.toArray.size ≤ sizeLine; simp; lia)

noncomputable def pairIters : List String := ["enumerate", "zip", "dict_itemiterator", "dict_reverseitemiterator", "odict_iterator", "itertools.zip_longest", "itertools.pairwise"]
structure ItAt (prog : Program) (w : World) (A : Around) (I : Addr) (ow : Addr → Option Nat) (h : Heap) (items : List PV) (St : Nat → Heap → Prop) (P : Nat → Value → Prop) (fp : List Addr) : Prop where
  walk : Walks prog w A I fp [I] items.length P St
  foot : ∀ b ∈ fp, b = I ∨ ∃ o, Fz ow h b o
  item : ∀ i v, P i v → ∃ x, items[i]? = some x ∧ VR (Fz ow h) x v
  cls : ∀ i h', St i h' → ∃ o T, h'.get? I = some o ∧ o.cls = .type T ∧ pairIters.contains T = false

theorem walks_lt {I : Addr} {fp wr : List Addr} {n : Nat} {P : Nat → Value → Prop} {St : Nat → Heap → Prop} (W : Walks prog w A I fp wr n P St) : Walks prog w A I fp wr n (fun i v => i < n ∧ P i v) St :=
  { W with item := fun i s Q E hi st hQ => W.item i s Q E hi st fun v h' tk hP => hQ v h' tk ⟨hi, hP⟩ }
theorem fz_ne {h : Heap} {a b : Addr} {o : Obj} (e : Fz ow h a o) (hb : h.get? b = none) : a ≠ b := fun q => by subst q; rw [e.2] at hb; cases hb

theorem pyIter_ok {x : PV} {v : Value} {items : List PV} {Q : Value → Shared → Prop} (hx : VR (Fz ow s.heap) x v) (hi : itemsOf x = some items) (hh : A.handled = none)
    (hQ : ∀ I h' tk St P fp, s.heap.get? I = none → (∀ b o, s.heap.get? b = some o → h'.get? b = some o) → (h'.get? I).isSome = true → ItAt prog w A I ow s.heap items St P fp → St 0 h' → Q (.ref I) { s with heap := h', toks := tk }) :
    wpAny (model prog w) A (pyIter v) Q E s := by
  have hn := get_none_size s.heap
  unfold itemsOf at hi
  split at hi
  · cases hi
    unfold VR at hx
    obtain ⟨a, vs, n, rfl, f, lz, hs⟩ := hx
    refine wpAny_pyIter_list (items := vs.toArray) ⟨_, f.2, rfl, n, rfl⟩ (hQ _ _ s.toks (fun i h => h.IsListIter s.heap.objs.size a i ∧ h.IsList a vs.toArray) (fun i v => vs.toArray[i]? = some v) [s.heap.objs.size, a] hn (push_keep _ _) (by rw [Heap.get?_push_size _ rfl]; rfl) ⟨?_, ?_, ?_, fun i h' st => let ⟨o, ho, hc, _⟩ := st.1; ⟨o, _, ho, hc, by decide⟩⟩ ⟨⟨_, Heap.get?_push_size _ rfl, rfl, rfl⟩, ⟨_, push_keep _ _ _ _ f.2, rfl, n, rfl⟩⟩)
    · have := Walks.list (prog := prog) (w := w) (A := A) hh s.heap.objs.size a (fz_ne f hn) vs.toArray
      simpa [hs.length] using this
    · intro b hb
      simp at hb
      rcases hb with rfl | rfl
      · exact .inl rfl
      · exact .inr ⟨_, f⟩
    · intro i v hv
      have hv : vs[i]? = some v := by simpa using hv
      have hlt : i < items.length := by
        rw [← hs.length]
        rcases Nat.lt_or_ge i vs.length with q | q
        · exact q
        · rw [List.getElem?_eq_none q] at hv; cases hv
      obtain ⟨u, e1, e2⟩ := hs.get (List.getElem?_eq_getElem hlt)
      rw [hv] at e1; cases e1
      exact ⟨_, List.getElem?_eq_getElem hlt, e2⟩
  · cases hi
    unfold VR at hx
    obtain ⟨a, vs, n, rfl, f, lz, hs⟩ := hx
    refine wpAny_pyIter_tuple (items := vs.toArray) ⟨_, f.2, rfl, n, rfl⟩ (hQ _ _ s.toks (fun i h => h.IsTupleIter s.heap.objs.size a i ∧ h.IsTuple a vs.toArray) (fun i v => vs.toArray[i]? = some v) [s.heap.objs.size, a] hn (push_keep _ _) (by rw [Heap.get?_push_size _ rfl]; rfl) ⟨?_, ?_, ?_, fun i h' st => let ⟨o, ho, hc, _⟩ := st.1; ⟨o, _, ho, hc, by decide⟩⟩ ⟨⟨_, Heap.get?_push_size _ rfl, rfl, rfl⟩, ⟨_, push_keep _ _ _ _ f.2, rfl, n, rfl⟩⟩)
    · have := Walks.tuple (prog := prog) (w := w) (A := A) hh s.heap.objs.size a (fz_ne f hn) vs.toArray
      simpa [hs.length] using this
    · intro b hb
      simp at hb
      rcases hb with rfl | rfl
      · exact .inl rfl
      · exact .inr ⟨_, f⟩
    · intro i v hv
      have hv : vs[i]? = some v := by simpa using hv
      have hlt : i < items.length := by
        rw [← hs.length]
        rcases Nat.lt_or_ge i vs.length with q | q
        · exact q
        · rw [List.getElem?_eq_none q] at hv; cases hv
      obtain ⟨u, e1, e2⟩ := hs.get (List.getElem?_eq_getElem hlt)
      rw [hv] at e1; cases e1
      exact ⟨_, List.getElem?_eq_getElem hlt, e2⟩
  · cases hi
    unfold VR at hx
    obtain ⟨a, t, u, w', rfl, f, h0, hz⟩ := hx
    rename_i n
    refine wpAny_pyIter_range (r := a) (a := 0) (b := n) (c := 1) (t := t) (u := u) (v := w') f.2 ?_ ?_
    · have hr : Builtin.Range.rangeSize 0 n 1 = n := by
        unfold Builtin.Range.rangeSize
        simp only [show (1 : Int) > 0 from by decide, if_true]
        split
        · simp
        · lia
      unfold Builtin.Range.small
      rw [hr]
      simp [Builtin.Range.rangeFitsLong]
      lia
    · have hr : Builtin.Range.rangeSize 0 n 1 = ((n.toNat : Nat) : Int) := by
        unfold Builtin.Range.rangeSize
        simp only [show (1 : Int) > 0 from by decide, if_true]
        split
        · simp; lia
        · lia
      refine hQ _ _ s.toks (fun i h => IsRangeIter h s.heap.objs.size (0 + (i : Nat) * 1) ((n.toNat : Int) - (i : Nat)) 1) (fun i v => i < n.toNat ∧ ∃ t, v = .int (0 + i * 1) t) [s.heap.objs.size] hn (push_keep _ _) (by rw [Heap.get?_push_size _ rfl]; rfl) ⟨?_, ?_, ?_, fun i h' st => ⟨_, _, st, rfl, by decide⟩⟩ ?_
      · have := walks_lt (Walks.range (prog := prog) (w := w) (A := A) hh s.heap.objs.size 0 1 n.toNat)
        rw [List.length_map, List.length_range]
        exact this
      · intro b hb; simp at hb; exact .inl hb
      · intro i v hv
        obtain ⟨hlt, t', rfl⟩ := hv
        refine ⟨.int i, by simp [hlt], ?_⟩
        unfold VR
        exact ⟨t', by simp⟩
      · show IsRangeIter _ _ _ _ _
        unfold IsRangeIter
        rw [Heap.get?_push_size _ rfl, hr]
        simp
  · cases hi
    unfold VR at hx
    obtain ⟨t, rfl, lz, hs⟩ := hx
    rename_i y
    refine wpAny_pyIter_strU ?_
    have ty : strIterType y = "str_ascii_iterator" := by
      unfold strIterType
      rw [if_pos]
      rw [Array.all_eq_true']
      intro c hc
      simpa using hs c (by simpa using hc)
    rw [ty]
    refine hQ _ _ s.toks (fun i h => h.IsStrIter s.heap.objs.size "str_ascii_iterator" y t i) (SignAt y) [s.heap.objs.size] hn (push_keep _ _) (by rw [Heap.get?_push_size _ rfl]; rfl) ⟨?_, ?_, ?_, fun i h' st => let ⟨o, ho, hc, _⟩ := st; ⟨o, _, ho, hc, by decide⟩⟩ ?_
    · have := Walks.strAscii (prog := prog) (w := w) (A := A) hh s.heap.objs.size y t
      simpa using this
    · intro b hb; simp at hb; exact .inl hb
    · intro i v hv
      obtain ⟨c, u, hc, rfl⟩ := hv
      refine ⟨.str ⟨#[c]⟩, by simp [hc], ?_⟩
      unfold VR
      refine ⟨u, rfl, by simp [Str.length, sizeLine], fun d hd => ?_⟩
      have : d = c := by simpa using hd
      rw [this]
      exact hs c (by
        have := Array.mem_of_getElem? hc
        simpa using this)
    · exact ⟨_, Heap.get?_push_size _ rfl, rfl, rfl⟩
  · cases hi
end
end Mine
end
section
namespace Mine

structure AOk (n : Nat) (A : Around) : Prop where
  hh : A.handled = none
  dep : A.depth + n < recursionLimit
  un : A.units + 64 * (n + 1) < cLine
theorem AOk.mono {n m : Nat} {A : Around} (h : AOk n A) (hm : m ≤ n) : AOk m A := ⟨h.hh, by have := h.dep; lia, by have := h.un; lia⟩

structure Now (H : Heap) (ow : Addr → Option Nat) (h : Heap) : Prop where
  top : ∀ b o, H.get? b = some o → h.get? b = some o
  own : ∀ a, ow a ≠ none → H.get? a = none ∧ (h.get? a).isSome = true
  ns : ∃ L m, h.Ns L m
theorem Now.fresh {H : Heap} {ow : Addr → Option Nat} {h : Heap} (N : Now H ow h) : ∀ x, h.get? x = none → ow x = none := fun x e => by
  cases q : ow x with
  | none => rfl
  | some t =>
    have := (N.own x (by rw [q]; simp)).2
    rw [e] at this; cases this
theorem Now.keeps {H : Heap} {ow : Addr → Option Nat} {h h' : Heap} (N : Now H ow h) (k : ∀ b o, h.get? b = some o → h'.get? b = some o) : Now H ow h' :=
  ⟨fun b o e => k b o (N.top b o e), fun a e => ⟨(N.own a e).1, by
    obtain ⟨o, ho⟩ := Option.isSome_iff_exists.mp (N.own a e).2
    rw [k a o ho]; rfl⟩, let ⟨L, m, x⟩ := N.ns; ⟨L, m, x.keeps k⟩⟩

noncomputable def SpecOk (H : Heap) (f : Value) (args : List PV) : Prop := match f, args with
  | .ref a, _ => ∃ o fd, H.get? a = some o ∧ o.data = .func fd
  | .builtin id, .raw p :: _ => id = "re.Pattern.sub" → ∃ a o, p = .ref a ∧ H.get? a = some o ∧ o.cls = .type "re.Pattern" ∧ o.dict = none
  | _, _ => True
noncomputable def Spec (prog : Program) (w : World) (H : Heap) (n : Nat) (f : Value) (args : List PV) (res : PV) : Prop :=
  SpecOk H f args ∧ ∀ (A : Around) (s : Shared) (ow : Addr → Option Nat) (vs : List Value) (Q E : Value → Shared → Prop), AOk n A → Now H ow s.heap → VRs (Fz ow s.heap) args vs →
    OpQ (fun r => r = res) ow s Q → wpAny (model prog w) A (call f vs) Q E s
theorem Spec.mono {prog : Program} {w : World} {H : Heap} {n m : Nat} {f : Value} {args : List PV} {res : PV} (h : Spec prog w H n f args res) (hm : n ≤ m) : Spec prog w H m f args res :=
  ⟨h.1, fun A s ow vs Q E hA hN hv hQ => h.2 A s ow vs Q E (hA.mono hm) hN hv hQ⟩

theorem ints_of {P : Addr → Obj → Prop} : ∀ {xs : List PV} {ns : List Int} {vs : List Value}, isInts xs = some ns → VRs P xs vs → ∃ ps : Array (Int × Tok), vs.toArray = intItems ps ∧ ps.toList.map (·.1) = ns
  | [], ns, vs, e, h => by
    simp only [↓isInts_nil, ↓isInts_int, ↓isInts_none, ↓isInts_bool, ↓isInts_str, ↓isInts_list, ↓isInts_tup, ↓isInts_rng, ↓isInts_raw] at e; cases e
    unfold VRs at h; subst h
    exact ⟨#[], by simp [intItems], rfl⟩
  | x :: xs, ns, vs, e, h => by
    unfold VRs at h
    obtain ⟨v, r, rfl, hv, hr⟩ := h
    cases x with
    | int i =>
      simp only [↓isInts_nil, ↓isInts_int, ↓isInts_none, ↓isInts_bool, ↓isInts_str, ↓isInts_list, ↓isInts_tup, ↓isInts_rng, ↓isInts_raw] at e
      cases q : isInts xs with
      | none => rw [q] at e; cases e
      | some ms =>
        rw [q] at e; cases e
        obtain ⟨ps, e1, e2⟩ := ints_of q hr
        unfold VR at hv
        obtain ⟨t, rfl⟩ := hv
        refine ⟨((i, t) :: ps.toList).toArray, ?_, by simp [e2]⟩
        have : r = ps.toList.map fun p => Value.int p.1 p.2 := by
          have := congrArg Array.toList e1
          simpa [intItems] using this
        rw [this]; simp [intItems]
    | _ => simp only [↓isInts_nil, ↓isInts_int, ↓isInts_none, ↓isInts_bool, ↓isInts_str, ↓isInts_list, ↓isInts_tup, ↓isInts_rng, ↓isInts_raw] at e; cases e

theorem foldl_max_ge (l : List Int) : ∀ a : Int, a ≤ l.foldl max a ∧ (∀ x ∈ l, x ≤ l.foldl max a) ∧ (l.foldl max a = a ∨ l.foldl max a ∈ l) := by
  induction l with
  | nil => intro a; simp
  | cons x r ih =>
    intro a
    rw [List.foldl_cons]
    obtain ⟨h1, h2, h3⟩ := ih (max a x)
    refine ⟨by lia, fun y hy => ?_, ?_⟩
    · rcases List.mem_cons.mp hy with rfl | hy
      · lia
      · exact h2 y hy
    · rcases h3 with h3 | h3
      · rcases Int.le_total a x with q | q
        · right; rw [h3, Int.max_eq_right q]; exact List.mem_cons_self
        · left; rw [h3, Int.max_eq_left q]
      · right; exact List.mem_cons_of_mem _ h3
theorem maxOf_spec {l : List Int} (h : l ≠ []) : maxOf l ∈ l ∧ ∀ x ∈ l, x ≤ maxOf l := by
  cases l with
  | nil => exact absurd rfl h
  | cons x r =>
    obtain ⟨h1, h2, h3⟩ := foldl_max_ge r x
    show r.foldl max x ∈ x :: r ∧ _
    refine ⟨?_, fun y hy => ?_⟩
    · rcases h3 with h3 | h3
      · rw [h3]; exact List.mem_cons_self
      · exact List.mem_cons_of_mem _ h3
    · rcases List.mem_cons.mp hy with rfl | hy
      · exact h1
      · exact h2 y hy
theorem maxOf_eq {l : List Int} {m : Int} (h : m ∈ l) (hm : ∀ x ∈ l, x ≤ m) : maxOf l = m := by
  obtain ⟨h1, h2⟩ := maxOf_spec (l := l) (fun q => by subst q; cases h)
  have := hm _ h1
  have := h2 _ h
  lia
theorem list_int_range {P : Addr → Obj → Prop} : ∀ {ks : List Int} {vs : List Value}, CarriedAll vs (ks.map PyData.int) → VRs P (ks.map PV.int) vs
  | [], vs, h => by cases h; exact VRs.nil'
  | k :: ks, vs, h => by
    cases h with
    | cons h1 h2 =>
      refine VRs.cons' ?_ (list_int_range h2)
      cases h1
      unfold VR; exact ⟨_, rfl⟩

section
variable {prog : Program} {w : World} {A : Around} {E : Value → Shared → Prop} {s : Shared} {ow : Addr → Option Nat} {H : Heap} {n : Nat}

theorem app_ok {f : Value} {xs : List PV} {vs : List Value} {K : PV → Prop} {Q : Value → Shared → Prop} (hK : app (Spec prog w H n) (.raw f) xs K) (hA : AOk n A) (hN : Now H ow s.heap) (hv : VRs (Fz ow s.heap) xs vs)
    (hQ : OpQ K ow s Q) : wpAny (model prog w) A (call f vs) Q E s := by
  have k0 : ∀ b o, s.heap.get? b = some o → s.heap.get? b = some o := fun _ _ e => e
  have z : sizeLine = 16777216 := rfl
  have one : ∀ {x : PV} {us : List Value}, VRs (Fz ow s.heap) [x] us → ∃ v, us = [v] ∧ VR (Fz ow s.heap) x v := fun h => by
    unfold VRs at h
    obtain ⟨v, r, rfl, h1, h2⟩ := h
    unfold VRs at h2; subst h2
    exact ⟨v, rfl, h1⟩
  obtain ⟨L, m, hns⟩ := hN.ns
  have Fm : Fr {} L s.heap m := ⟨hns, fun b o e => by simp [Heap.get?] at e, by simp⟩
  cases f with
  | ref a =>
    obtain ⟨r, hS, hK⟩ := hK
    exact hS.2 A s ow vs Q E hA hN hv fun v pv h' tk e k vr => hQ v pv h' tk (e ▸ hK) k vr
  | builtin b =>
    dsimp only [↓app_ref, ↓app_builtin, ↓app_type] at hK
    split at hK
    · rename_i e; subst e
      replace hK := arg1_ok hK; obtain ⟨x, rfl, hK⟩ := hK
      cases x with
      | list xs =>
        obtain ⟨v, rfl, h1⟩ := one hv
        unfold VR at h1
        obtain ⟨a, us, k, rfl, fz, lz, hs⟩ := h1
        have := hs.length
        refine Calls.call_len_list (items := us.toArray) ⟨_, fz.2, rfl, k, rfl⟩ (by simp; lia) ?_
        refine hQ _ _ s.heap _ hK k0 ?_
        unfold VR
        exact ⟨_, by simp [this]; rfl⟩
      | str xs =>
        obtain ⟨v, rfl, h1⟩ := one hv
        unfold VR at h1
        obtain ⟨t, rfl, lz, hs⟩ := h1
        refine len_str (by lia) ?_
        refine hQ _ _ s.heap _ hK k0 ?_
        unfold VR
        exact ⟨_, rfl⟩
      | _ => exact hK.elim
    · split at hK
      · rename_i e; subst e
        exact hK.elim
      · split at hK
        · rename_i e; subst e
          cases xs with
          | nil => exact hK.elim
          | cons x r => cases r with
            | nil =>
              replace hK := onLst_ok hK; obtain ⟨xs, rfl, hK⟩ := hK
              obtain ⟨v, rfl, h1⟩ := one hv
              obtain ⟨ns, hi, hne, hK⟩ := hK
              unfold VR at h1
              obtain ⟨a, us, k, rfl, fz, lz, hs⟩ := h1
              obtain ⟨ps, e1, e2⟩ := ints_of hi hs
              have hl : s.heap.IsList a (intItems ps) := ⟨_, fz.2, rfl, k, by rw [← e1]⟩
              have hsz : ps.size = ns.length := by rw [← e2]; simp
              have hpos : 0 < ps.size := by
                rw [hsz]
                cases ns with
                | nil => exact absurd rfl hne
                | cons _ _ => simp
              refine max_intList hA.hh hl hpos fun v h' tk hv hk => ?_
              obtain ⟨t', rfl⟩ := intItems_at hv
              have hb := argBest_gt (numAt ps) (ps.size - 1)
              generalize hj : argBest (fun i j => decide (numAt ps i > numAt ps j)) (ps.size - 1) = j at hb hv
              have hat : ∀ i, i < ps.size → ∃ h : i < ns.length, numAt ps i = ns[i] := fun i hi' => by
                refine ⟨by lia, ?_⟩
                simp only [numAt, ← e2]
                simp [hi']
              refine hQ _ _ h' tk hK hk ?_
              unfold VR
              refine ⟨t', ?_⟩
              congr 1
              obtain ⟨hjl, ej⟩ := hat j (by lia)
              symm
              refine maxOf_eq ?_ ?_
              · rw [ej]; exact List.getElem_mem _
              · intro x hx
                obtain ⟨i, hi', rfl⟩ := List.mem_iff_getElem.mp hx
                obtain ⟨_, ei⟩ := hat i (by lia)
                rw [← ei]
                exact hb.2 i (by lia)
            | cons y r => cases r with
              | nil =>
                exact hK.elim
              | cons _ _ => exact hK.elim
        · split at hK
          · rename_i e; subst e
            obtain ⟨r, hS, hK⟩ := hK
            exact hS.2 A s ow vs Q E hA hN hv fun v pv h' tk e k vr => hQ v pv h' tk (e ▸ hK) k vr
          · exact hK.elim
  | type t =>
    dsimp only [↓app_ref, ↓app_builtin, ↓app_type] at hK
    split at hK
    · rename_i e; subst e
      replace hK := arg1_ok hK; obtain ⟨x, rfl, hK⟩ := hK
      cases x with
      | list xs =>
        obtain ⟨v, rfl, h1⟩ := one hv
        unfold VR at h1
        obtain ⟨a, us, k, rfl, fz, lz, hs⟩ := h1
        refine PySem.call_list_seq (items := us.toArray) (n := k) a (.inl rfl) fz.2 rfl rfl (fun h' c' hk hD => ?_) (by simpa using lz)
        refine hQ _ _ h' s.toks hK.2 hk ?_
        exact vr_listObj (vs := us) (n := c') hD (hN.fresh _ (get_none_size _)) (VRs.mono (fun a o x => ⟨x.1, hk _ _ x.2⟩) _ _ hs) (by rw [← hs.length]; exact lz)
      | rng k =>
        obtain ⟨v, rfl, h1⟩ := one hv
        unfold VR at h1
        obtain ⟨a, t, u, w', rfl, fz, h0, hz⟩ := h1
        obtain ⟨hz2, hK⟩ := hK
        have hr : Builtin.Range.rangeSize 0 k 1 = ((k.toNat : Nat) : Int) := by
          unfold Builtin.Range.rangeSize
          simp only [show (1 : Int) > 0 from by decide, if_true]
          split
          · simp; lia
          · lia
        refine list_rangeD (a := 0) (b := k) (c := 1) (t := t) (u := u) (v := w') (news := []) hA.hh Fm (fun _ h => nomatch h) fz.2 ?_ hr (by lia) (fun h' tk ys F' N' hk hn hl hp hc => ?_)
        · unfold Builtin.Range.small
          rw [hr]
          simp [Builtin.Range.rangeFitsLong]
          lia
        · obtain ⟨c', e⟩ := hp.1
          have hri : (rangeInts 0 1 k.toNat).map PV.int = (List.range k.toNat).map fun (i : Nat) => PV.int i := by
            unfold rangeInts; simp
          have hvr : VRs (Fz ow h') ((rangeInts 0 1 k.toNat).map PV.int) ys := list_int_range hc
          rw [hri] at hvr
          refine hQ _ _ h' tk hK hk ?_
          exact vr_listObj (vs := ys) (n := c') e (hN.fresh _ (get_none_size _)) hvr (by simp; lia)
      | _ => exact hK.elim
    · split at hK
      · rename_i e; subst e
        replace hK := arg1_ok hK; obtain ⟨x, rfl, hK⟩ := hK
        replace hK := onInt_ok hK; obtain ⟨n, rfl, hK⟩ := hK
        obtain ⟨v, rfl, h1⟩ := one hv
        unfold VR at h1
        obtain ⟨t, rfl⟩ := h1
        refine call_range_1 ?_
        refine hQ _ _ _ _ hK.2.2 (push_keep _ _) ?_
        unfold VR
        exact ⟨_, _, _, _, rfl, ⟨hN.fresh _ (get_none_size _), Heap.get?_push_size _ rfl⟩, hK.1, hK.2.1⟩
      · exact hK.elim
  | _ => exact hK.elim
end
end Mine
end
section
namespace Mine

theorem and_true_of {a b : Bool} (h : a = true) (k : b = true) : (a && b) = true := by rw [h, k]; rfl
theorem and_l {a b : Bool} (h : (a && b) = true) : a = true := by cases a with
  | true => rfl
  | false => exact (Bool.false_ne_true h).elim
theorem and_r {a b : Bool} (h : (a && b) = true) : b = true := by cases a with
  | true => exact h
  | false => exact (Bool.false_ne_true h).elim
noncomputable def hdP {α : Type} (p : α → Bool) (q : List α → Bool) : List α → Bool
  | [] => false
  | x :: xs => p x && q xs
noncomputable def nilP {α : Type} : List α → Bool
  | [] => true
  | _ :: _ => false
theorem hdP_ok {α : Type} {p : α → Bool} {q : List α → Bool} {l : List α} (h : hdP p q l = true) : ∃ x xs, l = x :: xs ∧ p x = true ∧ q xs = true := by
  cases l with
  | nil => exact (Bool.false_ne_true h).elim
  | cons x xs => exact ⟨_, _, rfl, and_l h, and_r h⟩
theorem nilP_ok {α : Type} {l : List α} (h : nilP l = true) : l = [] := by
  cases l with
  | nil => rfl
  | cons _ _ => exact (Bool.false_ne_true h).elim
theorem one_ok {α : Type} {p : α → Bool} {l : List α} (h : hdP p nilP l = true) : ∃ x, l = [x] ∧ p x = true := by
  obtain ⟨x, xs, rfl, h1, h2⟩ := hdP_ok h
  obtain rfl := nilP_ok h2
  exact ⟨_, rfl, h1⟩
theorem none_ok {α : Type} {o : Option α} (h : o.isNone = true) : o = none := by
  cases o with
  | none => rfl
  | some _ => exact (Bool.false_ne_true h).elim
noncomputable def someP {α : Type} (p : α → Bool) : Option α → Bool
  | none => false
  | some x => p x
theorem someP_ok {α : Type} {p : α → Bool} {o : Option α} (h : someP p o = true) : ∃ x, o = some x ∧ p x = true := by
  cases o with
  | none => exact (Bool.false_ne_true h).elim
  | some _ => exact ⟨_, rfl, h⟩
noncomputable def onConstant (kf : Const → Nat → Pos → Bool) : Expr → Bool
  | .Constant c k p => kf c k p
  | _ => false
theorem onConstant_ok {kf : Const → Nat → Pos → Bool} {ex : Expr} (h : onConstant kf ex = true) : ∃ c k p, ex = .Constant c k p ∧ kf c k p = true := by
  cases ex with
  | Constant => exact ⟨_, _, _, rfl, h⟩
  | _ => exact (Bool.false_ne_true h).elim
noncomputable def onName (kf : Str → Pos → Bool) : Expr → Bool
  | .Name x p => kf x p
  | _ => false
theorem onName_ok {kf : Str → Pos → Bool} {ex : Expr} (h : onName kf ex = true) : ∃ x p, ex = .Name x p ∧ kf x p = true := by
  cases ex with
  | Name => exact ⟨_, _, rfl, h⟩
  | _ => exact (Bool.false_ne_true h).elim
noncomputable def onBinOp (kf : Expr → Operator → Expr → Pos → Bool) : Expr → Bool
  | .BinOp l op r p => kf l op r p
  | _ => false
theorem onBinOp_ok {kf : Expr → Operator → Expr → Pos → Bool} {ex : Expr} (h : onBinOp kf ex = true) : ∃ l op r p, ex = .BinOp l op r p ∧ kf l op r p = true := by
  cases ex with
  | BinOp => exact ⟨_, _, _, _, rfl, h⟩
  | _ => exact (Bool.false_ne_true h).elim
noncomputable def onUnaryOp (kf : UnaryOp → Expr → Pos → Bool) : Expr → Bool
  | .UnaryOp op x p => kf op x p
  | _ => false
theorem onUnaryOp_ok {kf : UnaryOp → Expr → Pos → Bool} {ex : Expr} (h : onUnaryOp kf ex = true) : ∃ op x p, ex = .UnaryOp op x p ∧ kf op x p = true := by
  cases ex with
  | UnaryOp => exact ⟨_, _, _, rfl, h⟩
  | _ => exact (Bool.false_ne_true h).elim
noncomputable def onCompare (kf : Expr → List CmpOp → List Expr → Pos → Bool) : Expr → Bool
  | .Compare l os rs p => kf l os rs p
  | _ => false
theorem onCompare_ok {kf : Expr → List CmpOp → List Expr → Pos → Bool} {ex : Expr} (h : onCompare kf ex = true) : ∃ l os rs p, ex = .Compare l os rs p ∧ kf l os rs p = true := by
  cases ex with
  | Compare => exact ⟨_, _, _, _, rfl, h⟩
  | _ => exact (Bool.false_ne_true h).elim
noncomputable def onIfExp (kf : Expr → Expr → Expr → Pos → Bool) : Expr → Bool
  | .IfExp t a b p => kf t a b p
  | _ => false
theorem onIfExp_ok {kf : Expr → Expr → Expr → Pos → Bool} {ex : Expr} (h : onIfExp kf ex = true) : ∃ t a b p, ex = .IfExp t a b p ∧ kf t a b p = true := by
  cases ex with
  | IfExp => exact ⟨_, _, _, _, rfl, h⟩
  | _ => exact (Bool.false_ne_true h).elim
noncomputable def onBoolOp (kf : BoolOp → List Expr → Pos → Bool) : Expr → Bool
  | .BoolOp op xs p => kf op xs p
  | _ => false
theorem onBoolOp_ok {kf : BoolOp → List Expr → Pos → Bool} {ex : Expr} (h : onBoolOp kf ex = true) : ∃ op xs p, ex = .BoolOp op xs p ∧ kf op xs p = true := by
  cases ex with
  | BoolOp => exact ⟨_, _, _, rfl, h⟩
  | _ => exact (Bool.false_ne_true h).elim
noncomputable def onCall (kf : Expr → List Expr → List Keyword → Pos → Bool) : Expr → Bool
  | .Call f as ks p => kf f as ks p
  | _ => false
theorem onCall_ok {kf : Expr → List Expr → List Keyword → Pos → Bool} {ex : Expr} (h : onCall kf ex = true) : ∃ f as ks p, ex = .Call f as ks p ∧ kf f as ks p = true := by
  cases ex with
  | Call => exact ⟨_, _, _, _, rfl, h⟩
  | _ => exact (Bool.false_ne_true h).elim
noncomputable def onAttribute (kf : Expr → Str → Pos → Bool) : Expr → Bool
  | .Attribute o m p => kf o m p
  | _ => false
theorem onAttribute_ok {kf : Expr → Str → Pos → Bool} {ex : Expr} (h : onAttribute kf ex = true) : ∃ o m p, ex = .Attribute o m p ∧ kf o m p = true := by
  cases ex with
  | Attribute => exact ⟨_, _, _, rfl, h⟩
  | _ => exact (Bool.false_ne_true h).elim
noncomputable def onSubscript (kf : Expr → Expr → Pos → Bool) : Expr → Bool
  | .Subscript o i p => kf o i p
  | _ => false
theorem onSubscript_ok {kf : Expr → Expr → Pos → Bool} {ex : Expr} (h : onSubscript kf ex = true) : ∃ o i p, ex = .Subscript o i p ∧ kf o i p = true := by
  cases ex with
  | Subscript => exact ⟨_, _, _, rfl, h⟩
  | _ => exact (Bool.false_ne_true h).elim
noncomputable def onSlice (kf : Option Expr → Option Expr → Option Expr → Pos → Bool) : Expr → Bool
  | .Slice a b c p => kf a b c p
  | _ => false
theorem onSlice_ok {kf : Option Expr → Option Expr → Option Expr → Pos → Bool} {ex : Expr} (h : onSlice kf ex = true) : ∃ a b c p, ex = .Slice a b c p ∧ kf a b c p = true := by
  cases ex with
  | Slice => exact ⟨_, _, _, _, rfl, h⟩
  | _ => exact (Bool.false_ne_true h).elim
noncomputable def onList (kf : List Expr → Pos → Bool) : Expr → Bool
  | .List es p => kf es p
  | _ => false
theorem onList_ok {kf : List Expr → Pos → Bool} {ex : Expr} (h : onList kf ex = true) : ∃ es p, ex = .List es p ∧ kf es p = true := by
  cases ex with
  | List => exact ⟨_, _, rfl, h⟩
  | _ => exact (Bool.false_ne_true h).elim
noncomputable def onTuple (kf : List Expr → Nat → Pos → Bool) : Expr → Bool
  | .Tuple es k p => kf es k p
  | _ => false
theorem onTuple_ok {kf : List Expr → Nat → Pos → Bool} {ex : Expr} (h : onTuple kf ex = true) : ∃ es k p, ex = .Tuple es k p ∧ kf es k p = true := by
  cases ex with
  | Tuple => exact ⟨_, _, _, rfl, h⟩
  | _ => exact (Bool.false_ne_true h).elim
noncomputable def onListComp (kf : Expr → List Comprehension → Scope → Pos → Bool) : Expr → Bool
  | .ListComp e gs sc p => kf e gs sc p
  | _ => false
theorem onListComp_ok {kf : Expr → List Comprehension → Scope → Pos → Bool} {ex : Expr} (h : onListComp kf ex = true) : ∃ e gs sc p, ex = .ListComp e gs sc p ∧ kf e gs sc p = true := by
  cases ex with
  | ListComp => exact ⟨_, _, _, _, rfl, h⟩
  | _ => exact (Bool.false_ne_true h).elim
noncomputable def onGen (k : Expr → Expr → List Expr → Bool) : Comprehension → Bool
  | ⟨t, i, f, n⟩ => decide (n = 0) && k t i f
theorem onGen_ok {k : Expr → Expr → List Expr → Bool} {g : Comprehension} (h : onGen k g = true) : ∃ t i f, g = ⟨t, i, f, 0⟩ ∧ k t i f = true := by
  obtain ⟨t, i, f, n⟩ := g
  have h2 := and_r h
  obtain rfl := of_decide_eq_true (and_l h)
  exact ⟨_, _, _, rfl, h2⟩
noncomputable def nameAt (Γ : Cx) (i : Nat) (x : Str) : Bool := match Γ[i]? with
  | some (y, _) => y == x
  | none => false
noncomputable def ownAt (Γ : Cx) (i : Nat) (x : Str) : Bool := match Γ[i]? with
  | some (y, .loc) => y == x
  | _ => false
noncomputable def setAt (Γ : Cx) (i : Nat) (x : Str) : Bool := match Γ[i]? with
  | some (y, k) => y == x && k != .fre
  | none => false
noncomputable def tgAt (Γ : Cx) (p : Nat × Expr) : Bool := onName (fun x _ => setAt Γ p.1 x) p.2
noncomputable def chkT (Γ : Cx) : Tg → Expr → Bool
  | .one i, ex => onName (fun x _ => setAt Γ i x) ex
  | .many is, ex => onTuple (fun es _ _ => is.length == es.length && (is.zip es).all fun p => tgAt Γ p) ex
noncomputable def cxOf (c : CI) : Cx := c.names.map fun x => (x.1, x.2.1)
noncomputable def kindIs : Kd → NameKind
  | .loc => .local
  | .cel => .cell
  | .fre => .free
noncomputable def chkC (Γ : Cx) (c : CI) (scope : Scope) : Bool :=
  decide (scope.kind = .function) && decide ((c.names.map (·.1)).Nodup) &&
  c.names.all (fun x => scope.names.lookup x.1 == some (kindIs x.2.1) && x.1 != ("__debug__" : Str) && x.1 != ("__classdict__" : Str) &&
    (x.2.1 != .fre || (match Γ[x.2.2]? with | some (y, k) => y == x.1 && k != .loc | none => false))) &&
  c.gn.all (fun x => scope.names.lookup x == some .globalImplicit && x != ("__debug__" : Str)) &&
  scope.names.all (fun x => scope.names.lookup x.1 == some x.2 && (x.2 == .globalImplicit || (x.1 == (".0" : Str) && x.2 == .local) || c.names.any (fun y => y.1 == x.1)))
noncomputable def notSet : Expr → Bool
  | .Set .. => false
  | _ => true
noncomputable def plainBase : Expr → Bool
  | .Name .. | .Constant .. => true
  | .Call _ (_ :: _) _ _ => true
  | _ => false
noncomputable def isName : Expr → Bool
  | .Name .. => true
  | _ => false

noncomputable def constOk : PV → Const → Bool
  | .none, .none => true
  | .bool b, .bool c => b == c
  | .int i, .int j => i == j
  | .str s, .str t => s == t && s.cps.toList.all (· < 128) && decide (s.length ≤ 1024)
  | _, _ => false
section
variable (GT : List (Str × PV))
noncomputable def globIs (gn : List Str) (k : Nat) (x : Str) : Bool := gn.contains x && (match GT[k]? with | some (y, _) => y == x | none => false)
mutual
noncomputable def chkE (Γ : Cx) (gn : List Str) : E → Expr → Bool
  | .const v, ex => onConstant (fun c _ _ => constOk v c) ex
  | .var i, ex => onName (fun x _ => nameAt Γ i x) ex
  | .glob k, ex => onName (fun x _ => globIs GT gn k x) ex
  | .bin op l r, ex => onBinOp (fun l' op' r' _ => decide (op = op') && chkE Γ gn l l' && chkE Γ gn r r') ex
  | .cmp op l r, ex => onCompare (fun l' os rs _ => hdP (fun o => decide (op = o)) nilP os && (hdP (fun r' => notSet r' && chkE Γ gn r r') nilP rs && chkE Γ gn l l')) ex
  | .ife t a b, ex => onIfExp (fun t' a' b' _ => chkE Γ gn t t' && chkE Γ gn a a' && chkE Γ gn b b') ex
  | .call f as, ex => onCall (fun f' as' ks _ => nilP ks && (isName f' && !as'.isEmpty && decide (as'.length ≤ 10) && chkE Γ gn f f' && chkEs Γ gn as as')) ex
  | .lenv k i, ex => onCall (fun f as ks _ => nilP ks && (onName (fun f _ => globIs GT gn k f) f && hdP (onName fun x _ => ownAt Γ i x) nilP as)) ex
  | .meth o m as, ex => onCall (fun f as' ks p => nilP ks && onAttribute (fun o' m' ap => m == m' && plainBase o' && ap.endLine == p.line && !as'.isEmpty && decide (as'.length ≤ 10) && chkE Γ gn o o' && chkEs Γ gn as as') f) ex
  | .sub o i, ex => onSubscript (fun o' i' _ => chkE Γ gn o o' && chkE Γ gn i i') ex
  | .subv j i, ex => onSubscript (fun o' i' _ => onName (fun x _ => ownAt Γ j x) o' && chkE Γ gn i i') ex
  | .slc o lo hi, ex => onSubscript (fun o' s _ => onSlice (fun lo' hi' st _ => st.isNone && (chkE Γ gn o o' && chkO Γ gn lo lo' && chkO Γ gn hi hi')) s) ex
  | .list es, ex => onList (fun es' _ => chkEs Γ gn es es') ex
  | .tup es, ex => onTuple (fun es' _ _ => chkEs Γ gn es es') ex
  | .comp c elt t iter ifs rest, ex => onListComp (fun elt' gs scope _ => hdP (onGen fun t' iter' ifs' =>
      notSet iter' && chkC Γ c scope && chkE Γ gn iter iter' && chkT (cxOf c) t t' && chkEs (cxOf c) c.gn ifs ifs') (fun gs' => chkG (cxOf c) c.gn rest gs') gs && chkE (cxOf c) c.gn elt elt') ex
noncomputable def chkEs (Γ : Cx) (gn : List Str) : Es → List Expr → Bool
  | .nil, xs => nilP xs
  | .cons e es, xs => hdP (fun x => chkE Γ gn e x) (fun xs => chkEs Γ gn es xs) xs
noncomputable def chkO (Γ : Cx) (gn : List Str) : Oe → Option Expr → Bool
  | .no, x => x.isNone
  | .yes e, x => someP (fun x => chkE Γ gn e x) x
noncomputable def chkG (Γ : Cx) (gn : List Str) : Gs → List Comprehension → Bool
  | .nil, gs => nilP gs
  | .cons t iter ifs rest, gs => hdP (onGen fun t' iter' ifs' => notSet iter' && chkT Γ t t' && chkE Γ gn iter iter' && chkEs Γ gn ifs ifs') (fun gs => chkG Γ gn rest gs) gs
end
end
section
variable {GT : List (Str × PV)} {Γ : Cx} {gn : List Str} {ex : Expr}
theorem inv_const {v : PV} (h : chkE GT Γ gn (.const v) ex = true) : ∃ c k p, ex = .Constant c k p ∧ constOk v c = true := by
  obtain ⟨_, _, _, rfl, h2⟩ := onConstant_ok h
  exact ⟨_, _, _, rfl, h2⟩
theorem inv_var {i : Nat} (h : chkE GT Γ gn (.var i) ex = true) : ∃ x p, ex = .Name x p ∧ nameAt Γ i x = true := by
  obtain ⟨_, _, rfl, h2⟩ := onName_ok h
  exact ⟨_, _, rfl, h2⟩
theorem inv_glob {k : Nat} (h : chkE GT Γ gn (.glob k) ex = true) : ∃ x p, ex = .Name x p ∧ (gn.contains x && (match GT[k]? with | some (y, _) => y == x | none => false)) = true := by
  obtain ⟨_, _, rfl, h2⟩ := onName_ok h
  exact ⟨_, _, rfl, h2⟩
theorem inv_bin {op : Operator} {l r : E} (h : chkE GT Γ gn (.bin op l r) ex = true) : ∃ l' op' r' p, ex = .BinOp l' op' r' p ∧ (decide (op = op') && chkE GT Γ gn l l' && chkE GT Γ gn r r') = true := by
  obtain ⟨_, _, _, _, rfl, h2⟩ := onBinOp_ok h
  exact ⟨_, _, _, _, rfl, h2⟩
theorem inv_cmp {op : CmpOp} {l r : E} (h : chkE GT Γ gn (.cmp op l r) ex = true) : ∃ l' op' r' p, ex = .Compare l' [op'] [r'] p ∧ (decide (op = op') && notSet r' && chkE GT Γ gn l l' && chkE GT Γ gn r r') = true := by
  obtain ⟨l', os, rs, p, rfl, hh⟩ := onCompare_ok h
  obtain ⟨o, rfl, h1⟩ := one_ok (and_l hh)
  obtain ⟨r', rfl, h2⟩ := one_ok (and_l (and_r hh))
  exact ⟨_, _, _, _, rfl, and_true_of (and_true_of (and_true_of h1 (and_l h2)) (and_r (and_r hh))) (and_r h2)⟩
theorem inv_ife {t a b : E} (h : chkE GT Γ gn (.ife t a b) ex = true) : ∃ t' a' b' p, ex = .IfExp t' a' b' p ∧ (chkE GT Γ gn t t' && chkE GT Γ gn a a' && chkE GT Γ gn b b') = true := by
  obtain ⟨_, _, _, _, rfl, h2⟩ := onIfExp_ok h
  exact ⟨_, _, _, _, rfl, h2⟩
theorem inv_call {f : E} {as : Es} (h : chkE GT Γ gn (.call f as) ex = true) : ∃ f' as' p, ex = .Call f' as' [] p ∧ (isName f' && !as'.isEmpty && decide (as'.length ≤ 10) && chkE GT Γ gn f f' && chkEs GT Γ gn as as') = true := by
  obtain ⟨f', as', ks, p, rfl, hh⟩ := onCall_ok h
  obtain rfl := nilP_ok (and_l hh)
  exact ⟨_, _, _, rfl, and_r hh⟩
theorem inv_lenv {k i : Nat} (h : chkE GT Γ gn (.lenv k i) ex = true) : ∃ f p x p2 pos, ex = .Call (.Name f p) [.Name x p2] [] pos ∧ (gn.contains f && (match GT[k]? with | some (y, _) => y == f | none => false) && ownAt Γ i x) = true := by
  obtain ⟨f', as', ks, p, rfl, hh⟩ := onCall_ok h
  obtain rfl := nilP_ok (and_l hh)
  obtain ⟨f, q, rfl, h1⟩ := onName_ok (and_l (and_r hh))
  obtain ⟨x, rfl, h2⟩ := one_ok (and_r (and_r hh))
  obtain ⟨y, q2, rfl, h3⟩ := onName_ok h2
  exact ⟨_, _, _, _, _, rfl, and_true_of h1 h3⟩
theorem inv_meth {o : E} {m : Str} {as : Es} (h : chkE GT Γ gn (.meth o m as) ex = true) : ∃ o' m' ap as' p, ex = .Call (.Attribute o' m' ap) as' [] p ∧ (m == m' && plainBase o' && ap.endLine == p.line && !as'.isEmpty && decide (as'.length ≤ 10) && chkE GT Γ gn o o' && chkEs GT Γ gn as as') = true := by
  obtain ⟨f', as', ks, p, rfl, hh⟩ := onCall_ok h
  obtain rfl := nilP_ok (and_l hh)
  obtain ⟨f, m, q, rfl, h1⟩ := onAttribute_ok (and_r hh)
  exact ⟨_, _, _, _, _, rfl, h1⟩
theorem inv_sub {o i : E} (h : chkE GT Γ gn (.sub o i) ex = true) : ∃ o' i' p, ex = .Subscript o' i' p ∧ (chkE GT Γ gn o o' && chkE GT Γ gn i i') = true := by
  obtain ⟨_, _, _, rfl, h2⟩ := onSubscript_ok h
  exact ⟨_, _, _, rfl, h2⟩
theorem inv_subv {j : Nat} {i : E} (h : chkE GT Γ gn (.subv j i) ex = true) : ∃ x p i' pos, ex = .Subscript (.Name x p) i' pos ∧ (ownAt Γ j x && chkE GT Γ gn i i') = true := by
  obtain ⟨o, i', p, rfl, hh⟩ := onSubscript_ok h
  obtain ⟨x, q, rfl, h1⟩ := onName_ok (and_l hh)
  exact ⟨_, _, _, _, rfl, and_true_of h1 (and_r hh)⟩
theorem inv_slc {o : E} {lo hi : Oe} (h : chkE GT Γ gn (.slc o lo hi) ex = true) : ∃ o' lo' hi' p1 p2, ex = .Subscript o' (.Slice lo' hi' none p1) p2 ∧ (chkE GT Γ gn o o' && chkO GT Γ gn lo lo' && chkO GT Γ gn hi hi') = true := by
  obtain ⟨o, s, p, rfl, hh⟩ := onSubscript_ok h
  obtain ⟨a, b, c, q, rfl, h1⟩ := onSlice_ok hh
  obtain rfl := none_ok (and_l h1)
  exact ⟨_, _, _, _, _, rfl, and_r h1⟩
theorem inv_list {es : Es} (h : chkE GT Γ gn (.list es) ex = true) : ∃ es' p, ex = .List es' p ∧ chkEs GT Γ gn es es' = true := by
  obtain ⟨_, _, rfl, h2⟩ := onList_ok h
  exact ⟨_, _, rfl, h2⟩
theorem inv_tup {es : Es} (h : chkE GT Γ gn (.tup es) ex = true) : ∃ es' k p, ex = .Tuple es' k p ∧ chkEs GT Γ gn es es' = true := by
  obtain ⟨_, _, _, rfl, h2⟩ := onTuple_ok h
  exact ⟨_, _, _, rfl, h2⟩
theorem inv_comp {c : CI} {elt iter : E} {t : Tg} {ifs : Es} {rest : Gs} (h : chkE GT Γ gn (.comp c elt t iter ifs rest) ex = true) : ∃ elt' t' iter' ifs' gs' scope pos, ex = .ListComp elt' (⟨t', iter', ifs', 0⟩ :: gs') scope pos ∧ (notSet iter' && chkC Γ c scope && chkE GT Γ gn iter iter' && chkT (cxOf c) t t' && chkEs GT (cxOf c) c.gn ifs ifs' && chkG GT (cxOf c) c.gn rest gs' && chkE GT (cxOf c) c.gn elt elt') = true := by
  obtain ⟨e, gs, sc, p, rfl, hh⟩ := onListComp_ok h
  obtain ⟨g, gs', rfl, h1, h2⟩ := hdP_ok (and_l hh)
  obtain ⟨t', i', f', rfl, h3⟩ := onGen_ok h1
  exact ⟨_, _, _, _, _, _, _, rfl, and_true_of (and_true_of h3 h2) (and_r hh)⟩
theorem inv_enil {xs : List Expr} (h : chkEs GT Γ gn .nil xs = true) : xs = [] := nilP_ok h
theorem inv_econs {e : E} {es : Es} {xs : List Expr} (h : chkEs GT Γ gn (.cons e es) xs = true) : ∃ x xs', xs = x :: xs' ∧ chkE GT Γ gn e x = true ∧ chkEs GT Γ gn es xs' = true := hdP_ok h
theorem inv_no {x : Option Expr} (h : chkO GT Γ gn .no x = true) : x = none := none_ok h
theorem inv_yes {e : E} {x : Option Expr} (h : chkO GT Γ gn (.yes e) x = true) : ∃ ex, x = some ex ∧ chkE GT Γ gn e ex = true := someP_ok h
theorem inv_gnil {xs : List Comprehension} (h : chkG GT Γ gn .nil xs = true) : xs = [] := nilP_ok h
theorem inv_gcons {t : Tg} {iter : E} {ifs : Es} {rest : Gs} {xs : List Comprehension} (h : chkG GT Γ gn (.cons t iter ifs rest) xs = true) : ∃ t' iter' ifs' gs', xs = ⟨t', iter', ifs', 0⟩ :: gs' ∧ (notSet iter' && chkT Γ t t' && chkE GT Γ gn iter iter' && chkEs GT Γ gn ifs ifs' && chkG GT Γ gn rest gs') = true := by
  obtain ⟨g, gs', rfl, h1, h2⟩ := hdP_ok h
  obtain ⟨t', i', f', rfl, h3⟩ := onGen_ok h1
  exact ⟨_, _, _, _, rfl, and_true_of h3 h2⟩
theorem inv_one {i : Nat} {e : Expr} (h : chkT Γ (.one i) e = true) : ∃ x p, e = .Name x p ∧ setAt Γ i x = true := onName_ok h
theorem inv_many {is : List Nat} {e : Expr} (h : chkT Γ (.many is) e = true) : ∃ es k p, e = .Tuple es k p ∧ (is.length == es.length && (is.zip es).all fun p => tgAt Γ p) = true := onTuple_ok h
end
end Mine
end
section
namespace Mine

structure ES (ow : Addr → Option Nat) (h : Heap) (ow' : Addr → Option Nat) (h' : Heap) : Prop where
  keep : ∀ b o, h.get? b = some o → h'.get? b = some o
  sub : ∀ b t, ow' b = some t → ow b = some t
  low : ∀ b t, ow b = some t → t ≤ 2 → ow' b = some t
theorem ES.refl (ow : Addr → Option Nat) (h : Heap) : ES ow h ow h := ⟨fun _ _ e => e, fun _ _ e => e, fun _ _ e _ => e⟩
theorem ES.trans {o1 o2 o3 : Addr → Option Nat} {h1 h2 h3 : Heap} (x : ES o1 h1 o2 h2) (y : ES o2 h2 o3 h3) : ES o1 h1 o3 h3 :=
  ⟨fun b o e => y.keep b o (x.keep b o e), fun b t e => x.sub b t (y.sub b t e), fun b t e ht => y.low b t (x.low b t e ht) ht⟩
theorem ES.keeps {ow : Addr → Option Nat} {h h' : Heap} (k : ∀ b o, h.get? b = some o → h'.get? b = some o) : ES ow h ow h' := ⟨k, fun _ _ e => e, fun _ _ e _ => e⟩
theorem ES.le {ow ow' : Addr → Option Nat} {h h' : Heap} (x : ES ow h ow' h') : Le ow h ow' h' :=
  ⟨⟨fun a o f => ⟨(by
    cases q : ow' a with
    | none => rfl
    | some t => have := x.sub a t q; rw [f.1] at this; cases this), x.keep a o f.2⟩⟩, fun a o e f => ⟨x.low a 2 e (Nat.le_refl _), x.keep a o f⟩⟩
theorem ES.vr {ow ow' : Addr → Option Nat} {h h' : Heap} (x : ES ow h ow' h') {p : PV} {v : Value} (e : VR (Fz ow h) p v) : VR (Fz ow' h') p v := x.le.vr e
theorem ES.vrs {ow ow' : Addr → Option Nat} {h h' : Heap} (x : ES ow h ow' h') {p : List PV} {v : List Value} (e : VRs (Fz ow h) p v) : VRs (Fz ow' h') p v := x.le.vrs e

theorem FR.now {H : Heap} {Γ : Cx} {env : Env} {fo : Addr → Prop} {base : Heap} {φ : Frame} {ow : Addr → Option Nat} {h : Heap} (F : FR H Γ env fo base φ ow h) : Now H ow h :=
  ⟨F.topIn, fun a e => ⟨F.hi a e, F.ex e⟩, let ⟨m, hm, _⟩ := F.ns; ⟨_, m, hm⟩⟩

noncomputable def GlobOk (H : Heap) (GT : List (Str × PV)) : Prop := ∃ mg mb, H.Ns mainGlobals mg ∧ H.Ns builtinsNs mb ∧
  ∀ (k : Nat) (x : Str) (v : PV), GT[k]? = some (x, v) → ∃ val, (mg x = some val ∨ (mg x = none ∧ mb x = some val)) ∧ VR (fun a o => H.get? a = some o) v val

section
variable (prog : Program) (w : World) (H : Heap) (GT : List (Str × PV)) (n : Nat)

structure Tops : Prop where
  glob : GlobOk H GT
  lev : prog = prog ∧ w = w ∧ n = n
theorem Tops.fn {prog : Program} {w : World} {H : Heap} {GT : List (Str × PV)} {n : Nat} (_ : Tops prog w H GT n) (a : Addr) (vs : List PV) (r : PV) (h : Spec prog w H n (.ref a) vs r) : ∃ o fd, H.get? a = some o ∧ o.data = .func fd := h.1
theorem Tops.pat {prog : Program} {w : World} {H : Heap} {GT : List (Str × PV)} {n : Nat} (_ : Tops prog w H GT n) (p : Value) (vs : List PV) (r : PV) (h : Spec prog w H n (.builtin "re.Pattern.sub") (.raw p :: vs) r) : ∃ a o, p = .ref a ∧ H.get? a = some o ∧ o.cls = .type "re.Pattern" ∧ o.dict = none := h.1 rfl

noncomputable abbrev EP {α : Type} (R : (Addr → Option Nat) → Heap → α → Value → Prop) (Γ : Cx) (env : Env) (fo : Addr → Prop) (base : Heap) (ow : Addr → Option Nat) (s : Shared) (K : α → Frame → Prop) (Q : Value → Shared → Prop) : Prop :=
  ∀ v pv φ' ow' h' tk, K pv φ' → FR H Γ env fo base φ' ow' h' → ES ow s.heap ow' h' → R ow' h' pv v → Q v { s with heap := h', toks := tk }
noncomputable abbrev RV (ow : Addr → Option Nat) (h : Heap) (pv : PV) (v : Value) : Prop := VR (Fz ow h) pv v

noncomputable def SndE (e : E) : Prop := ∀ (ex : Expr) (φ : Frame) (K : PV → Frame → Prop) (Γ : Cx) (gn : List Str) (env : Env) (fo : Addr → Prop) (base : Heap) (ow : Addr → Option Nat) (A : Around) (s : Shared) (Q X : Value → Shared → Prop),
  chkE GT Γ gn e ex = true → evE GT (Spec prog w H n) e φ K → EnvOk Γ gn env → AOk n A → FR H Γ env fo base φ ow s.heap → EP H RV Γ env fo base ow s K Q → wpAny (model prog w) A (eval ex env) Q X s
noncomputable def SndEs (es : Es) : Prop := ∀ (xs : List Expr) (pos : Pos) (φ : Frame) (K : List PV → Frame → Prop) (Γ : Cx) (gn : List Str) (env : Env) (fo : Addr → Prop) (base : Heap) (ow : Addr → Option Nat) (A : Around) (s : Shared) (Q : List Value → Shared → Prop) (X : Value → Shared → Prop),
  chkEs GT Γ gn es xs = true → evEs GT (Spec prog w H n) es φ K → EnvOk Γ gn env → AOk n A → FR H Γ env fo base φ ow s.heap →
  (∀ vs pvs φ' ow' h' tk, K pvs φ' → FR H Γ env fo base φ' ow' h' → ES ow s.heap ow' h' → VRs (Fz ow' h') pvs vs → Q vs { s with heap := h', toks := tk }) →
  wpAny (model prog w) A (spliced (backTo pos (starEach xs env))) Q X s
noncomputable def SndO (o : Oe) : Prop := ∀ (x : Option Expr) (φ : Frame) (K : Option Int → Frame → Prop) (Γ : Cx) (gn : List Str) (env : Env) (fo : Addr → Prop) (base : Heap) (ow : Addr → Option Nat) (A : Around) (s : Shared) (Q X : Value → Shared → Prop),
  chkO GT Γ gn o x = true → evO GT (Spec prog w H n) o φ K → EnvOk Γ gn env → AOk n A → FR H Γ env fo base φ ow s.heap → EP H (fun _ _ l v => PartR l v) Γ env fo base ow s K Q → wpAny (model prog w) A (evalPart x env) Q X s
noncomputable def SndT (e : E) : Prop := ∀ (ex : Expr) (φ : Frame) (K : Bool → Frame → Prop) (Γ : Cx) (gn : List Str) (env : Env) (fo : Addr → Prop) (base : Heap) (ow : Addr → Option Nat) (A : Around) (s : Shared) (Q : Bool → Shared → Prop) (X : Value → Shared → Prop),
  chkE GT Γ gn e ex = true → evT GT (Spec prog w H n) e φ K → EnvOk Γ gn env → AOk n A → FR H Γ env fo base φ ow s.heap →
  (∀ b φ' ow' h' tk, K b φ' → FR H Γ env fo base φ' ow' h' → ES ow s.heap ow' h' → Q b { s with heap := h', toks := tk }) →
  wpAny (model prog w) A (isTrue ex env (eval ex env)) Q X s
end

section
variable {prog : Program} {w : World} {H : Heap} {GT : List (Str × PV)} {n : Nat}

theorem get_fz {Γ : Cx} {env : Env} {fo : Addr → Prop} {base : Heap} {φ : Frame} {ow : Addr → Option Nat} {h : Heap} (F : FR H Γ env fo base φ ow h) {a : Addr} {o : Obj} (e : H.get? a = some o) : Fz ow h a o := by
  refine ⟨?_, F.topIn a o e⟩
  cases q : ow a with
  | none => rfl
  | some t => have := F.hi a (by rw [q]; simp); rw [e] at this; cases this

theorem nameAt_spec {Γ : Cx} {i : Nat} {x : Str} (h : nameAt Γ i x = true) : ∃ k, Γ[i]? = some (x, k) := by
  unfold nameAt at h
  split at h
  · rename_i y k e
    have : y = x := by simpa using h
    subst this
    exact ⟨k, e⟩
  · cases h
theorem ownAt_spec {Γ : Cx} {i : Nat} {x : Str} (h : ownAt Γ i x = true) : Γ[i]? = some (x, .loc) := by
  unfold ownAt at h
  split at h
  · rename_i y e
    have : y = x := by simpa using h
    subst this
    exact e
  · cases h
theorem own_loc {Γ : Cx} {env : Env} {fo : Addr → Prop} {base : Heap} {φ : Frame} {ow : Addr → Option Nat} {h : Heap} (F : FR H Γ env fo base φ ow h) {i : Nat} {x : Str} {k : Kd} {xs : List PV} (hx : Γ[i]? = some (x, k)) (hs : φ[i]? = some (.own xs)) : k = .loc := by
  cases k with
  | loc => rfl
  | cel =>
    obtain ⟨c, v, _, _, _, e⟩ := F.cel i x hx
    rw [hs] at e; exact e.elim
  | fre =>
    obtain ⟨c, v, pv, _, _, e, _⟩ := F.fre i x hx
    rw [hs] at e; cases e

theorem snd_const (v : PV) : SndE prog w H GT n (.const v) := by
  intro ex φ K Γ gn env fo base ow A s Q X hc hK EO AO F hQ
  simp only [↓evE_const, ↓evE_var, ↓evE_glob, ↓evE_bin, ↓evE_cmp, ↓evE_ife, ↓evE_call, ↓evE_lenv, ↓evE_meth, ↓evE_sub, ↓evE_subv, ↓evE_slc, ↓evE_list, ↓evE_tup, ↓evE_comp] at hK
  replace hc := inv_const hc; obtain ⟨c, _, _, rfl, hc⟩ := hc
  cases v with
  | none => cases c with
    | none => exact wpAny_Constant_none (hQ _ _ φ ow s.heap s.toks hK F (.refl ..) (by unfold RV VR; rfl))
    | _ => exact (Bool.false_ne_true hc).elim
  | bool b => cases c with
    | bool c =>
      obtain rfl : b = c := beq_iff_eq.mp hc
      exact wpAny_Constant_bool (hQ _ _ φ ow s.heap s.toks hK F (.refl ..) (by unfold RV VR; rfl))
    | _ => exact (Bool.false_ne_true hc).elim
  | int b => cases c with
    | int c =>
      obtain rfl : b = c := beq_iff_eq.mp hc
      exact wpAny_Constant_int (hQ _ _ φ ow s.heap _ hK F (.refl ..) (by unfold RV VR; exact ⟨_, rfl⟩))
    | _ => exact (Bool.false_ne_true hc).elim
  | str b => cases c with
    | str c =>
      have hc : (b == c && b.cps.toList.all (· < 128) && decide (b.length ≤ 1024)) = true := hc
      simp only [Bool.and_eq_true, beq_iff_eq, decide_eq_true_eq] at hc
      obtain ⟨⟨rfl, ha⟩, hl⟩ := hc
      refine wpAny_Constant_str (hQ _ _ φ ow s.heap _ hK F (.refl ..) ?_)
      unfold RV VR
      have z : sizeLine = 16777216 := rfl
      refine ⟨_, rfl, by lia, fun c hc => ?_⟩
      have := List.all_eq_true.mp ha c hc
      simpa using this
    | _ => exact (Bool.false_ne_true hc).elim
  | _ => exact (Bool.false_ne_true hc).elim

theorem snd_var (i : Nat) : SndE prog w H GT n (.var i) := by
  intro ex φ K Γ gn env fo base ow A s Q X hc hK EO AO F hQ
  simp only [↓evE_const, ↓evE_var, ↓evE_glob, ↓evE_bin, ↓evE_cmp, ↓evE_ife, ↓evE_call, ↓evE_lenv, ↓evE_meth, ↓evE_sub, ↓evE_subv, ↓evE_slc, ↓evE_list, ↓evE_tup, ↓evE_comp] at hK
  replace hc := inv_var hc; obtain ⟨_, _, rfl, hc⟩ := hc
  · obtain ⟨k, hx⟩ := nameAt_spec hc
    refine wpAny_Name ?_ (EO.plain _ _ _ hx).1
    split at hK
    · rename_i v hs
      exact load_val EO F hx hs fun val vr => hQ _ _ φ ow s.heap s.toks hK F (.refl ..) vr
    · rename_i xs hs
      have := own_loc F hx hs
      subst this
      have z : sizeLine = 16777216 := rfl
      exact load_freeze EO F hx hs (by lia) fun val ow' F' l un lo vr => hQ _ _ _ ow' s.heap s.toks hK.2 F' ⟨fun _ _ e => e, un, lo⟩ vr
    · exact hK.elim

theorem snd_glob (T : Tops prog w H GT n) (k : Nat) : SndE prog w H GT n (.glob k) := by
  intro ex φ K Γ gn env fo base ow A s Q X hc hK EO AO F hQ
  simp only [↓evE_const, ↓evE_var, ↓evE_glob, ↓evE_bin, ↓evE_cmp, ↓evE_ife, ↓evE_call, ↓evE_lenv, ↓evE_meth, ↓evE_sub, ↓evE_subv, ↓evE_slc, ↓evE_list, ↓evE_tup, ↓evE_comp] at hK
  replace hc := inv_glob hc; obtain ⟨_, _, rfl, hc⟩ := hc
  · rename_i x p
    simp only [Bool.and_eq_true] at hc
    obtain ⟨hg, hc⟩ := hc
    cases q : GT[k]? with
    | none => rw [q] at hc; cases hc
    | some p =>
      obtain ⟨y, v⟩ := p
      rw [q] at hc hK
      have hy : y = x := by simpa using hc
      subst hy
      obtain ⟨mg, mb, g1, g2, hv⟩ := T.glob
      obtain ⟨val, e, vr⟩ := hv k y v q
      have hx := EO.gk y (by simpa using hg)
      have m1 : s.heap.Ns env.globals mg := by rw [EO.gl]; exact g1.keeps F.topIn
      have m2 : s.heap.Ns env.builtins mb := by rw [EO.bl]; exact g2.keeps F.topIn
      have fin : Q val s := hQ _ _ φ ow s.heap s.toks hK F (.refl ..) (VR.mono (fun a o e => get_fz F e) _ _ vr)
      refine Calls.Name_function_global EO.fn hx.1 ?_ hx.2
      rcases e with e | ⟨e1, e2⟩
      · exact Calls.loadGlobal_global m1 e fin
      · exact Calls.loadGlobal_builtin m1 e1 m2 e2 fin

theorem snd_bin {op : Operator} {l r : E} (hl : SndE prog w H GT n l) (hr : SndE prog w H GT n r) : SndE prog w H GT n (.bin op l r) := by
  intro ex φ K Γ gn env fo base ow A s Q X hc hK EO AO F hQ
  simp only [↓evE_const, ↓evE_var, ↓evE_glob, ↓evE_bin, ↓evE_cmp, ↓evE_ife, ↓evE_call, ↓evE_lenv, ↓evE_meth, ↓evE_sub, ↓evE_subv, ↓evE_slc, ↓evE_list, ↓evE_tup, ↓evE_comp] at hK
  replace hc := inv_bin hc; obtain ⟨_, _, _, _, rfl, hc⟩ := hc
  · simp only [Bool.and_eq_true, decide_eq_true_eq] at hc
    obtain ⟨⟨rfl, c1⟩, c2⟩ := hc
    refine wpAny_BinOp (hl _ φ _ Γ gn env fo base ow A s _ _ c1 hK EO AO F ?_)
    intro va pa φ1 ow1 h1 tk1 hK1 F1 st1 v1
    refine hr _ φ1 _ Γ gn env fo base ow1 A _ _ _ c2 hK1 EO AO F1 ?_
    intro vb pb φ2 ow2 h2 tk2 hK2 F2 st2 v2
    refine binop_ok (ow := ow2) hK2 (st2.vr v1) v2 (fun x e => F2.fresh e) ?_
    intro v pv h' tk k keep vr
    exact hQ v pv φ2 ow2 h' tk k (F2.keeps keep) ((st1.trans st2).trans (.keeps keep)) vr

theorem notSet_mark {op : CmpOp} {e : Expr} (h : notSet e = true) : behindInMarks op e = false := by
  cases e <;> first | rfl | (cases h)

theorem snd_cmp {op : CmpOp} {l r : E} (hl : SndE prog w H GT n l) (hr : SndE prog w H GT n r) : SndE prog w H GT n (.cmp op l r) := by
  intro ex φ K Γ gn env fo base ow A s Q X hc hK EO AO F hQ
  simp only [↓evE_const, ↓evE_var, ↓evE_glob, ↓evE_bin, ↓evE_cmp, ↓evE_ife, ↓evE_call, ↓evE_lenv, ↓evE_meth, ↓evE_sub, ↓evE_subv, ↓evE_slc, ↓evE_list, ↓evE_tup, ↓evE_comp] at hK
  replace hc := inv_cmp hc; obtain ⟨_, _, _, _, rfl, hc⟩ := hc
  · simp only [Bool.and_eq_true, decide_eq_true_eq] at hc
    obtain ⟨⟨⟨rfl, ns⟩, c1⟩, c2⟩ := hc
    refine wpAny_Compare1 (hl _ φ _ Γ gn env fo base ow A s _ _ c1 hK EO AO F ?_) (notSet_mark ns)
    intro va pa φ1 ow1 h1 tk1 hK1 F1 st1 v1
    refine hr _ φ1 _ Γ gn env fo base ow1 A _ _ _ c2 hK1 EO AO F1 ?_
    intro vb pb φ2 ow2 h2 tk2 hK2 F2 st2 v2
    refine cmpop_ok (ow := ow2) hK2 (st2.vr v1) v2 (by have := AO.un; lia) fun c hc => ?_
    exact hQ _ (.bool c) φ2 ow2 h2 tk2 hc F2 (st1.trans st2) (by unfold RV VR; rfl)

theorem snd_ife {t a b : E} (ht : SndT prog w H GT n t) (ha : SndE prog w H GT n a) (hb : SndE prog w H GT n b) : SndE prog w H GT n (.ife t a b) := by
  intro ex φ K Γ gn env fo base ow A s Q X hc hK EO AO F hQ
  simp only [↓evE_const, ↓evE_var, ↓evE_glob, ↓evE_bin, ↓evE_cmp, ↓evE_ife, ↓evE_call, ↓evE_lenv, ↓evE_meth, ↓evE_sub, ↓evE_subv, ↓evE_slc, ↓evE_list, ↓evE_tup, ↓evE_comp] at hK
  replace hc := inv_ife hc; obtain ⟨_, _, _, _, rfl, hc⟩ := hc
  · simp only [Bool.and_eq_true] at hc
    obtain ⟨⟨c1, c2⟩, c3⟩ := hc
    refine wpAny_IfExp (ht _ φ _ Γ gn env fo base ow A s _ _ c1 hK EO AO F ?_)
    intro c φ1 ow1 h1 tk1 hK1 F1 st1
    cases c with
    | true => exact ha _ φ1 _ Γ gn env fo base ow1 A _ _ _ c2 (hK1.1 rfl) EO AO F1 fun v pv φ' ow' h' tk k F' st' vr => hQ v pv φ' ow' h' tk k F' (st1.trans st') vr
    | false => exact hb _ φ1 _ Γ gn env fo base ow1 A _ _ _ c3 (hK1.2 rfl) EO AO F1 fun v pv φ' ow' h' tk k F' st' vr => hQ v pv φ' ow' h' tk k F' (st1.trans st') vr

theorem snd_sub {o i : E} (ho : SndE prog w H GT n o) (hi : SndE prog w H GT n i) : SndE prog w H GT n (.sub o i) := by
  intro ex φ K Γ gn env fo base ow A s Q X hc hK EO AO F hQ
  simp only [↓evE_const, ↓evE_var, ↓evE_glob, ↓evE_bin, ↓evE_cmp, ↓evE_ife, ↓evE_call, ↓evE_lenv, ↓evE_meth, ↓evE_sub, ↓evE_subv, ↓evE_slc, ↓evE_list, ↓evE_tup, ↓evE_comp] at hK
  replace hc := inv_sub hc; obtain ⟨_, _, _, rfl, hc⟩ := hc
  · simp only [Bool.and_eq_true] at hc
    obtain ⟨c1, c2⟩ := hc
    refine Subscript_ (ho _ φ _ Γ gn env fo base ow A s _ _ c1 hK EO AO F ?_)
    intro va pa φ1 ow1 h1 tk1 hK1 F1 st1 v1
    refine hi _ φ1 _ Γ gn env fo base ow1 A _ _ _ c2 hK1 EO AO F1 ?_
    intro vb pb φ2 ow2 h2 tk2 hK2 F2 st2 v2
    refine getItem_ok (ow := ow2) hK2 (st2.vr v1) v2 ?_
    intro v pv h' tk k keep vr
    exact hQ v pv φ2 ow2 h' tk k (F2.keeps keep) ((st1.trans st2).trans (.keeps keep)) vr

theorem snd_slc {o : E} {lo hi : Oe} (ho : SndE prog w H GT n o) (hl : SndO prog w H GT n lo) (hh : SndO prog w H GT n hi) : SndE prog w H GT n (.slc o lo hi) := by
  intro ex φ K Γ gn env fo base ow A s Q X hc hK EO AO F hQ
  simp only [↓evE_const, ↓evE_var, ↓evE_glob, ↓evE_bin, ↓evE_cmp, ↓evE_ife, ↓evE_call, ↓evE_lenv, ↓evE_meth, ↓evE_sub, ↓evE_subv, ↓evE_slc, ↓evE_list, ↓evE_tup, ↓evE_comp] at hK
  replace hc := inv_slc hc; obtain ⟨_, _, _, _, _, rfl, hc⟩ := hc
  · simp only [Bool.and_eq_true] at hc
    obtain ⟨⟨c1, c2⟩, c3⟩ := hc
    refine Subscript_ (ho _ φ _ Γ gn env fo base ow A s _ _ c1 hK EO AO F ?_)
    intro va pa φ1 ow1 h1 tk1 hK1 F1 st1 v1
    refine wpAny_Slice (hl _ φ1 _ Γ gn env fo base ow1 A _ _ _ c2 hK1 EO AO F1 ?_)
    intro vb pb φ2 ow2 h2 tk2 hK2 F2 st2 v2
    refine hh _ φ2 _ Γ gn env fo base ow2 A _ _ _ c3 hK2 EO AO F2 ?_
    intro vc pc φ3 ow3 h3 tk3 hK3 F3 st3 v3
    rw [evalPart_none]
    refine wpAny_pure ?_
    have kp := push_keep h3 { cls := .type "slice", data := .fields #[vb, vc, .none] }
    have F4 := F3.keeps kp
    refine slice_ok (ow := ow3) hK3 ((((st2.trans st3).trans (.keeps kp))).vr v1) v2 v3 (Heap.get?_push_size _ rfl) (fun x e => F4.fresh e) ?_
    intro v pv h' tk k keep vr
    exact hQ v pv φ3 ow3 h' tk k (F4.keeps keep) ((((st1.trans st2).trans st3).trans (.keeps kp)).trans (.keeps keep)) vr

theorem snd_ono : SndO prog w H GT n .no := by
  intro x φ K Γ gn env fo base ow A s Q X hc hK EO AO F hQ
  obtain rfl := inv_no hc
  simp only [↓evO_no, ↓evO_yes] at hK
  exact wpAny_pure (hQ _ _ φ ow s.heap s.toks hK F (.refl ..) rfl)
theorem snd_oyes {e : E} (he : SndE prog w H GT n e) : SndO prog w H GT n (.yes e) := by
  intro x φ K Γ gn env fo base ow A s Q X hc hK EO AO F hQ
  replace hc := inv_yes hc; obtain ⟨_, rfl, hc⟩ := hc
  simp only [↓evO_no, ↓evO_yes] at hK
  · refine he _ φ _ Γ gn env fo base ow A s _ _ hc hK EO AO F ?_
    intro v pv φ' ow' h' tk k F' st vr
    obtain ⟨i, rfl, k⟩ := k
    unfold RV VR at vr
    exact hQ v (some i) φ' ow' h' tk k F' st vr

theorem snd_enil : SndEs prog w H GT n .nil := by
  intro xs pos φ K Γ gn env fo base ow A s Q X hc hK EO AO F hQ
  obtain rfl := inv_enil hc
  simp only [↓evEs_nil, ↓evEs_cons] at hK
  exact wpAny_items_nil (hQ _ _ φ ow s.heap s.toks hK F (.refl ..) VRs.nil')
theorem chkE_notStar {Γ : Cx} {gn : List Str} {e : E} {ex : Expr} {env : Env} {rest : List Expr} (h : chkE GT Γ gn e ex = true) : starEach (ex :: rest) env = (false, eval ex env) :: starEach rest env := by
  cases ex <;> first | rfl | (cases e <;> exact (Bool.false_ne_true h).elim)
theorem snd_econs {e : E} {es : Es} (he : SndE prog w H GT n e) (hes : SndEs prog w H GT n es) : SndEs prog w H GT n (.cons e es) := by
  intro xs pos φ K Γ gn env fo base ow A s Q X hc hK EO AO F hQ
  replace hc := inv_econs hc; obtain ⟨x, xs, rfl, hc⟩ := hc
  simp only [↓evEs_nil, ↓evEs_cons] at hK
  · refine wpAny_items_cons (he _ φ _ Γ gn env fo base ow A s _ _ hc.1 hK EO AO F ?_) (chkE_notStar hc.1)
    intro va pa φ1 ow1 h1 tk1 hK1 F1 st1 v1
    refine hes _ pos φ1 _ Γ gn env fo base ow1 A _ _ _ hc.2 hK1 EO AO F1 ?_
    intro vs pvs φ' ow' h' tk k F' st vr
    exact hQ _ _ φ' ow' h' tk k F' (st1.trans st) (VRs.cons' (st.vr v1) vr)

theorem snd_list {es : Es} (he : SndEs prog w H GT n es) : SndE prog w H GT n (.list es) := by
  intro ex φ K Γ gn env fo base ow A s Q X hc hK EO AO F hQ
  simp only [↓evE_const, ↓evE_var, ↓evE_glob, ↓evE_bin, ↓evE_cmp, ↓evE_ife, ↓evE_call, ↓evE_lenv, ↓evE_meth, ↓evE_sub, ↓evE_subv, ↓evE_slc, ↓evE_list, ↓evE_tup, ↓evE_comp] at hK
  replace hc := inv_list hc; obtain ⟨_, _, rfl, hc⟩ := hc
  · refine List_ (he _ _ φ _ Γ gn env fo base ow A s _ _ hc hK EO AO F ?_)
    intro vs pvs φ1 ow1 h1 tk1 hK1 F1 st1 v1
    refine newList_ok (ow := ow1) v1 hK1.1 ?_
    have kp := push_keep h1 (listObj vs 0)
    have z : sizeLine = 16777216 := rfl
    exact hQ _ (.list pvs) φ1 ow1 _ tk1 hK1.2 (F1.keeps kp) (st1.trans (.keeps kp)) (vr_listObj (Heap.get?_push_size _ rfl) (F1.fresh (get_none_size _)) ((ES.keeps kp).vrs v1) (by have := hK1.1; lia))
theorem snd_tup {es : Es} (he : SndEs prog w H GT n es) : SndE prog w H GT n (.tup es) := by
  intro ex φ K Γ gn env fo base ow A s Q X hc hK EO AO F hQ
  simp only [↓evE_const, ↓evE_var, ↓evE_glob, ↓evE_bin, ↓evE_cmp, ↓evE_ife, ↓evE_call, ↓evE_lenv, ↓evE_meth, ↓evE_sub, ↓evE_subv, ↓evE_slc, ↓evE_list, ↓evE_tup, ↓evE_comp] at hK
  replace hc := inv_tup hc; obtain ⟨_, _, _, rfl, hc⟩ := hc
  · refine Tuple_ (he _ _ φ _ Γ gn env fo base ow A s _ _ hc hK EO AO F ?_)
    intro vs pvs φ1 ow1 h1 tk1 hK1 F1 st1 v1
    refine newTuple_ok (ow := ow1) v1 hK1.1 ?_
    have kp := push_keep h1 (tupObj vs 0)
    have z : sizeLine = 16777216 := rfl
    refine hQ _ (.tup pvs) φ1 ow1 _ tk1 hK1.2 (F1.keeps kp) (st1.trans (.keeps kp)) ?_
    unfold RV VR
    exact ⟨_, vs, 0, rfl, ⟨F1.fresh (get_none_size _), Heap.get?_push_size _ rfl⟩, by have := v1.length; have := hK1.1; lia, (ES.keeps kp).vrs v1⟩
end
end Mine
end
section
namespace Mine

theorem slot_pat_sub : _root_.PySem.Slot "re.Pattern" "sub" "re.Pattern.sub" :=
  .of (owner := "re.Pattern") (n := "sub") (by rw [typeLookup_type, builtinLookup_eq_fast]; kernel_rfl) (by decide +kernel) (by decide +kernel) (by decide +kernel)
    (by first | exact .inl (by decide +kernel) | exact .inr (by decide +kernel)) (by rw [isSubtype_type]; kernel_rfl)
theorem type_pat_sub : typeOf (.builtin "re.Pattern.sub") = pure (.type "method_descriptor") := by show builtinType _ = _; rw [builtinType_eq_fast]; kernel_rfl
theorem plainAttrs_pat : PlainAttrs "re.Pattern" where
  ga := ⟨"object.__getattribute__", by rw [typeLookup_type, builtinLookup_eq_fast]; kernel_rfl, by decide +kernel⟩
  noGetattr := by rw [typeLookup_type, builtinLookup_eq_fast]; kernel_rfl

section
variable {prog : Program} {w : World} {H : Heap} {GT : List (Str × PV)} {n : Nat}

theorem chkEs_plain {Γ : Cx} {gn : List Str} {env : Env} : ∀ {es : Es} {xs : List Expr}, chkEs GT Γ gn es xs = true → starEach xs env = xs.map fun x => (false, eval x env)
  | .nil, [], _ => rfl
  | .nil, _ :: _, h => (Bool.false_ne_true h).elim
  | .cons _ _, [], h => (Bool.false_ne_true h).elim
  | .cons e es, x :: xs, h => by
    obtain ⟨_, _, q, h⟩ := inv_econs h
    cases q
    rw [chkE_notStar h.1, chkEs_plain h.2]; rfl
theorem backTo_plain {pos : Pos} {env : Env} {xs : List Expr} : backTo pos (xs.map fun x => (false, eval x env)) = xs.map fun x => (false, eval x env) := by
  unfold backTo
  rw [List.map_map]
  apply List.map_congr_left
  intro x _
  rfl
theorem plain_any {env : Env} {xs : List Expr} : ((xs.map fun x => (false, eval x env)).any (·.1)) = false := by
  rw [List.any_map, List.any_eq_false]
  intro x _
  simp
theorem plain_all {env : Env} {xs : List Expr} : ((xs.map fun x => (false, eval x env)).all (fun x => !x.1)) = true := by
  rw [List.all_map, List.all_eq_true]
  intro x _
  simp

theorem args_ok {es : Es} (he : SndEs prog w H GT n es) {f : Value} {xs : List Expr} {pos : Pos} {φ : Frame} {K : List PV → Frame → Prop} {Γ : Cx} {gn : List Str} {env : Env} {fo : Addr → Prop} {base : Heap} {ow : Addr → Option Nat} {A : Around} {s : Shared}
    {Q : Args → Shared → Prop} {X : Value → Shared → Prop} (hne : xs.isEmpty = false)
    (hc : chkEs GT Γ gn es xs = true) (hK : evEs GT (Spec prog w H n) es φ K) (EO : EnvOk Γ gn env) (AO : AOk n A) (F : FR H Γ env fo base φ ow s.heap)
    (hQ : ∀ vs pvs φ' ow' h' tk, K pvs φ' → FR H Γ env fo base φ' ow' h' → ES ow s.heap ow' h' → VRs (Fz ow' h') pvs vs → Q ⟨vs, []⟩ { s with heap := h', toks := tk }) :
    wpAny (model prog w) A (evalArgs f true (backTo pos (starEach xs env)) []) Q X s := by
  have h1 := he xs pos φ K Γ gn env fo base ow A s (fun vs s' => Q ⟨vs, []⟩ s') X hc hK EO AO F hQ
  rw [chkEs_plain hc, backTo_plain] at h1 ⊢
  cases xs with
  | nil => cases hne
  | cons x xs => exact Calls.evalArgs_plain h1

theorem callWith_no {f : Value} {first : List Value} {args : List (Bool × Sem Value)} {pos : Pos} {A : Around} {s : Shared} {Q X : Value → Shared → Prop}
    (h : wpAny (model prog w) A (evalArgs f true args []) (fun _ _ => False) X s) : wpAny (model prog w) A (callWith pos f first args []) Q X s := by
  unfold callWith
  exact wpAny_bind (wpAny_holding (wpAny_mono h (fun _ _ e => e.elim) fun _ _ e => e))

theorem app_no {SP : Value → List PV → PV → Prop} {f : PV} {vs : List PV} {K : PV → Prop} (h : app SP f vs K) : (∃ id, f = .raw (.builtin id)) ∨ (∃ T, f = .raw (.type T)) ∨ ∃ a, f = .raw (.ref a) ∧ ∃ r, SP (.ref a) vs r := by
  cases f with
  | raw v => cases v with
    | ref a =>
      obtain ⟨r, h, _⟩ := h
      exact .inr (.inr ⟨_, rfl, r, h⟩)
    | builtin b => exact .inl ⟨_, rfl⟩
    | type t => exact .inr (.inl ⟨_, rfl⟩)
    | _ => exact h.elim
  | _ => exact h.elim

theorem callWith_ok (T : Tops prog w H GT n) {es : Es} (he : SndEs prog w H GT n es) {f : PV} {vf : Value} {xs : List Expr} {pos : Pos} {φ : Frame} {K : PV → Frame → Prop} {Γ : Cx} {gn : List Str} {env : Env} {fo : Addr → Prop} {base : Heap} {ow : Addr → Option Nat} {A : Around} {s : Shared}
    {Q X : Value → Shared → Prop} (hne : xs.isEmpty = false) (hc : chkEs GT Γ gn es xs = true) (hf : VR (Fz ow s.heap) f vf)
    (hK : evEs GT (Spec prog w H n) es φ fun vs φ => app (Spec prog w H n) f vs fun r => K r φ) (EO : EnvOk Γ gn env) (AO : AOk n A) (F : FR H Γ env fo base φ ow s.heap)
    (hQ : EP H RV Γ env fo base ow s K Q) : wpAny (model prog w) A (callWith pos vf [] (backTo pos (starEach xs env)) []) Q X s := by
  have pl : (backTo pos (starEach xs env)).any (·.1) = false := by rw [chkEs_plain hc, backTo_plain]; exact plain_any
  have fin : ∀ {g : Value}, f = .raw g → vf = g → ∀ {vs pvs φ' ow' h' tk}, (app (Spec prog w H n) f pvs fun r => K r φ') → FR H Γ env fo base φ' ow' h' → ES ow s.heap ow' h' → VRs (Fz ow' h') pvs vs →
      wpAny (model prog w) A (call vf vs) Q X { s with heap := h', toks := tk } := by
    intro g e1 e2 vs pvs φ' ow' h' tk k F' st vr
    subst e1 e2
    refine app_ok (ow := ow') k AO F'.now vr ?_
    intro v pv h2 tk2 k2 keep vr2
    exact hQ v pv φ' ow' h2 tk2 k2 (F'.keeps keep) (st.trans (.keeps keep)) vr2
  by_cases h1 : ∃ id, f = .raw (.builtin id)
  · obtain ⟨id, rfl⟩ := h1
    unfold VR at hf
    subst hf
    refine Calls.callWith_builtin pl (args_ok he hne hc hK EO AO F fun vs pvs φ' ow' h' tk k F' st vr => ?_)
    rw [List.nil_append]
    exact fin rfl rfl k F' st vr
  · by_cases h2 : ∃ T, f = .raw (.type T)
    · obtain ⟨id, rfl⟩ := h2
      unfold VR at hf
      subst hf
      refine PySem.callWith_type pl (args_ok he hne hc hK EO AO F fun vs pvs φ' ow' h' tk k F' st vr => ?_)
      rw [List.nil_append]
      exact fin rfl rfl k F' st vr
    · by_cases h3 : ∃ a, f = .raw (.ref a) ∧ ∃ vs r, Spec prog w H n (.ref a) vs r
      · obtain ⟨a, rfl, us, r, hS⟩ := h3
        unfold VR at hf
        subst hf
        obtain ⟨o, fd, ho, hd⟩ := T.fn a us r hS
        refine Calls.callWith_function (o := o) (fd := fd) (args_ok he hne hc hK EO AO F fun vs pvs φ' ow' h' tk k F' st vr => ?_)
        rw [List.nil_append]
        exact ⟨⟨F'.topIn _ _ ho, hd⟩, fin rfl rfl k F' st vr⟩
      · refine callWith_no (args_ok he hne hc hK EO AO F fun vs pvs φ' ow' h' tk k F' st vr => ?_)
        rcases app_no k with q | q | ⟨a, q, r, hr⟩
        · exact h1 q
        · exact h2 q
        · exact h3 ⟨a, q, pvs, r, hr⟩

theorem snd_call (T : Tops prog w H GT n) {f : E} {as : Es} (hf : SndE prog w H GT n f) (ha : SndEs prog w H GT n as) : SndE prog w H GT n (.call f as) := by
  intro ex φ K Γ gn env fo base ow A s Q X hc hK EO AO F hQ
  simp only [↓evE_const, ↓evE_var, ↓evE_glob, ↓evE_bin, ↓evE_cmp, ↓evE_ife, ↓evE_call, ↓evE_lenv, ↓evE_meth, ↓evE_sub, ↓evE_subv, ↓evE_slc, ↓evE_list, ↓evE_tup, ↓evE_comp] at hK
  replace hc := inv_call hc; obtain ⟨_, _, _, rfl, hc⟩ := hc
  · rename_i f' as' pos
    simp only [Bool.and_eq_true, Bool.not_eq_true'] at hc
    obtain ⟨⟨⟨⟨hn, hne⟩, _⟩, c1⟩, c2⟩ := hc
    cases f' with
    | Name x p =>
      refine Call_Name rfl (hf _ φ _ Γ gn env fo base ow A s _ _ c1 hK EO AO F ?_)
      intro va pa φ1 ow1 h1 tk1 hK1 F1 st1 v1
      exact callWith_ok T ha hne c2 v1 hK1 EO AO F1 fun v pv φ' ow' h' tk k F' st' vr => hQ v pv φ' ow' h' tk k F' (st1.trans st') vr
    | _ => cases hn

theorem snd_lenv (T : Tops prog w H GT n) (k i : Nat) : SndE prog w H GT n (.lenv k i) := by
  intro ex φ K Γ gn env fo base ow A s Q X hc hK EO AO F hQ
  simp only [↓evE_const, ↓evE_var, ↓evE_glob, ↓evE_bin, ↓evE_cmp, ↓evE_ife, ↓evE_call, ↓evE_lenv, ↓evE_meth, ↓evE_sub, ↓evE_subv, ↓evE_slc, ↓evE_list, ↓evE_tup, ↓evE_comp] at hK
  replace hc := inv_lenv hc; obtain ⟨_, _, _, _, _, rfl, hc⟩ := hc
  · rename_i f p x p2 pos
    simp only [Bool.and_eq_true] at hc
    obtain ⟨⟨g1, g2⟩, c1⟩ := hc
    have hx := ownAt_spec c1
    split at hK
    · rename_i y xs hg hs
      refine Call_Name rfl ?_
      have cg : chkE GT Γ gn (.glob k) (.Name f p) = true := and_true_of g1 g2
      have eg : evE GT (Spec prog w H n) (.glob k) φ (fun v φ' => v = .raw (.builtin "len") ∧ φ' = φ) := by simp only [↓evE_const, ↓evE_var, ↓evE_glob, ↓evE_bin, ↓evE_cmp, ↓evE_ife, ↓evE_call, ↓evE_lenv, ↓evE_meth, ↓evE_sub, ↓evE_subv, ↓evE_slc, ↓evE_list, ↓evE_tup, ↓evE_comp, hg, and_true]
      refine snd_glob T k _ φ _ Γ gn env fo base ow A s _ _ cg eg EO AO F ?_
      rintro vf pf φ1 ow1 h1 tk1 ⟨rfl, rfl⟩ F1 st1 v1
      unfold RV VR at v1
      subst v1
      refine Calls.callWith_builtin rfl ?_
      refine Calls.evalArgs_plain ?_
      refine wpAny_items_cons (rest := []) (pos := pos) (wpAny_Name (load_own EO F1 hx hs fun a vs m e1 e2 e3 => ?_) (EO.plain _ _ _ hx).1) rfl
      refine wpAny_items_nil ?_
      have := e3.length
      have z : sizeLine = 16777216 := rfl
      refine Calls.call_len_list (items := vs.toArray) ⟨_, e2, rfl, m, rfl⟩ (by simp; lia) ?_
      refine hQ _ (.int xs.length) φ1 ow1 h1 _ hK.2 F1 st1 ?_
      unfold RV VR
      exact ⟨_, by simp [this]; rfl⟩
    · exact hK.elim

theorem meth_ok {o : PV} {m : Str} {T id : String} {vo : Value} {xs : List PV} {vs : List Value} {K : PV → Prop} {A : Around} {s : Shared} {ow : Addr → Option Nat} {Q X : Value → Shared → Prop} (hK : meth (Spec prog w H n) o m xs K)
    (hs : (T = "list" ∧ id = "list.index" ∧ ∃ l, o = .list l) ∨ (T = "re.Pattern" ∧ id = "re.Pattern.sub" ∧ ∃ p, o = .raw p) ∨ (T = "str" ∧ id = strMeth m ∧ ∃ x, o = .str x))
    (hA : AOk n A) (hN : Now H ow s.heap) (ho : VR (Fz ow s.heap) o vo) (hv : VRs (Fz ow s.heap) xs vs) (hQ : OpQ K ow s Q) : wpAny (model prog w) A (call (.builtin id) ([vo] ++ vs)) Q X s := by
  have k0 : ∀ b o, s.heap.get? b = some o → s.heap.get? b = some o := fun _ _ e => e
  have z : sizeLine = 16777216 := rfl
  unfold meth at hK
  split at hK
  · rcases hs with ⟨_, _, l, e⟩ | ⟨rfl, rfl, _⟩ | ⟨_, _, x, e⟩
    · cases e
    rotate_left
    · cases e
    · obtain ⟨_, r, hS, hK⟩ := hK
      refine hS.2 A s ow _ Q X hA hN (VRs.cons' ho hv) ?_
      intro v pv h' tk e keep vr
      subst e
      exact hQ v pv h' tk hK keep vr
  · rcases hs with ⟨rfl, rfl, _⟩ | ⟨_, _, l, e⟩ | ⟨_, _, x, e⟩
    rotate_left
    · cases e
    · cases e
    · obtain ⟨_, ns, hi, hmem, hK⟩ := hK
      rename_i a q1 q2
      unfold VRs at hv
      obtain ⟨va, r, rfl, h1, h2⟩ := hv
      unfold VRs at h2; subst h2
      unfold VR at h1 ho
      obtain ⟨t, rfl⟩ := h1
      obtain ⟨b, us, k, rfl, fz, lz, hs⟩ := ho
      obtain ⟨ps, e1, e2⟩ := ints_of hi hs
      have hsz : us.toArray.size = ns.length := by rw [e1, ← e2]; simp [intItems]
      have hlt : ns.idxOf a < ns.length := List.idxOf_lt_length_of_mem hmem
      have hitem : ∀ j (hj : j < us.toArray.size), ∃ t', us.toArray[j] = .int (ns[j]'(by omega)) t' := by
        intro j hj
        have : (intItems ps)[j]? = some us.toArray[j] := by rw [← e1]; exact Array.getElem?_eq_getElem hj
        obtain ⟨t', ht⟩ := intItems_at this
        refine ⟨t', ?_⟩
        rw [ht]
        congr 1
        have : j < ps.size := by rw [e1] at hj; simpa [intItems] using hj
        simp only [numAt, ← e2]
        simp [this]
      let e : Value → Bool := fun v => match v with | .int i _ => i == a | _ => false
      have he : ∀ y, y ∈ us.toArray → MeetsSeq.EqGives y (.int a t) (e y) := fun y hy => by
        obtain ⟨j, hj, rfl⟩ := Array.mem_iff_getElem.mp hy
        obtain ⟨t', ht⟩ := hitem j hj
        rw [ht]
        exact MeetsSeq.EqGives.int _ _ _ _
      have hz : us.toArray.size ≤ 16777216 := by simp; omega
      refine call_meets PySem.F.slot_list_index ⟨_, fz.2, rfl⟩ PySem.F.entry_list_index (PySem.F.args_list_index_2 _ _)
        (MeetsSeq.list_index b us.toArray k (.int a t) e he (ns.idxOf a) (by omega) (by omega) ?_ ?_) ⟨fz.2, ?_⟩
      · obtain ⟨t', ht⟩ := hitem (ns.idxOf a) (by omega)
        rw [ht]
        show (ns[ns.idxOf a] == a) = true
        simp
      · intro j hj hlt'
        obtain ⟨t', ht⟩ := hitem j hj
        rw [ht]
        show (ns[j] == a) = false
        have := List.not_of_lt_findIdx (p := (· == a)) (xs := ns) (i := j) hlt'
        simpa using this
      · refine hQ _ (.int (ns.idxOf a)) s.heap _ hK k0 ?_
        unfold VR
        exact ⟨_, rfl⟩
  · rcases hs with ⟨_, _, l, e⟩ | ⟨_, _, l, e⟩ | ⟨rfl, rfl, _⟩
    · cases e
    · cases e
    · obtain ⟨_, r, hS, hK⟩ := hK
      refine hS.2 A s ow _ Q X hA hN (VRs.cons' ho hv) ?_
      intro v pv h' tk e keep vr
      subst e
      exact hQ v pv h' tk hK keep vr
  · exact hK.elim

theorem base_plain {o : Expr} {m : Str} {env : Env} (h : plainBase o = true) : attributeBase o m env (eval o env) = eval o env := by
  unfold attributeBase
  split
  · cases h
  · rfl

theorem snd_meth (T : Tops prog w H GT n) {o : E} {m : Str} {as : Es} (ho : SndE prog w H GT n o) (ha : SndEs prog w H GT n as) : SndE prog w H GT n (.meth o m as) := by
  intro ex φ K Γ gn env fo base ow A s Q X hc hK EO AO F hQ
  simp only [↓evE_const, ↓evE_var, ↓evE_glob, ↓evE_bin, ↓evE_cmp, ↓evE_ife, ↓evE_call, ↓evE_lenv, ↓evE_meth, ↓evE_sub, ↓evE_subv, ↓evE_slc, ↓evE_list, ↓evE_tup, ↓evE_comp] at hK
  replace hc := inv_meth hc; obtain ⟨_, _, _, _, _, rfl, hc⟩ := hc
  · rename_i o' m' ap as' p
    simp only [Bool.and_eq_true, Bool.not_eq_true', decide_eq_true_eq, beq_iff_eq] at hc
    obtain ⟨⟨⟨⟨⟨⟨rfl, pb⟩, hline⟩, hne⟩, hlen⟩, c1⟩, c2⟩ := hc
    have pl : ∀ env : Env, (backTo p (starEach as' env)).any (·.1) = false := fun env => by rw [chkEs_plain c2, backTo_plain]; exact plain_any
    refine wpAny_Call_method_lateS (base_plain pb) ?_ (by simpa using hline) (ho _ φ _ Γ gn env fo base ow A s _ _ c1 hK EO AO F ?_)
    · rw [chkEs_plain c2, backTo_plain, plain_all]
      simp [backToKw, keywordEach]; lia
    intro va pa φ1 ow1 h1 tk1 hK1 F1 st1 v1
    obtain ⟨mk, hK1⟩ := hK1
    have fin : ∀ {Tn id : String}, ((Tn = "list" ∧ id = "list.index" ∧ ∃ l, pa = .list l) ∨ (Tn = "re.Pattern" ∧ id = "re.Pattern.sub" ∧ ∃ q, pa = .raw q) ∨ (Tn = "str" ∧ id = strMeth m ∧ ∃ x, pa = .str x)) →
        wpAny (model prog w) A (callWith p (.builtin id) [va] (backTo p (starEach as' env)) []) Q X { s with heap := h1, toks := tk1 } := by
      intro Tn id hs
      refine Calls.callWith_builtin (pl env) (args_ok ha hne c2 hK1 EO AO F1 fun vs pvs φ' ow' h' tk k F' st vr => ?_)
      refine meth_ok (ow := ow') k hs AO F'.now (st.vr v1) vr ?_
      intro v pv h2 tk2 k2 keep vr2
      exact hQ v pv φ' ow' h2 tk2 k2 (F'.keeps keep) ((st1.trans st).trans (.keeps keep)) vr2
    unfold methOk at mk
    split at mk
    · rename_i m q
      obtain ⟨rfl, vs, r, hS⟩ := mk
      obtain ⟨a, o, rfl, ho, hcl, hd⟩ := T.pat q vs r hS
      unfold RV VR at v1
      subst v1
      refine ⟨"re.Pattern", "re.Pattern.sub", plainAttrs_pat, slot_pat_sub, type_pat_sub, ⟨o, F1.topIn _ _ ho, hcl⟩, fun b e => ?_, fin (Tn := "re.Pattern") (.inr (.inl ⟨rfl, rfl, _, rfl⟩))⟩
      cases e
      exact ⟨o, F1.topIn _ _ ho, hd⟩
    · subst mk
      have v1' := v1
      unfold RV VR at v1'
      obtain ⟨b, us, k, rfl, fz, lz, hs⟩ := v1'
      refine ⟨"list", "list.index", PySem.F.plainAttrs_list, PySem.F.slot_list_index, PySem.F.type_list_index, ⟨_, fz.2, rfl⟩, fun b e => ?_, fin (Tn := "list") (.inl ⟨rfl, rfl, _, rfl⟩)⟩
      cases e
      exact ⟨_, fz.2, rfl⟩
    · have v1' := v1
      unfold RV VR at v1'
      obtain ⟨t, rfl, _⟩ := v1'
      rcases mk with rfl | rfl
      · exact ⟨"str", "str.join", PySem.F.plainAttrs_str, PySem.F.slot_str_join, PySem.F.type_str_join, typeIs_str _ _ _, (fun b e => by cases e), fin (Tn := "str") (id := "str.join") (.inr (.inr ⟨rfl, by decide, _, rfl⟩))⟩
      · exact ⟨"str", "str.split", PySem.F.plainAttrs_str, PySem.F.slot_str_split, PySem.F.type_str_split, typeIs_str _ _ _, (fun b e => by cases e), fin (Tn := "str") (id := "str.split") (.inr (.inr ⟨rfl, by decide, _, rfl⟩))⟩
    · exact mk.elim

theorem ns_uniq {h : Heap} {L : Addr} {m m' : Str → Option Value} (x : h.Ns L m) (y : h.Ns L m') (k : Str) : m k = m' k := by
  obtain ⟨o, es, ep, ho, hd, _, hf⟩ := x
  obtain ⟨o', es', ep', ho', hd', _, hf'⟩ := y
  rw [ho] at ho'; cases ho'
  rw [hd] at hd'; cases hd'
  rw [← hf, hf']

theorem load_own_at {Γ : Cx} {gn : List Str} {env : Env} {fo : Addr → Prop} {base : Heap} {φ : Frame} {ow : Addr → Option Nat} {A : Around} {s : Shared} {X : Value → Shared → Prop} {i : Nat} {x : Str} {xs : List PV} {Q : Value → Shared → Prop}
    (O : EnvOk Γ gn env) (F : FR H Γ env fo base φ ow s.heap) (hx : Γ[i]? = some (x, .loc)) (hs : φ[i]? = some (.own xs))
    (h : ∀ a vs n, (∃ m, s.heap.Ns env.locals m ∧ m x = some (.ref a)) → ow a = some (i + 3) → s.heap.get? a = some (listObj vs n) → VRs (Fz ow s.heap) xs vs → Q (.ref a) s) : wpAny (model prog w) A (loadName env x) Q X s := by
  have hk := O.kinds i x _ hx
  obtain ⟨m, hm, hsl⟩ := F.ns
  have q := hsl i x hx
  rw [hs] at q
  obtain ⟨a, vs, n, e1, e2, e3, e4⟩ := q
  exact wpAny_loadName_local O.fn (by simpa [kindFits] using hk) hm e1 (h a vs n ⟨m, hm, e1⟩ e2 e3 e4)
theorem own_same {Γ : Cx} {env : Env} {fo : Addr → Prop} {base : Heap} {φ : Frame} {ow : Addr → Option Nat} {h : Heap} {i : Nat} {x : Str} {xs : List PV} {a : Addr} {vs : List Value} {k : Nat}
    (F : FR H Γ env fo base φ ow h) (hx : Γ[i]? = some (x, .loc)) (hs : φ[i]? = some (.own xs)) (hm : ∃ m, h.Ns env.locals m ∧ m x = some (.ref a)) (ho : h.get? a = some (listObj vs k)) :
    ow a = some (i + 3) ∧ h.get? a = some (listObj vs k) ∧ VRs (Fz ow h) xs vs := by
  obtain ⟨m, h1, h2⟩ := hm
  obtain ⟨m', h1', hsl⟩ := F.ns
  have q := hsl i x hx
  rw [hs] at q
  obtain ⟨a', vs', n, e1, e2, e3, e4⟩ := q
  rw [← ns_uniq h1 h1' x, h2] at e1
  cases e1
  rw [ho] at e3
  have : vs = vs' := by
    have := congrArg (fun o : Option Obj => o.map (·.data)) e3
    simp at this
    exact this.1
  subst this
  exact ⟨e2, ho, e4⟩

theorem snd_subv {j : Nat} {i : E} (hi : SndE prog w H GT n i) : SndE prog w H GT n (.subv j i) := by
  intro ex φ K Γ gn env fo base ow A s Q X hc hK EO AO F hQ
  simp only [↓evE_const, ↓evE_var, ↓evE_glob, ↓evE_bin, ↓evE_cmp, ↓evE_ife, ↓evE_call, ↓evE_lenv, ↓evE_meth, ↓evE_sub, ↓evE_subv, ↓evE_slc, ↓evE_list, ↓evE_tup, ↓evE_comp] at hK
  replace hc := inv_subv hc; obtain ⟨_, _, _, _, rfl, hc⟩ := hc
  · rename_i x p i' pos
    simp only [Bool.and_eq_true] at hc
    obtain ⟨c1, c2⟩ := hc
    have hx := ownAt_spec c1
    split at hK
    · rename_i xs hs
      refine Subscript_ (wpAny_Name (load_own_at EO F hx hs fun a vs m e0 e1 e2 e3 => ?_) (EO.plain _ _ _ hx).1)
      refine hi _ φ _ Γ gn env fo base ow A _ _ _ c2 hK EO AO F ?_
      intro vb pb φ2 ow2 h2 tk2 hK2 F2 st2 v2
      obtain ⟨hs2, hz, k, y, rfl, hk0, hy, hK2⟩ := hK2
      obtain ⟨o1, o2, o3⟩ := own_same F2 hx hs2 (e0.imp fun q ⟨q1, q2⟩ => ⟨q1.keeps st2.keep, q2⟩) (st2.keep _ _ e2)
      obtain ⟨v, hv, vr⟩ := o3.get hy
      have z : sizeLine = 16777216 := rfl
      unfold RV VR at v2
      obtain ⟨t, rfl⟩ := v2
      have hl := o3.length
      have hlt : k.toNat < vs.length := by
        rcases Nat.lt_or_ge k.toNat vs.length with q | q
        · exact q
        · rw [List.getElem?_eq_none q] at hv; cases hv
      refine tail_ok ⟨_, o2, rfl⟩ slot_list_getitem.lookup (wpAny_getItem_list (items := vs.toArray) ⟨_, o2, rfl, m, rfl⟩ hk0 (by lia) (by simpa using hv) ?_)
      exact hQ v y φ2 ow2 h2 tk2 hK2 F2 st2 vr
    · exact hK.elim

/-! tests -/
theorem t_value {e : Expr} {env : Env} {A : Around} {s : Shared} {Q : Bool → Shared → Prop} {X : Value → Shared → Prop} (he : ∃ f as ks p, e = .Call f as ks p)
    (h : wpAny (model prog w) A (eval e env) (fun v s₁ => wpAny (model prog w) A (truthy v) Q X s₁) X s) : wpAny (model prog w) A (isTrue e env (eval e env)) Q X s := by
  obtain ⟨f, as, ks, p, rfl⟩ := he
  exact wpAny_isTrue_value h rfl

theorem sndT_cmp {op : CmpOp} {l r : E} (hl : SndE prog w H GT n l) (hr : SndE prog w H GT n r) : SndT prog w H GT n (.cmp op l r) := by
  intro ex φ K Γ gn env fo base ow A s Q X hc hK EO AO F hQ
  simp only [↓evT_cmp, ↓evT_call, ↓evT_const, ↓evT_var, ↓evT_glob, ↓evT_bin, ↓evT_ife, ↓evT_lenv, ↓evT_meth, ↓evT_sub, ↓evT_subv, ↓evT_slc, ↓evT_list, ↓evT_tup, ↓evT_comp] at hK
  replace hc := inv_cmp hc; obtain ⟨_, _, _, _, rfl, hc⟩ := hc
  · simp only [Bool.and_eq_true, decide_eq_true_eq] at hc
    obtain ⟨⟨⟨rfl, ns⟩, c1⟩, c2⟩ := hc
    refine wpAny_isTrue_Compare1 (hl _ φ _ Γ gn env fo base ow A s _ _ c1 hK EO AO F ?_) (notSet_mark ns)
    intro va pa φ1 ow1 h1 tk1 hK1 F1 st1 v1
    refine hr _ φ1 _ Γ gn env fo base ow1 A _ _ _ c2 hK1 EO AO F1 ?_
    intro vb pb φ2 ow2 h2 tk2 hK2 F2 st2 v2
    refine cmpop_ok (ow := ow2) hK2 (st2.vr v1) v2 (by have := AO.un; lia) fun c hc => ?_
    exact wpAny_truthy_bool (hQ _ φ2 ow2 h2 tk2 hc F2 (st1.trans st2))
theorem sndT_call (T : Tops prog w H GT n) {f : E} {as : Es} (hf : SndE prog w H GT n f) (ha : SndEs prog w H GT n as) : SndT prog w H GT n (.call f as) := by
  intro ex φ K Γ gn env fo base ow A s Q X hc hK EO AO F hQ
  simp only [↓evT_cmp, ↓evT_call, ↓evT_const, ↓evT_var, ↓evT_glob, ↓evT_bin, ↓evT_ife, ↓evT_lenv, ↓evT_meth, ↓evT_sub, ↓evT_subv, ↓evT_slc, ↓evT_list, ↓evT_tup, ↓evT_comp] at hK
  have hK' : evE GT (Spec prog w H n) (.call f as) φ fun r φ => ∃ b, r = .bool b ∧ K b φ := by simp only [↓evE_const, ↓evE_var, ↓evE_glob, ↓evE_bin, ↓evE_cmp, ↓evE_ife, ↓evE_call, ↓evE_lenv, ↓evE_meth, ↓evE_sub, ↓evE_subv, ↓evE_slc, ↓evE_list, ↓evE_tup, ↓evE_comp]; exact hK
  have hform : ∃ f as ks p, ex = .Call f as ks p := by
    obtain ⟨_, _, _, rfl, _⟩ := inv_call hc
    exact ⟨_, _, _, _, rfl⟩
  refine t_value hform (snd_call T hf ha _ φ _ Γ gn env fo base ow A s _ _ hc hK' EO AO F ?_)
  intro v pv φ' ow' h' tk k F' st vr
  obtain ⟨b, rfl, k⟩ := k
  unfold RV VR at vr
  subst vr
  exact wpAny_truthy_bool (hQ _ φ' ow' h' tk k F' st)
theorem sndT_no {e : E} (h : ∀ φ K, evT GT (Spec prog w H n) e φ K → False) : SndT prog w H GT n e := by
  intro ex φ K Γ gn env fo base ow A s Q X hc hK EO AO F hQ
  exact (h φ K hK).elim
end
end Mine
end
section
namespace Mine

theorem extBut_keeps {h h' : Heap} (x : Heap.ExtBut h.objs.size h h') : ∀ b o, h.get? b = some o → h'.get? b = some o := fun b o e => x b o (Nat.ne_of_lt (Heap.lt_size e)) e

theorem setAt_spec {Γ : Cx} {i : Nat} {x : Str} (h : setAt Γ i x = true) : ∃ k, Γ[i]? = some (x, k) ∧ k ≠ .fre := by
  unfold setAt at h
  split at h
  · rename_i y k e
    simp only [Bool.and_eq_true, beq_iff_eq, bne_iff_ne] at h
    obtain ⟨rfl, h2⟩ := h
    exact ⟨k, e, h2⟩
  · cases h

section
variable {prog : Program} {w : World} {H : Heap}

theorem assignMany {Γ : Cx} {gn : List Str} {env : Env} {fo : Addr → Prop} {base : Heap} {ow : Addr → Option Nat} {A : Around} {X : Value → Shared → Prop} (EO : EnvOk Γ gn env) :
    ∀ (is : List Nat) (es : List Expr) (xs : List PV) (vs : List Value) (φ : Frame) (s : Shared) (Q : Unit → Shared → Prop), is.length = es.length → ((is.zip es).all fun p => tgAt Γ p) = true →
      xs.length = is.length → VRs (Fz ow s.heap) xs vs → FR H Γ env fo base φ ow s.heap →
      (∀ h' tk, FR H Γ env fo base (setAll φ is xs) ow h' → Le ow s.heap ow h' → Q () { s with heap := h', toks := tk }) →
      wpAny (model prog w) A (assignInOrder ((assignEach es env).map (·.2)) vs) Q X s
  | [], [], xs, vs, φ, s, Q, _, _, hl, hv, F, hQ => by
    have : xs = [] := List.eq_nil_of_length_eq_zero hl
    subst this
    unfold VRs at hv; subst hv
    exact wpAny_pure (hQ s.heap s.toks (by simpa [setAll] using F) (.refl ..))
  | [], _ :: _, _, _, _, _, _, h, _, _, _, _, _ => by simp at h
  | _ :: _, [], _, _, _, _, _, h, _, _, _, _, _ => by simp at h
  | i :: is, e :: es, [], vs, φ, s, Q, _, _, hl, _, _, _ => by simp at hl
  | i :: is, e :: es, x :: xs, vs, φ, s, Q, h, hc, hl, hv, F, hQ => by
    unfold VRs at hv
    obtain ⟨v, r, rfl, h1, h2⟩ := hv
    simp only [List.zip_cons_cons, List.all_cons, Bool.and_eq_true] at hc
    obtain ⟨c1, c2⟩ := hc
    cases e with
    | Name nm p =>
      obtain ⟨k, hx, hk⟩ := setAt_spec c1
      show wpAny (model prog w) A (do holding r (assign (.Name nm p) env v); assignInOrder ((assignEach es env).map (·.2)) r) Q X s
      refine wpAny_bind (wpAny_holding (wpAny_assign_Name (store_val EO F hx hk h1 fun h' tk F' l => ?_)))
      refine assignMany EO is es xs r _ _ Q (by simpa using h) c2 (by simpa using hl) (l.vrs h2) F' fun h2 tk2 F2 l2 => ?_
      exact hQ h2 tk2 F2 (l.trans l2)
    | _ => exact (Bool.false_ne_true c1).elim

theorem assignEach_names {Γ : Cx} {env : Env} : ∀ (is : List Nat) (es : List Expr), is.length = es.length → ((is.zip es).all fun p => tgAt Γ p) = true →
    (assignEach es env).length = es.length ∧ (assignEach es env).findIdx? (·.1) = none
  | [], [], _, _ => ⟨rfl, rfl⟩
  | [], _ :: _, h, _ => by simp at h
  | _ :: _, [], h, _ => by simp at h
  | i :: is, e :: es, h, hc => by
    simp only [List.zip_cons_cons, List.all_cons, Bool.and_eq_true] at hc
    obtain ⟨c1, c2⟩ := hc
    obtain ⟨h1, h2⟩ := assignEach_names (env := env) is es (by simpa using h) c2
    cases e with
    | Name nm p =>
      have e1 : assignEach (.Name nm p :: es) env = (false, assign (.Name nm p) env) :: assignEach es env := rfl
      rw [e1]
      refine ⟨by simp [h1], ?_⟩
      rw [List.findIdx?_cons]
      simp [h2]
    | _ => exact (Bool.false_ne_true c1).elim

theorem asg_ok {t : Tg} {t' : Expr} {v : PV} {val : Value} {Γ : Cx} {gn : List Str} {env : Env} {fo : Addr → Prop} {base : Heap} {φ : Frame} {ow : Addr → Option Nat} {A : Around} {s : Shared} {K : Frame → Prop} {Q : Unit → Shared → Prop} {X : Value → Shared → Prop}
    (hc : chkT Γ t t' = true) (hK : asg t v φ K) (EO : EnvOk Γ gn env) (hh : A.handled = none) (F : FR H Γ env fo base φ ow s.heap) (hv : VR (Fz ow s.heap) v val)
    (hQ : ∀ φ' h' tk, K φ' → FR H Γ env fo base φ' ow h' → Le ow s.heap ow h' → Q () { s with heap := h', toks := tk }) : wpAny (model prog w) A (assign t' env val) Q X s := by
  cases t with
  | one i =>
    replace hc := inv_one hc; obtain ⟨_, _, rfl, hc⟩ := hc
    obtain ⟨k, hx, hk⟩ := setAt_spec hc
    exact wpAny_assign_Name (store_val EO F hx hk hv fun h' tk F' l => hQ _ h' tk hK F' l)
  | many is =>
    replace hc := inv_many hc; obtain ⟨es, k, p, rfl, hc⟩ := hc
    simp only [Bool.and_eq_true, beq_iff_eq] at hc
    obtain ⟨c1, c2⟩ := hc
    obtain ⟨xs, hx, hl, hK⟩ := hK
    obtain ⟨a1, a2⟩ := assignEach_names (env := env) is es c1 c2
    rcases hx with rfl | rfl
    · unfold VR at hv
      obtain ⟨a, vs, m, rfl, fz, lz, hs⟩ := hv
      show wpAny (model prog w) A (do standAt p; unpack (.ref a) (assignEach es env)) Q X s
      refine wpAny_bind (wpAny_standAt ?_)
      unfold unpack
      rw [a2]
      have hlen := hs.length
      refine wpAny_bind (wpAny_holding ?_)
      have hn : (assignEach es env).length = vs.toArray.size := by simp; lia
      rw [hn]
      refine kun_itemsOf hh ⟨_, fz.2, rfl, m, rfl⟩ fun h' hx => ?_
      have kp := extBut_keeps hx
      have := assignMany (prog := prog) (w := w) (A := A) (X := X) EO is es xs vs φ { s with heap := h' } Q c1 c2 hl ((ES.keeps kp).vrs hs) (F.keeps kp) fun h2 tk2 F2 l2 => hQ _ h2 tk2 hK F2 ((Le.keeps kp).trans l2)
      simpa using this
    · unfold VR at hv
      obtain ⟨a, vs, m, rfl, fz, lz, hs⟩ := hv
      have hlen := hs.length
      refine wpAny_assign_Tuple (items := vs.toArray) hh ⟨_, fz.2, rfl, m, rfl⟩ (by simp; lia) a2 fun h' hx => ?_
      have kp := extBut_keeps hx
      have := assignMany (prog := prog) (w := w) (A := A) (X := X) EO is es xs vs φ { s with heap := h' } Q c1 c2 hl ((ES.keeps kp).vrs hs) (F.keeps kp) fun h2 tk2 F2 l2 => hQ _ h2 tk2 hK F2 ((Le.keeps kp).trans l2)
      simpa using this
end
end Mine
end
section
namespace Mine

/-! closures and cells -/
theorem closureFor_go {env : Env} (get : Str → Option Addr) (hg : ∀ x, get x = env.cells.lookup x) : ∀ (names : List (Str × NameKind)) (cs : List (Str × Addr)),
    (∀ x ∈ names, x.2 = .free → (get x.1).isSome = true) →
    ∃ cl, (forIn names cs fun (x : Str × NameKind) cs => (if x.2 == .free then (do let c ← cellOf env x.1; pure (ForInStep.yield ((x.1, c) :: cs))) else pure (ForInStep.yield cs) : Sem (ForInStep (List (Str × Addr))))) = pure cl ∧
      (∀ x, (∃ k, (x, k) ∈ names ∧ k = NameKind.free) → cl.lookup x = get x) ∧ (∀ x, (¬ ∃ k, (x, k) ∈ names ∧ k = NameKind.free) → cl.lookup x = cs.lookup x)
  | [], cs, _ => ⟨cs, rfl, fun x ⟨k, h, _⟩ => by simp at h, fun _ _ => rfl⟩
  | (x, k) :: r, cs, h => by
    by_cases hk : k = .free
    · subst hk
      obtain ⟨c, hc⟩ := Option.isSome_iff_exists.mp (h (x, .free) List.mem_cons_self rfl)
      obtain ⟨cl, e1, e2, e3⟩ := closureFor_go get hg r ((x, c) :: cs) fun y hy => h y (List.mem_cons_of_mem _ hy)
      refine ⟨cl, ?_, fun y hy => ?_, fun y hy => ?_⟩
      · rw [List.forIn_cons]
        have hco : cellOf env x = pure c := by unfold cellOf; rw [← hg x, hc]
        simp only [beq_self_eq_true, if_true, hco, pure_bind]
        exact e1
      · by_cases hr : ∃ k, (y, k) ∈ r ∧ k = NameKind.free
        · exact e2 y hr
        · rw [e3 y hr]
          obtain ⟨k', h1, h2⟩ := hy
          rcases List.mem_cons.mp h1 with e | h1
          · cases e; simp [hc]
          · exact absurd ⟨k', h1, h2⟩ hr
      · have hr : ¬ ∃ k, (y, k) ∈ r ∧ k = NameKind.free := fun ⟨k', h1, h2⟩ => hy ⟨k', List.mem_cons_of_mem _ h1, h2⟩
        rw [e3 y hr]
        have hne : y ≠ x := fun e => hy ⟨.free, by rw [e]; exact List.mem_cons_self, rfl⟩
        rw [List.lookup_cons]
        rw [show (y == x) = false from by simpa using hne]
    · obtain ⟨cl, e1, e2, e3⟩ := closureFor_go get hg r cs fun y hy => h y (List.mem_cons_of_mem _ hy)
      have hk' : (k == NameKind.free) = false := by cases k <;> first | rfl | exact absurd rfl hk
      refine ⟨cl, ?_, fun y hy => ?_, fun y hy => ?_⟩
      · rw [List.forIn_cons]
        simp only [hk', Bool.false_eq_true, if_false, pure_bind]
        exact e1
      · obtain ⟨k', h1, h2⟩ := hy
        rcases List.mem_cons.mp h1 with e | h1
        · cases e; exact absurd h2 hk
        · exact e2 y ⟨k', h1, h2⟩
      · exact e3 y fun ⟨k', h1, h2⟩ => hy ⟨k', List.mem_cons_of_mem _ h1, h2⟩
theorem closureFor_ok {scope : Scope} {env : Env} (h : ∀ x ∈ scope.names, x.2 = .free → (env.cells.lookup x.1).isSome = true) :
    ∃ cl, closureFor scope env = pure cl ∧ ∀ x, (x, NameKind.free) ∈ scope.names → cl.lookup x = env.cells.lookup x := by
  obtain ⟨cl, e1, e2, _⟩ := closureFor_go (env := env) (fun x => env.cells.lookup x) (fun _ => rfl) scope.names [] h
  refine ⟨cl, ?_, fun x hx => e2 x ⟨_, hx, rfl⟩⟩
  unfold closureFor
  rw [← e1]
  simp only [bind_pure]

theorem cellsFrom_other {x : Str} : ∀ (names : List (Str × NameKind)) (n : Nat) (acc : List (Str × Addr)), (x, NameKind.cell) ∉ names → (cellsFrom n names acc).lookup x = acc.lookup x
  | [], _, _, _ => rfl
  | (y, k) :: r, n, acc, h => by
    have hr : (x, NameKind.cell) ∉ r := fun q => h (List.mem_cons_of_mem _ q)
    unfold cellsFrom
    split
    · rename_i hk
      rw [cellsFrom_other r _ _ hr]
      have hk' : k = .cell := by simpa using hk
      subst hk'
      have hne : x ≠ y := fun e => h (by rw [e]; exact List.mem_cons_self)
      rw [List.lookup_cons, show (x == y) = false from by simpa using hne]
    · exact cellsFrom_other r _ _ hr
theorem pushCells_size : ∀ (names : List (Str × NameKind)) (h : Heap), h.objs.size ≤ (pushCells h names).objs.size
  | [], _ => Nat.le_refl _
  | (_, k) :: r, h => by
    unfold pushCells
    split
    · exact Nat.le_trans (by rw [Heap.size_push]; lia) (pushCells_size r _)
    · exact pushCells_size r h
theorem cellsFrom_own : ∀ (names : List (Str × NameKind)) (h : Heap) (acc : List (Str × Addr)) {x : Str}, (x, NameKind.cell) ∈ names →
    ∃ c, (cellsFrom h.objs.size names acc).lookup x = some c ∧ h.objs.size ≤ c ∧ (pushCells h names).IsCell c none ∧
      ∀ y c', y ≠ x → (y, NameKind.cell) ∈ names → (cellsFrom h.objs.size names acc).lookup y = some c' → c' ≠ c
  | [], _, _, _, hm => by simp at hm
  | (z, k) :: r, h, acc, x, hm => by
    unfold cellsFrom pushCells
    by_cases hk : k = .cell
    · subst hk
      simp only [beq_self_eq_true, if_true]
      have hsz : (h.push { cls := .type "cell", data := .cell none }).objs.size = h.objs.size + 1 := Heap.size_push ..
      by_cases hxr : (x, NameKind.cell) ∈ r
      · have ih := cellsFrom_own r (h.push { cls := .type "cell", data := .cell none }) ((z, h.objs.size) :: acc) hxr
        rw [hsz] at ih
        obtain ⟨c, e1, e2, e3, e4⟩ := ih
        refine ⟨c, e1, by lia, e3, fun y c' hy hm' hl => ?_⟩
        by_cases hyr : (y, NameKind.cell) ∈ r
        · exact e4 y c' hy hyr hl
        · rw [cellsFrom_other r _ _ hyr] at hl
          rcases List.mem_cons.mp hm' with e | q
          · cases e
            rw [List.lookup_cons_self] at hl
            cases hl; exact Nat.ne_of_lt e2
          · exact absurd q hyr
      · have hz : x = z := by
          rcases List.mem_cons.mp hm with e | q
          · cases e; rfl
          · exact absurd q hxr
        subst hz
        refine ⟨h.objs.size, ?_, Nat.le_refl _, ⟨_, pushCells_keeps r _ _ _ (Heap.get?_push_size _ rfl), rfl⟩, fun y c' hy hm' hl => ?_⟩
        · rw [cellsFrom_other r _ _ hxr, List.lookup_cons_self]
        · have hyr : (y, NameKind.cell) ∈ r := by
            rcases List.mem_cons.mp hm' with e | q
            · cases e; exact absurd rfl hy
            · exact q
          have ih := cellsFrom_own r (h.push { cls := .type "cell", data := .cell none }) ((x, h.objs.size) :: acc) hyr
          rw [hsz] at ih
          obtain ⟨c, e1, e2, _⟩ := ih
          rw [hl] at e1; cases e1; exact Nat.ne_of_gt e2
    · have hk' : (k == NameKind.cell) = false := by cases k <;> first | rfl | exact absurd rfl hk
      simp only [hk', Bool.false_eq_true, if_false]
      have hxr : (x, NameKind.cell) ∈ r := by
        rcases List.mem_cons.mp hm with e | q
        · cases e; exact absurd rfl hk
        · exact q
      obtain ⟨c, e1, e2, e3, e4⟩ := cellsFrom_own r h acc hxr
      refine ⟨c, e1, e2, e3, fun y c' hy hm' hl => e4 y c' hy ?_ hl⟩
      rcases List.mem_cons.mp hm' with e | q
      · cases e; exact absurd rfl hk
      · exact q

section
variable {M : Model} {A : Around} {E : Value → Shared → Prop} {s : Shared}
theorem newEnv_ok {scope : Scope} {globals : Addr} {cl : List (Str × Addr)} {qual : Str} {outer : Env} {Q : Env → Shared → Prop}
    (h : Q { scope, locals := s.heap.objs.size, globals, cells := cellsFrom (s.heap.objs.size + 1) scope.names cl, qual, func := none, code := outer.code, frame := outer.frame, builtins := outer.builtins }
      { s with heap := pushCells (s.heap.push { cls := .type "dict", data := .dict #[] }) scope.names }) :
    wpAny M A (newFunctionEnv scope globals cl [] qual none .none (some outer)) Q E s := by
  simp only [newFunctionEnv, Option.isSome_some, if_true]
  refine wpAny_bind (wpAny_alloc ?_)
  refine wpAny_bind (wpAny_layCells _ (fun name kind cells => by cases hkc : kind == NameKind.cell <;> simp [hkc]) _ _ _ _ ?_)
  rw [show ({ s with heap := s.heap.push { cls := .type "dict", data := .dict #[] } } : Shared).heap.objs.size = s.heap.objs.size + 1 from Heap.size_push ..]
  rw [List.forIn_nil]
  exact wpAny_bind (wpAny_pure (wpAny_pure h))
end
end Mine
end
section
namespace Mine

noncomputable def innerOf (e : Expr) (elt : Expr) (gens : List Comprehension) (d : Nat) (acc : Value) (env : Env) : Sem Unit := match gens[d + 1]? with
  | some g' => do
    let x ← eval g'.iter env
    standAt g'.iter.pos
    let x ← foldedSetIterable g'.iter env x
    let it ← holding [x] (pyIter x)
    let _ ← runOwn (.compStart e (d + 1) it acc env) env
  | none => do let _ ← call (.builtin "list.append") [acc, ← eval elt env]

theorem compTurn_gen {elt : Expr} {gens : List Comprehension} {scope : Scope} {pos : Pos} {d : Nat} {it acc : Value} {env : Env} {t iter : Expr} {ifs : List Expr} (hg : gens[d]? = some ⟨t, iter, ifs, 0⟩)
    (hn : ∀ g', gens[d + 1]? = some g' → g'.is_async = 0) :
    compTurn (.ListComp elt gens scope pos) d it acc env = (do
      standAt iter.pos
      match ← pyNext it with
      | none => pure (.done .next)
      | some v =>
        letOwnedTupleGo t it v
        assign t env v
        let ok ← forIn ifs true fun c r => if r = true then do let ok ← isTrue c env (eval c env); pure (ForInStep.yield ok) else pure (ForInStep.yield r)
        if ok then innerOf (.ListComp elt gens scope pos) elt gens d acc env
        again (.compLoop (.ListComp elt gens scope pos) d it acc env)) := by
  unfold compTurn innerOf
  simp only [hg]
  cases q : gens[d + 1]? with
  | none =>
    simp only [bind_assoc, pure_bind]
    rfl
  | some g' =>
    have h0 := hn g' q
    simp only [h0, bind_assoc, pure_bind]
    rfl

section
variable {prog : Program} {w : World} {A : Around} {s : Shared}

theorem comp_loop {elt : Expr} {gens : List Comprehension} {scope : Scope} {pos : Pos} {d : Nat} {it acc : Value} {env : Env} {t iter : Expr} {ifs : List Expr} {R : Result → Shared → Prop} (hg : gens[d]? = some ⟨t, iter, ifs, 0⟩) (hn : ∀ g', gens[d + 1]? = some g' → g'.is_async = 0) (I : Nat → Shared → Prop)
    (turn : ∀ n s, I n s → wpAny (model prog w) A (pyNext it) (fun r s₁ => match r with
      | none => R (.ok .next) s₁
      | some v => wpAny (model prog w) A (letOwnedTupleGo t it v) (fun _ s₂ => wpAny (model prog w) A (assign t env v) (fun _ s₃ =>
          wpAny (model prog w) A (forIn ifs true fun c r => if r = true then do let ok ← isTrue c env (eval c env); pure (ForInStep.yield ok) else pure (ForInStep.yield r)) (fun ok s₄ =>
            if ok = true then wpAny (model prog w) A (innerOf (.ListComp elt gens scope pos) elt gens d acc env) (fun _ s₅ => ∃ m, m < n ∧ I m s₅) (fun _ _ => False) s₄
            else ∃ m, m < n ∧ I m s₄) (fun _ _ => False) s₃) (fun _ _ => False) s₂) (fun _ _ => False) s₁) (fun _ _ => False) s)
    (n : Nat) (h : I n s) : codeAny (model prog w) A (.compLoop (.ListComp elt gens scope pos) d it acc env) R s := by
  refine codeAny_loop rfl I (fun n s hI => ?_) n h
  show wpAny _ A ((compTurn (.ListComp elt gens scope pos) d it acc env).onRaise (fun x => do noteFrame x env; theTreesLotGoes x)) _ _ s
  refine wpAny_noted ?_
  rw [compTurn_gen hg hn]
  refine wpAny_bind (wpAny_standAt (wpAny_bind (wpAny_mono (turn n s hI) (fun r s₁ h₁ => ?_) fun _ _ h' => h'.elim)))
  cases r with
  | none => exact wpAny_pure h₁
  | some v =>
    refine wpAny_bind (wpAny_mono h₁ (fun _ s₂ h₂ => wpAny_bind (wpAny_mono h₂ (fun _ s₃ h₃ => wpAny_bind (wpAny_mono h₃ (fun ok s₄ h₄ => ?_) fun _ _ h' => h'.elim)) fun _ _ h' => h'.elim)) fun _ _ h' => h'.elim)
    cases ok with
    | false => exact wpAny_pure ⟨rfl, h₄⟩
    | true => exact wpAny_bind (wpAny_mono h₄ (fun _ s₅ h₅ => wpAny_pure ⟨rfl, h₅⟩) fun _ _ h' => h'.elim)

theorem letGo_ok {t : Expr} {I : Addr} {v : Value} {o : Obj} {T : String} {Q : Unit → Shared → Prop} {X : Value → Shared → Prop} (ho : s.heap.get? I = some o) (hc : o.cls = .type T) (hT : pairIters.contains T = false) (h : Q () s) :
    wpAny (model prog w) A (letOwnedTupleGo t (.ref I) v) Q X s := by
  unfold letOwnedTupleGo
  cases t <;> first
    | exact wpAny_pure h
    | (cases v <;> first
        | exact wpAny_pure h
        | (refine wpAny_bind (wpAny_load ho ?_)
           rw [hc]
           cases o.data <;> first
             | exact wpAny_pure h
             | (dsimp only
                rw [show (["enumerate", "zip", "dict_itemiterator", "dict_reverseitemiterator", "odict_iterator", "itertools.zip_longest", "itertools.pairwise"] : List String).contains T = false from hT]
                simp only [Bool.false_and, Bool.false_eq_true, if_false]
                exact wpAny_pure h)))
end

noncomputable def AccR (ow : Addr → Option Nat) (h : Heap) (D : Addr) (acc : List PV) : Prop := ow D = some 2 ∧ ∃ vs k, h.get? D = some (listObj vs k) ∧ VRs (Fz ow h) acc vs
structure LeX (S : Addr → Prop) (ow : Addr → Option Nat) (h : Heap) (ow' : Addr → Option Nat) (h' : Heap) : Prop extends Le0 ow h ow' h' where
  two : ∀ a o, ¬ S a → ow a = some 2 → h.get? a = some o → ow' a = some 2 ∧ h'.get? a = some o
theorem Le.x {S : Addr → Prop} {ow ow' : Addr → Option Nat} {h h' : Heap} (l : Le ow h ow' h') : LeX S ow h ow' h' := ⟨l.toLe0, fun a o _ e f => l.two a o e f⟩
theorem LeX.trans {S : Addr → Prop} {o1 o2 o3 : Addr → Option Nat} {h1 h2 h3 : Heap} (x : LeX S o1 h1 o2 h2) (y : LeX S o2 h2 o3 h3) : LeX S o1 h1 o3 h3 :=
  ⟨x.toLe0.trans y.toLe0, fun a o n e f => let ⟨p, q⟩ := x.two a o n e f; y.two a o n p q⟩
theorem LeX.mono {S S' : Addr → Prop} {ow ow' : Addr → Option Nat} {h h' : Heap} (l : LeX S ow h ow' h') (hs : ∀ a, S a → S' a) : LeX S' ow h ow' h' := ⟨l.toLe0, fun a o n e f => l.two a o (fun q => n (hs a q)) e f⟩
theorem LeX.refl (S : Addr → Prop) (ow : Addr → Option Nat) (h : Heap) : LeX S ow h ow h := (Le.refl ow h).x
theorem AccR.le {ow ow' : Addr → Option Nat} {h h' : Heap} {D : Addr} {acc : List PV} (a : AccR ow h D acc) (l : Le ow h ow' h') : AccR ow' h' D acc := by
  obtain ⟨e, vs, k, ho, hs⟩ := a
  obtain ⟨p, q⟩ := l.two D _ e ho
  exact ⟨p, vs, k, q, l.vrs hs⟩

section
variable {H : Heap} {Γ : Cx} {env : Env} {fo : Addr → Prop} {base : Heap} {φ : Frame} {ow : Addr → Option Nat} {h h' : Heap}
theorem FR.turn2 (F : FR H Γ env fo base φ ow h) {D : Addr} (hD : ow D = some 2) (k : ∀ b o, b ≠ D → h.get? b = some o → h'.get? b = some o) (he : (h'.get? D).isSome = true) : FR H Γ env fo base φ ow h' := by
  have k2 : ∀ b o, ow b ≠ some (1 + 1) → h.get? b = some o → h'.get? b = some o := fun b o e q => k b o (fun z => e (by rw [z]; exact hD)) q
  have l : Le0 ow h ow h' := ⟨fun a o f => ⟨f.1, k2 a o (by rw [f.1]; simp) f.2⟩⟩
  refine F.turn (t := 1) k2 (fun b e q => ?_) rfl (fun _ _ => rfl) ?_ (fun i x hi _ => by lia) fun i x _ hi => by lia
  · by_cases hb : b = D
    · subst hb; exact he
    · obtain ⟨o, ho⟩ := Option.isSome_iff_exists.mp q
      rw [k b o hb ho]; rfl
  · obtain ⟨m, hm, hs⟩ := F.ns
    refine ⟨m, ?_, fun i x e => (hs i x e).mono l fun a o e1 e2 => ⟨e1, k2 a o (by rw [e1]; intro q; cases q) e2⟩⟩
    have hne : env.locals ≠ D := fun q => by have := F.nso; rw [q, hD] at this; cases this
    obtain ⟨o, es, ep, ho, r⟩ := hm
    exact ⟨o, es, ep, k _ _ hne ho, r⟩
theorem FR.drop2 (F : FR H Γ env fo base φ ow h) {D : Addr} (hD : ow D = some 2) (k : ∀ b o, b ≠ D → h.get? b = some o → h'.get? b = some o) : FR H Γ env fo base φ (untag ow D) h' := by
  have ne : ∀ b t, ow b = some t → t ≠ 2 → b ≠ D := fun b t e ht q => by subst q; rw [hD] at e; cases e; exact ht rfl
  have un : ∀ b t, untag ow D b = some t → ow b = some t ∧ b ≠ D := fun b t e => by
    by_cases hb : b = D
    · subst hb; rw [untag_self] at e; cases e
    · rw [untag_ne hb] at e; exact ⟨e, hb⟩
  have up : ∀ b t, ow b = some t → t ≠ 2 → untag ow D b = some t := fun b t e ht => by rw [untag_ne (ne b t e ht)]; exact e
  have l : Le0 ow h (untag ow D) h' := ⟨fun a o f => by
    have hb : a ≠ D := fun q => by subst q; have := f.1; rw [hD] at this; cases this
    exact ⟨by rw [untag_ne hb]; exact f.1, k a o hb f.2⟩⟩
  refine ⟨F.top, fun a e => ?_, fun b o e => ?_, fun a t e => ?_, fun a e => up a 0 (F.for1 a e) (by decide), fun a e => F.for2 a (un a 0 e).1, F.len, ?_, up _ _ F.nso (by decide), fun i x e => ?_, fun i x e => ?_⟩
  · cases q : untag ow D a with
    | none => exact absurd q e
    | some t => exact F.hi a (by rw [(un a t q).1]; simp)
  · have hb : b ≠ D := fun q => by subst q; have := (F.own b 1 hD).1; rw [e] at this; cases this
    exact k b o hb (F.keep b o e)
  · obtain ⟨e1, e2⟩ := un a _ e
    obtain ⟨e3, e4⟩ := F.own a t e1
    obtain ⟨o, ho⟩ := Option.isSome_iff_exists.mp e4
    exact ⟨e3, by rw [k a o e2 ho]; rfl⟩
  · obtain ⟨m, hm, hs⟩ := F.ns
    refine ⟨m, ?_, fun i x e => (hs i x e).mono l fun a o e1 e2 => ⟨up a _ e1 (by lia), k a o (ne a _ e1 (by lia)) e2⟩⟩
    obtain ⟨o, es, ep, ho, r⟩ := hm
    exact ⟨o, es, ep, k _ _ (ne _ _ F.nso (by decide)) ho, r⟩
  · obtain ⟨c, v, e1, e2, e3, e4⟩ := F.cel i x e
    obtain ⟨o, ho, hd⟩ := e2
    exact ⟨c, v, e1, ⟨o, k c o (ne c _ e3 (by lia)) ho, hd⟩, up c _ e3 (by lia), e4.mono l⟩
  · obtain ⟨c, v, pv, e1, e2, e3, e4⟩ := F.fre i x e
    exact ⟨c, v, pv, e1, e2, e3, l.vr e4⟩
end

section
variable (prog : Program) (w : World) (H : Heap) (GT : List (Str × PV)) (n : Nat)
noncomputable def SndTs (es : Es) : Prop := ∀ (xs : List Expr) (φ : Frame) (K : Bool → Frame → Prop) (Γ : Cx) (gn : List Str) (env : Env) (fo : Addr → Prop) (base : Heap) (ow : Addr → Option Nat) (A : Around) (s : Shared) (Q : Bool → Shared → Prop) (X : Value → Shared → Prop),
  chkEs GT Γ gn es xs = true → evTs GT (Spec prog w H n) es φ K → EnvOk Γ gn env → AOk n A → FR H Γ env fo base φ ow s.heap →
  (∀ b φ' ow' h' tk, K b φ' → FR H Γ env fo base φ' ow' h' → ES ow s.heap ow' h' → Q b { s with heap := h', toks := tk }) →
  wpAny (model prog w) A (forIn xs true fun c r => if r = true then do let ok ← isTrue c env (eval c env); pure (ForInStep.yield ok) else pure (ForInStep.yield r)) Q X s
noncomputable def SndG (elt : E) (gs : Gs) : Prop := ∀ (gens gs' : List Comprehension) (elt' : Expr) (scope : Scope) (pos : Pos) (d : Nat) (D : Addr) (acc : List PV) (φ : Frame) (K : Frame → List PV → Prop) (Γ : Cx) (gn : List Str) (env : Env) (fo : Addr → Prop) (base : Heap) (ow : Addr → Option Nat)
    (A : Around) (s : Shared) (Q : Unit → Shared → Prop) (X : Value → Shared → Prop),
  gens.drop (d + 1) = gs' → chkG GT Γ gn gs gs' = true → chkE GT Γ gn elt elt' = true → evG GT (Spec prog w H n) gs (evE GT (Spec prog w H n) elt) φ acc K → EnvOk Γ gn env → AOk n A → FR H Γ env fo base φ ow s.heap → AccR ow s.heap D acc →
  (∀ φ' acc' ow' h' tk, K φ' acc' → FR H Γ env fo base φ' ow' h' → AccR ow' h' D acc' → LeX (· = D) ow s.heap ow' h' → Q () { s with heap := h', toks := tk }) →
  wpAny (model prog w) A (innerOf (.ListComp elt' gens scope pos) elt' gens d (.ref D) env) Q X s
end

section
variable {prog : Program} {w : World} {H : Heap} {GT : List (Str × PV)} {n : Nat}
theorem tests_off {xs : List Expr} {env : Env} {A : Around} {s : Shared} {Q : Bool → Shared → Prop} {X : Value → Shared → Prop} (h : Q false s) :
    wpAny (model prog w) A (forIn xs false fun c r => if r = true then do let ok ← isTrue c env (eval c env); pure (ForInStep.yield ok) else pure (ForInStep.yield r)) Q X s := by
  induction xs with
  | nil => rw [List.forIn_nil]; exact wpAny_pure h
  | cons x xs ih =>
    rw [List.forIn_cons]
    simp only [Bool.false_eq_true, if_false, pure_bind]
    exact ih
theorem snd_tnil : SndTs prog w H GT n .nil := by
  intro xs φ K Γ gn env fo base ow A s Q X hc hK EO AO F hQ
  obtain rfl := inv_enil hc
  simp only [↓evTs_nil, ↓evTs_cons] at hK
  rw [List.forIn_nil]; exact wpAny_pure (hQ _ φ ow s.heap s.toks hK F (.refl ..))
theorem snd_tcons {e : E} {es : Es} (he : SndT prog w H GT n e) (hes : SndTs prog w H GT n es) : SndTs prog w H GT n (.cons e es) := by
  intro xs φ K Γ gn env fo base ow A s Q X hc hK EO AO F hQ
  replace hc := inv_econs hc; obtain ⟨x, xs, rfl, hc⟩ := hc
  simp only [↓evTs_nil, ↓evTs_cons] at hK
  · rw [List.forIn_cons]
    simp only [if_true]
    refine wpAny_bind (wpAny_bind (he _ φ _ Γ gn env fo base ow A s _ _ hc.1 hK EO AO F ?_))
    intro b φ1 ow1 h1 tk1 hK1 F1 st1
    refine wpAny_pure ?_
    cases b with
    | true => exact hes _ φ1 _ Γ gn env fo base ow1 A _ _ _ hc.2 (hK1.1 rfl) EO AO F1 fun b φ' ow' h' tk k F' st' => hQ b φ' ow' h' tk k F' (st1.trans st')
    | false => exact tests_off (hQ _ φ1 ow1 h1 tk1 (hK1.2 rfl) F1 st1)

theorem snd_gnil {elt : E} (he : SndE prog w H GT n elt) : SndG prog w H GT n elt .nil := by
  intro gens gs' elt' scope pos d D acc φ K Γ gn env fo base ow A s Q X hd hc ce hK EO AO F hA hQ
  obtain rfl := inv_gnil hc
  simp only [↓evG_nil, ↓evG_cons] at hK
  · have hg : gens[d + 1]? = none := by
      rw [List.getElem?_eq_none_iff]
      exact List.drop_eq_nil_iff.mp hd
    unfold innerOf
    rw [hg]
    refine wpAny_bind (he _ φ _ Γ gn env fo base ow A s _ _ ce hK EO AO F ?_)
    intro v pv φ1 ow1 h1 tk1 hK1 F1 st1 v1
    obtain ⟨hz, hK1⟩ := hK1
    obtain ⟨a1, vs, k, a2, a3⟩ := hA.le st1.le
    have z : sizeLine = 16777216 := rfl
    have hl := a3.length
    refine wpAny_bind (wpAny_list_append_plain (items := vs.toArray) ⟨k, a2⟩ (fun h2 hp hs => ?_) (by simp; lia))
    obtain ⟨k', a4⟩ := hp
    have a4' : h2.get? D = some (listObj (vs ++ [v]) k') := by rw [a4]; simp
    have kb : ∀ b o, b ≠ D → h1.get? b = some o → h2.get? b = some o := fun b o hb e => (hs.2 b hb).trans e
    have l0 : Le0 ow1 h1 ow1 h2 := ⟨fun a o f => ⟨f.1, kb a o (fun q => by subst q; have := f.1; rw [a1] at this; cases this) f.2⟩⟩
    refine wpAny_pure (hQ φ1 (acc ++ [pv]) ow1 h2 tk1 hK1 (F1.turn2 a1 kb (by rw [a4']; rfl)) ⟨a1, vs ++ [v], k', a4', VRs.append (l0.vrs a3) (VRs.one (l0.vr v1))⟩ ?_)
    exact (st1.le.x).trans ⟨l0, fun a o hn e f => ⟨e, kb a o hn f⟩⟩
end
end Mine
end
section
namespace Mine

theorem drop_cons {α : Type} {l : List α} {i : Nat} (h : i < l.length) : l.drop i = l[i] :: l.drop (i + 1) := by
  rw [List.drop_eq_getElem_cons h]

section
variable {prog : Program} {w : World} {H : Heap} {GT : List (Str × PV)} {n : Nat}

structure LoopSt (Γ : Cx) (env : Env) (fo : Addr → Prop) (base : Heap) (φ : Frame) (ow : Addr → Option Nat) (h : Heap) (I : Addr) (St : Nat → Heap → Prop) (i : Nat) : Prop where
  fr : FR H Γ env fo base φ ow h
  it : ow I = some 2
  st : St i h

theorem next_ok {I : Addr} {ow₀ : Addr → Option Nat} {h₀ : Heap} {items : List PV} {St : Nat → Heap → Prop} {P : Nat → Value → Prop} {fp : List Addr} {A : Around} (T : ItAt prog w A I ow₀ h₀ items St P fp)
    {Γ : Cx} {env : Env} {fo : Addr → Prop} {base : Heap} {φ : Frame} {ow : Addr → Option Nat} {s : Shared} {i : Nat} (L : LoopSt (H := H) Γ env fo base φ ow s.heap I St i) (l0 : Le0 ow₀ h₀ ow s.heap) (hi : i < items.length)
    {Q : Option Value → Shared → Prop} {X : Value → Shared → Prop}
    (hQ : ∀ v h' tk, VR (Fz ow h') items[i] v → LoopSt (H := H) Γ env fo base φ ow h' I St (i + 1) → Le0 ow s.heap ow h' → (∀ b o, b ≠ I → s.heap.get? b = some o → h'.get? b = some o) → Q (some v) { s with heap := h', toks := tk }) :
    wpAny (model prog w) A (pyNext (.ref I)) Q X s := by
  refine T.walk.item i s _ _ hi L.st fun v h' tk hP hst hk => ?_
  have kb : ∀ b o, b ≠ I → s.heap.get? b = some o → h'.get? b = some o := fun b o hb e => hk b o (by simpa using hb) e
  have l1 : Le0 ow s.heap ow h' := ⟨fun a o f => ⟨f.1, kb a o (fun q => by subst q; have := f.1; rw [L.it] at this; cases this) f.2⟩⟩
  obtain ⟨x, e1, e2⟩ := T.item i v hP
  rw [List.getElem?_eq_getElem hi] at e1
  cases e1
  obtain ⟨o, T', ho, _⟩ := T.cls _ _ hst
  exact hQ v h' tk ((l0.trans l1).vr e2) ⟨L.fr.turn2 L.it kb (by rw [ho]; rfl), L.it, hst⟩ l1 kb

theorem st_stays {I : Addr} {ow₀ : Addr → Option Nat} {h₀ : Heap} {items : List PV} {St : Nat → Heap → Prop} {P : Nat → Value → Prop} {fp : List Addr} {A : Around} (T : ItAt prog w A I ow₀ h₀ items St P fp)
    {ow ow' : Addr → Option Nat} {h h' : Heap} {i : Nat} {S : Addr → Prop} (hst : St i h) (hI : ow I = some 2) (l0 : Le0 ow₀ h₀ ow h) (l : LeX S ow h ow' h') (hS : ¬ S I) : St i h' ∧ ow' I = some 2 := by
  obtain ⟨o, T', ho, _⟩ := T.cls _ _ hst
  obtain ⟨p, q⟩ := l.two I o hS hI ho
  refine ⟨T.walk.frame i h h' hst fun b hb o' e => ?_, p⟩
  rcases T.foot b hb with rfl | ⟨o2, f⟩
  · rw [ho] at e; cases e; exact q
  · have f1 := l0.fz b o2 f
    rw [f1.2] at e; cases e
    exact (l.fz b _ f1).2

theorem AccR.but {ow : Addr → Option Nat} {h h' : Heap} {I D : Addr} {acc : List PV} (hA : AccR ow h D acc) (hDI : I ≠ D) (l : Le0 ow h ow h') (kb : ∀ b o, b ≠ I → h.get? b = some o → h'.get? b = some o) : AccR ow h' D acc := by
  obtain ⟨a1, vs, k, a2, a3⟩ := hA
  exact ⟨a1, vs, k, kb D _ (Ne.symm hDI) a2, l.vrs a3⟩
theorem AccR.drop {ow : Addr → Option Nat} {h h' : Heap} {I D : Addr} {acc : List PV} (hA : AccR ow h D acc) (hDI : I ≠ D) (l : Le0 ow h (untag ow I) h') (kb : ∀ b o, b ≠ I → h.get? b = some o → h'.get? b = some o) : AccR (untag ow I) h' D acc := by
  obtain ⟨a1, vs, k, a2, a3⟩ := hA
  exact ⟨by rw [untag_ne (Ne.symm hDI)]; exact a1, vs, k, kb D _ (Ne.symm hDI) a2, l.vrs a3⟩
theorem LeX.but {ow : Addr → Option Nat} {h h' : Heap} {I D : Addr} (l : Le0 ow h ow h') (kb : ∀ b o, b ≠ I → h.get? b = some o → h'.get? b = some o) : LeX (fun a => a = D ∨ a = I) ow h ow h' := ⟨l, fun a o hna e f => ⟨e, kb a o (fun q => hna (.inr q)) f⟩⟩
theorem untag_le {ow : Addr → Option Nat} {h h' : Heap} {I : Addr} (hI : ow I = some 2) (kb : ∀ b o, b ≠ I → h.get? b = some o → h'.get? b = some o) : Le0 ow h (untag ow I) h' := ⟨fun a o f => by
  have hb : a ≠ I := fun q => by subst q; have := f.1; rw [hI] at this; cases this
  exact ⟨by rw [untag_ne hb]; exact f.1, kb a o hb f.2⟩⟩
theorem untag_leX {ow : Addr → Option Nat} {h h' : Heap} {I D : Addr} (hI : ow I = some 2) (kb : ∀ b o, b ≠ I → h.get? b = some o → h'.get? b = some o) : LeX (fun a => a = D ∨ a = I) ow h (untag ow I) h' :=
  ⟨untag_le hI kb, fun a o hna e f => ⟨by rw [untag_ne fun q => hna (.inr q)]; exact e, kb a o (fun q => hna (.inr q)) f⟩⟩
inductive CompInv (Γ : Cx) (env : Env) (fo : Addr → Prop) (base : Heap) (I D : Addr) (St : Nat → Heap → Prop) (items : List PV) (f : PV → Frame → List PV → (Frame → List PV → Prop) → Prop) (K : Frame → List PV → Prop) (ow : Addr → Option Nat) (s : Shared) : Nat → Shared → Prop
  | mk (i : Nat) (φ' : Frame) (acc : List PV) (ow' : Addr → Option Nat) (h' : Heap) (tk : Nat) (hi : i ≤ items.length) (hK : loopI f (items.drop i) φ' acc K) (L : LoopSt (H := H) Γ env fo base φ' ow' h' I St i) (hA : AccR ow' h' D acc) (x : LeX (fun a => a = D ∨ a = I) ow s.heap ow' h') :
    CompInv Γ env fo base I D St items f K ow s (items.length - i) { s with heap := h', toks := tk }

theorem comp_iter {elt : E} {rest : Gs} {t : Tg} {ifs : Es} (hts : SndTs prog w H GT n ifs) (hG : SndG prog w H GT n elt rest)
    {gens gs' : List Comprehension} {elt' : Expr} {scope : Scope} {pos : Pos} {d : Nat} {t' iter' : Expr} {ifs' : List Expr} {D I : Addr} {acc : List PV} {φ : Frame} {K : Frame → List PV → Prop} {Γ : Cx} {gn : List Str} {env : Env} {fo : Addr → Prop} {base : Heap} {ow : Addr → Option Nat}
    {A : Around} {s : Shared} {R : Result → Shared → Prop} {items : List PV} {ow₀ : Addr → Option Nat} {h₀ : Heap} {St : Nat → Heap → Prop} {P : Nat → Value → Prop} {fp : List Addr}
    (hg : gens[d]? = some ⟨t', iter', ifs', 0⟩) (hd : gens.drop (d + 1) = gs') (ct : chkT Γ t t' = true) (ci : chkEs GT Γ gn ifs ifs' = true) (cg : chkG GT Γ gn rest gs' = true) (ce : chkE GT Γ gn elt elt' = true)
    (T : ItAt prog w A I ow₀ h₀ items St P fp) (l0 : Le0 ow₀ h₀ ow s.heap)
    (hK : loopI (fun v φ acc K => asg t v φ fun φ => evTs GT (Spec prog w H n) ifs φ fun b φ => (b = true → evG GT (Spec prog w H n) rest (evE GT (Spec prog w H n) elt) φ acc K) ∧ (b = false → K φ acc)) items φ acc K)
    (EO : EnvOk Γ gn env) (AO : AOk n A) (L : LoopSt (H := H) Γ env fo base φ ow s.heap I St 0) (hA : AccR ow s.heap D acc) (hDI : I ≠ D)
    (hQ : ∀ φ' acc' ow' h' tk, K φ' acc' → FR H Γ env fo base φ' ow' h' → AccR ow' h' D acc' → LeX (fun a => a = D ∨ a = I) ow s.heap ow' h' → R (.ok .next) { s with heap := h', toks := tk }) :
    codeAny (model prog w) A (.compLoop (.ListComp elt' gens scope pos) d (.ref I) (.ref D) env) R s := by
  have hn : ∀ g', gens[d + 1]? = some g' → g'.is_async = 0 := by
    intro g' e
    have hlt : d + 1 < gens.length := by
      rcases Nat.lt_or_ge (d + 1) gens.length with q | q
      · exact q
      · rw [List.getElem?_eq_none q] at e; cases e
    rw [List.getElem?_eq_getElem hlt] at e
    cases e
    rw [drop_cons hlt] at hd
    subst hd
    cases rest with
    | nil => exact (Bool.false_ne_true cg).elim
    | cons t1 i1 f1 r1 =>
      obtain ⟨_, _, _, _, q, _⟩ := inv_gcons cg
      rw [(List.cons.inj q).1]
  refine comp_loop hg hn (CompInv (H := H) Γ env fo base I D St items (fun v φ acc K => asg t v φ fun φ => evTs GT (Spec prog w H n) ifs φ fun b φ => (b = true → evG GT (Spec prog w H n) rest (evE GT (Spec prog w H n) elt) φ acc K) ∧ (b = false → K φ acc)) K ow s) ?_ items.length
    ⟨0, φ, acc, ow, s.heap, s.toks, Nat.zero_le _, hK, L, hA, .refl ..⟩
  rintro m _ ⟨i, φ1, acc1, ow1, h1, tk1, hi, hK1, L1, hA1, x1⟩
  have l1 : Le0 ow₀ h₀ ow1 h1 := l0.trans x1.toLe0
  by_cases hlt : i < items.length
  · rw [drop_cons hlt] at hK1
    unfold loopI at hK1
    refine next_ok T L1 l1 hlt fun v h2 tk2 vr L2 e12 kb => ?_
    have hA2 := hA1.but hDI e12 kb
    have x12 : LeX (fun a => a = D ∨ a = I) ow1 h1 ow1 h2 := .but e12 kb
    obtain ⟨o, T', ho, hc', hT'⟩ := T.cls _ _ L2.st
    refine letGo_ok ho hc' hT' ?_
    refine asg_ok ct hK1 EO AO.hh L2.fr vr fun φ3 h3 tk3 hK3 F3 l3 => ?_
    have l2 : Le0 ow₀ h₀ ow1 h2 := l1.trans e12
    obtain ⟨s3, i3⟩ := st_stays T L2.st L2.it l2 (l3.x (S := (· = D))) hDI
    refine hts _ φ3 _ Γ gn env fo base ow1 A _ _ _ ci hK3 EO AO F3 ?_
    intro b φ4 ow4 h4 tk4 hK4 F4 st4
    have l3' : Le0 ow₀ h₀ ow1 h3 := l2.trans l3.toLe0
    obtain ⟨s4, i4⟩ := st_stays T s3 i3 l3' (st4.le.x (S := (· = D))) hDI
    have hA4 := (hA2.le l3).le st4.le
    have x4 : LeX (fun a => a = D ∨ a = I) ow s.heap ow4 h4 := ((x1.trans x12).trans l3.x).trans st4.le.x
    cases b with
    | false =>
      simp only [Bool.false_eq_true, if_false]
      exact ⟨_, Nat.sub_succ_lt_self _ _ hlt, i + 1, φ4, acc1, ow4, h4, tk4, hlt, hK4.2 rfl, ⟨F4, i4, s4⟩, hA4, x4⟩
    | true =>
      simp only [if_true]
      refine hG gens gs' elt' scope pos d D acc1 φ4 _ Γ gn env fo base ow4 A _ _ _ hd cg ce (hK4.1 rfl) EO AO F4 hA4 ?_
      intro φ5 acc5 ow5 h5 tk5 hK5 F5 hA5 x5
      obtain ⟨s5, i5⟩ := st_stays T s4 i4 (l3'.trans st4.le.toLe0) x5 hDI
      exact ⟨_, Nat.sub_succ_lt_self _ _ hlt, i + 1, φ5, acc5, ow5, h5, tk5, hlt, hK5, ⟨F5, i5, s5⟩, hA5, x4.trans (x5.mono fun _ q => .inl q)⟩
  · have hin : i = items.length := Nat.le_antisymm hi (Nat.le_of_not_lt hlt)
    subst hin
    rw [List.drop_length] at hK1
    unfold loopI at hK1
    refine T.walk.done _ _ _ L1.st fun h2 tk2 hk => ?_
    have kb : ∀ b o, b ≠ I → h1.get? b = some o → h2.get? b = some o := fun b o hb e => hk b o (by simpa using hb) e
    exact hQ φ1 acc1 (untag ow1 I) h2 tk2 hK1 (L1.fr.drop2 L1.it kb) (hA1.drop hDI (untag_le L1.it kb) kb) (x1.trans (untag_leX L1.it kb))

theorem comp_start {elt' : Expr} {g : Comprehension} {gens : List Comprehension} {scope : Scope} {pos : Pos} {d : Nat} {I D : Addr} {env : Env} {A : Around} {s : Shared} {R : Result → Shared → Prop}
    {ow₀ : Addr → Option Nat} {h₀ : Heap} {items : List PV} {St : Nat → Heap → Prop} {P : Nat → Value → Prop} {fp : List Addr} (T : ItAt prog w A I ow₀ h₀ items St P fp) (hst : St 0 s.heap)
    (hg : gens[d]? = some g) (ha : g.is_async = 0)
    (h : codeAny (model prog w) A (.compLoop (.ListComp elt' gens scope pos) d (.ref I) (.ref D) env) R s) :
    codeAny (model prog w) A (.compStart (.ListComp elt' gens scope pos) d (.ref I) (.ref D) env) R s := by
  refine codeAny_of_tree ?_
  show wpAny _ _ ((compStart (.ListComp elt' gens scope pos) d (.ref I) (.ref D) env).onRaise (fun x => do noteFrame x env; standAt theWindowsPlace)) _ _ s
  refine wpAny_notedAt ?_
  unfold compStart
  have hc : clausesOf (.ListComp elt' gens scope pos) = gens := rfl
  rw [hc, hg]
  simp only [Option.elim_some, ha]
  show wpAny _ _ (ask >>= _) _ _ s
  refine wpAny_bind (wpAny_askSetting (wpAny_ite ?_))
  split
  · first
      | exact wpAny_bind (wpAny_pure (wpAny_pure (And.intro rfl h)))
      | exact wpAny_pure (And.intro rfl h)
  · refine wpAny_bind (wpAny_rule ?_)
    refine wpAny_bind (wpAny_standAt (wpAny_bind (T.walk.self 0 _ _ _ hst (wpAny_pure (And.intro rfl h)))))

theorem snd_gcons {elt iter : E} {t : Tg} {ifs : Es} {rest : Gs} (hi : SndE prog w H GT n iter) (hts : SndTs prog w H GT n ifs) (hG : SndG prog w H GT n elt rest) : SndG prog w H GT n elt (.cons t iter ifs rest) := by
  intro gens gs' elt' scope pos d D acc φ K Γ gn env fo base ow A s Q X hd hc ce hK EO AO F hA hQ
  replace hc := inv_gcons hc
  · obtain ⟨t', iter', ifs', gs'', rfl, hc⟩ := hc
    simp only [Bool.and_eq_true] at hc
    obtain ⟨⟨⟨⟨c1, c2⟩, c3⟩, c4⟩, c5⟩ := hc
    simp only [↓evG_nil, ↓evG_cons] at hK
    have hlt : d + 1 < gens.length := by
      rcases Nat.lt_or_ge (d + 1) gens.length with q | q
      · exact q
      · rw [List.drop_eq_nil_of_le q] at hd; cases hd
    rw [drop_cons hlt] at hd
    have hd' : gens.drop (d + 1 + 1) = gs'' := (List.cons.inj hd).2
    have hg : gens[d + 1]? = some ⟨t', iter', ifs', 0⟩ := by rw [List.getElem?_eq_getElem hlt, (List.cons.inj hd).1]
    unfold innerOf
    rw [hg]
    have fs : ∀ x, foldedSetIterable iter' env x = pure x := fun x => by
      cases iter' <;> first | rfl | (cases c1)
    refine wpAny_bind (hi _ φ _ Γ gn env fo base ow A s _ _ c3 hK EO AO F ?_)
    intro v pv φ1 ow1 h1 tk1 hK1 F1 st1 v1
    obtain ⟨items, hit, hK1⟩ := hK1
    refine wpAny_bind (wpAny_standAt (wpAny_bind ?_))
    rw [fs v]
    refine wpAny_pure (wpAny_bind (wpAny_holding (pyIter_ok (ow := ow1) v1 hit AO.hh fun I h2 tk2 St P fp hIn kp hIs T hst => ?_)))
    have F2 := F1.tag kp hIn hIs 1
    have ne : ∀ b o, h1.get? b = some o → b ≠ I := fun b o e q => by subst q; rw [hIn] at e; cases e
    have l12 : Le ow1 h1 (tagged ow1 I 2) h2 := ⟨⟨fun a o f => ⟨by rw [tagged_ne (ne a o f.2)]; exact f.1, kp a o f.2⟩⟩, fun a o e f => ⟨by rw [tagged_ne (ne a o f)]; exact e, kp a o f⟩⟩
    have hA2 : AccR (tagged ow1 I 2) h2 D acc := (hA.le st1.le).le l12
    have hDI : I ≠ D := fun q => by
      obtain ⟨_, vs, k, e, _⟩ := hA.le st1.le
      exact ne D _ e q.symm
    refine wpAny_bind (wpAny_runOwn (comp_start T hst hg rfl (comp_iter hts hG hg hd' c2 c4 c5 ce T l12.toLe0 hK1 EO AO ⟨F2, tagged_self, hst⟩ hA2 hDI ?_)))
    intro φ3 acc3 ow3 h3 tk3 hK3 F3 hA3 x3
    refine wpAny_pure (hQ φ3 acc3 ow3 h3 tk3 hK3 F3 hA3 ?_)
    have x13 : Le0 ow s.heap ow3 h3 := (st1.le.toLe0.trans l12.toLe0).trans x3.toLe0
    refine ⟨x13, fun a o hna e f => ?_⟩
    obtain ⟨p1, q1⟩ := st1.le.two a o e f
    obtain ⟨p2, q2⟩ := l12.two a o p1 q1
    exact x3.two a o (fun q => q.elim hna (ne a o q1)) p2 q2
end
end Mine
end
section
namespace Mine

noncomputable def owNew (old : Addr → Option Nat) (L : Addr) (Γ : Cx) (cells : List (Str × Addr)) (a : Addr) : Option Nat :=
  match old a with
  | some _ => some 0
  | none => if a = L then some 1 else (Γ.findIdx? fun p => p.2 == .cel && cells.lookup p.1 == some a).map (· + 3)

theorem lookup_map_kind {f : Str × NameKind → Str × NameKind} (hf : ∀ p, (f p).1 = p.1) : ∀ (l : List (Str × NameKind)) (x : Str), (l.map f).lookup x = (l.lookup x).map fun k => (f (x, k)).2
  | [], _ => rfl
  | (y, k) :: r, x => by
    have e : f (y, k) = (y, (f (y, k)).2) := Prod.ext (hf (y, k)) rfl
    rw [List.map_cons, e, List.lookup_cons, List.lookup_cons]
    cases h : x == y with
    | true => have := beq_iff_eq.mp h; subst this; rfl
    | false => exact lookup_map_kind hf r x
theorem relabel_kind {scope : Scope} {env : Env} {x : Str} : (relabel scope env).names.lookup x = (scope.names.lookup x).map fun k => if (k == .free && env.scope.kind == .function && env.kindOf x == some .cell) then .cell else k := by
  unfold relabel
  rw [lookup_map_kind]
  · congr 1
    funext k
    dsimp only
    split <;> rfl
  · intro p
    obtain ⟨a, b⟩ := p
    dsimp only
    split <;> rfl

structure CIOk (Γ : Cx) (c : CI) (scope : Scope) : Prop where
  fn : scope.kind = .function
  nodup : (c.names.map (·.1)).Nodup
  kinds : ∀ x ∈ c.names, scope.names.lookup x.1 = some (kindIs x.2.1) ∧ (x.1 == ("__debug__" : Str)) = false ∧ (x.1 == ("__classdict__" : Str)) = false ∧ (x.2.1 = .fre → ∃ k, Γ[x.2.2]? = some (x.1, k) ∧ k ≠ .loc)
  gn : ∀ x ∈ c.gn, scope.names.lookup x = some .globalImplicit ∧ (x == ("__debug__" : Str)) = false
  all : ∀ x ∈ scope.names, scope.names.lookup x.1 = some x.2 ∧ (x.2 = .globalImplicit ∨ (x.1 = (".0" : Str) ∧ x.2 = .local) ∨ ∃ y ∈ c.names, y.1 = x.1)
theorem chkC_spec {Γ : Cx} {c : CI} {scope : Scope} (h : chkC Γ c scope = true) : CIOk Γ c scope := by
  unfold chkC at h
  simp only [Bool.and_eq_true, decide_eq_true_eq] at h
  obtain ⟨⟨⟨⟨h1, h2⟩, h3⟩, h4⟩, h5⟩ := h
  refine ⟨h1, h2, fun x hx => ?_, fun x hx => ?_, fun x hx => ?_⟩
  · have := List.all_eq_true.mp h3 x hx
    simp only [Bool.and_eq_true, beq_iff_eq, bne_iff_ne, Bool.or_eq_true] at this
    obtain ⟨⟨⟨e1, e2⟩, e3⟩, e4⟩ := this
    refine ⟨e1, by simpa using e2, by simpa using e3, fun e => ?_⟩
    rcases e4 with q | q
    · exact absurd e q
    · split at q
      · rename_i y k e5
        simp only [Bool.and_eq_true, beq_iff_eq, bne_iff_ne] at q
        obtain ⟨rfl, q2⟩ := q
        exact ⟨k, e5, q2⟩
      · cases q
  · have := List.all_eq_true.mp h4 x hx
    simp only [Bool.and_eq_true, beq_iff_eq, bne_iff_ne] at this
    exact ⟨this.1, by simpa using this.2⟩
  · have := List.all_eq_true.mp h5 x hx
    simp only [Bool.and_eq_true, beq_iff_eq, Bool.or_eq_true, List.any_eq_true] at this
    obtain ⟨e1, e2⟩ := this
    refine ⟨e1, ?_⟩
    rcases e2 with (q | q) | ⟨y, hy, q⟩
    · exact .inl q
    · exact .inr (.inl q)
    · exact .inr (.inr ⟨y, hy, q⟩)

theorem startC_spec {φ : Frame} : ∀ {l : List (Str × Kd × Nat)} {φ₀ : Frame}, startC φ l = some φ₀ → φ₀.length = l.length ∧ ∀ (i : Nat) (x : Str) (k : Kd) (j : Nat), l[i]? = some (x, k, j) → (k ≠ .fre → φ₀[i]? = some .unb) ∧ (k = .fre → ∃ v, φ[j]? = some (.val v) ∧ φ₀[i]? = some (.val v))
  | [], φ₀, h => by
    simp only [↓startC_nil, ↓startC_fre, ↓startC_loc, ↓startC_cel] at h; cases h
    exact ⟨rfl, fun i x k j e => by simp at e⟩
  | (y, .fre, m) :: r, φ₀, h => by
    simp only [↓startC_nil, ↓startC_fre, ↓startC_loc, ↓startC_cel] at h
    split at h
    · rename_i v e
      cases q : startC φ r with
      | none => rw [q] at h; cases h
      | some ψ =>
        rw [q] at h; cases h
        obtain ⟨h1, h2⟩ := startC_spec q
        refine ⟨by simp [h1], fun i x k j e' => ?_⟩
        cases i with
        | zero =>
          simp at e'
          obtain ⟨rfl, rfl, rfl⟩ := e'
          exact ⟨fun q => absurd rfl q, fun _ => ⟨v, e, rfl⟩⟩
        | succ i =>
          simp at e'
          exact h2 i x k j e'
    · cases h
  | (y, .loc, m) :: r, φ₀, h => by
    simp only [↓startC_nil, ↓startC_fre, ↓startC_loc, ↓startC_cel] at h
    cases q : startC φ r with
    | none => rw [q] at h; cases h
    | some ψ =>
      rw [q] at h; cases h
      obtain ⟨h1, h2⟩ := startC_spec q
      refine ⟨by simp [h1], fun i x k j e' => ?_⟩
      cases i with
      | zero =>
        simp at e'
        obtain ⟨rfl, rfl, rfl⟩ := e'
        exact ⟨fun _ => rfl, fun q => by cases q⟩
      | succ i =>
        simp at e'
        exact h2 i x k j e'
  | (y, .cel, m) :: r, φ₀, h => by
    simp only [↓startC_nil, ↓startC_fre, ↓startC_loc, ↓startC_cel] at h
    cases q : startC φ r with
    | none => rw [q] at h; cases h
    | some ψ =>
      rw [q] at h; cases h
      obtain ⟨h1, h2⟩ := startC_spec q
      refine ⟨by simp [h1], fun i x k j e' => ?_⟩
      cases i with
      | zero =>
        simp at e'
        obtain ⟨rfl, rfl, rfl⟩ := e'
        exact ⟨fun _ => rfl, fun q => by cases q⟩
      | succ i =>
        simp at e'
        exact h2 i x k j e'

theorem mem_lookup {l : List (Str × NameKind)} {x : Str} {k : NameKind} (h : l.lookup x = some k) : (x, k) ∈ l := by
  induction l with
  | nil => cases h
  | cons p r ih =>
    obtain ⟨y, k'⟩ := p
    rw [List.lookup_cons] at h
    split at h
    · rename_i e
      have := beq_iff_eq.mp e; subst this
      cases h
      exact List.mem_cons_self
    · exact List.mem_cons_of_mem _ (ih h)

section
variable {H : Heap} {Γ : Cx} {gn : List Str} {env : Env} {fo : Addr → Prop} {base : Heap} {φ φ₀ : Frame} {ow : Addr → Option Nat} {h h' : Heap} {c : CI} {scope : Scope} {cl : List (Str × Addr)}

noncomputable abbrev cEnv (scope : Scope) (env : Env) (L : Addr) (cells : List (Str × Addr)) : Env :=
  { scope := relabel scope env, locals := L, globals := env.globals, cells := cells, qual := env.qual, func := none, code := env.code, frame := env.frame, builtins := env.builtins }

theorem envOk_comp (EO : EnvOk Γ gn env) (C : CIOk Γ c scope) (L : Addr) (cells : List (Str × Addr)) : EnvOk (cxOf c) c.gn (cEnv scope env L cells) := by
  have at' : ∀ (i : Nat) (x : Str) (k : Kd), (cxOf c)[i]? = some (x, k) → ∃ j, (x, k, j) ∈ c.names := fun i x k e => by
    unfold cxOf at e
    rw [List.getElem?_map] at e
    cases q : c.names[i]? with
    | none => rw [q] at e; cases e
    | some y =>
      rw [q] at e
      obtain ⟨a, b, d⟩ := y
      simp at e
      obtain ⟨rfl, rfl⟩ := e
      exact ⟨d, List.mem_of_getElem? q⟩
  refine ⟨C.fn, fun i x k e => ?_, fun i x k e => ?_, ?_, EO.gl, EO.bl, fun x hx => ?_⟩
  · obtain ⟨j, hj⟩ := at' i x k e
    obtain ⟨e1, _, _, e4⟩ := C.kinds _ hj
    have : (cEnv scope env L cells).kindOf x = (scope.names.lookup x).map fun k => if (k == .free && env.scope.kind == .function && env.kindOf x == some .cell) then .cell else k := relabel_kind
    rw [this, e1]
    cases k with
    | loc => rfl
    | cel => rfl
    | fre =>
      simp only [Option.map_some, kindIs]
      split <;> rfl
  · obtain ⟨j, hj⟩ := at' i x k e
    obtain ⟨_, e2, e3, _⟩ := C.kinds _ hj
    exact ⟨e2, e3⟩
  · unfold cxOf
    rw [List.map_map]
    exact C.nodup
  · obtain ⟨e1, e2⟩ := C.gn x hx
    have : (cEnv scope env L cells).kindOf x = (scope.names.lookup x).map fun k => if (k == .free && env.scope.kind == .function && env.kindOf x == some .cell) then .cell else k := relabel_kind
    rw [this, e1]
    exact ⟨rfl, e2⟩

theorem free_cells (F : FR H Γ env fo base φ ow h) (C : CIOk Γ c scope) : ∀ x ∈ scope.names, x.2 = .free → (env.cells.lookup x.1).isSome = true := by
  intro x hx hk
  obtain ⟨e1, e2⟩ := C.all x hx
  rcases e2 with q | q | ⟨y, hy, q⟩
  · rw [hk] at q; cases q
  · have := q.2; rw [hk] at this; cases this
  · obtain ⟨k1, _, _, k4⟩ := C.kinds y hy
    rw [q, e1, hk] at k1
    have : y.2.1 = .fre := by
      cases z : y.2.1 with
      | loc => rw [z] at k1; cases k1
      | cel => rw [z] at k1; cases k1
      | fre => rfl
    obtain ⟨k, g1, g2⟩ := k4 this
    rw [q] at g1
    cases k with
    | loc => exact absurd rfl g2
    | cel => obtain ⟨c', v, f1, _⟩ := F.cel _ _ g1; rw [f1]; rfl
    | fre => obtain ⟨c', v, pv, f1, _⟩ := F.fre _ _ g1; rw [f1]; rfl

theorem owNew_old {L : Addr} {Γ' : Cx} {cells : List (Str × Addr)} {a : Addr} (e : ow a ≠ none) : owNew ow L Γ' cells a = some 0 := by
  unfold owNew
  cases q : ow a with
  | none => exact absurd q e
  | some t => rfl
theorem owNew_zero {L : Addr} {Γ' : Cx} {cells : List (Str × Addr)} {a : Addr} (e : owNew ow L Γ' cells a = some 0) : ow a ≠ none := by
  unfold owNew at e
  split at e
  · rename_i t q; rw [q]; simp
  · split at e
    · cases e
    · simp at e

theorem FR.comp (F : FR H Γ env fo base φ ow h) (C : CIOk Γ c scope) (hst : startC φ c.names = some φ₀) (hcl : ∀ x, (x, NameKind.free) ∈ scope.names → cl.lookup x = env.cells.lookup x)
    {hp : Heap} (kp : ∀ b o, h.get? b = some o → hp.get? b = some o) {I D : Addr} (hI : h.get? I = none) (hIs : (hp.get? I).isSome = true) (hD : h.get? D = none) (hDs : (hp.get? D).isSome = true) :
    FR H (cxOf c) (cEnv scope env hp.objs.size (cellsFrom (hp.objs.size + 1) scope.names cl)) (fun a => ow a ≠ none) h φ₀
      (tagged (tagged (owNew ow hp.objs.size (cxOf c) (cellsFrom (hp.objs.size + 1) scope.names cl)) I 2) D 2) (pushCells (hp.push { cls := .type "dict", data := .dict #[] }) scope.names) := by
  generalize hL : hp.objs.size = L
  generalize hcs : cellsFrom (L + 1) scope.names cl = cells
  generalize hh3 : pushCells (hp.push { cls := .type "dict", data := .dict #[] }) scope.names = h3
  have k3 : ∀ b o, hp.get? b = some o → h3.get? b = some o := fun b o e => by rw [← hh3]; exact pushCells_keeps _ _ _ _ (Heap.get?_push_of_some _ e)
  have kh : ∀ b o, h.get? b = some o → h3.get? b = some o := fun b o e => k3 b o (kp b o e)
  have hLn : hp.get? L = none := by rw [← hL]; exact get_none_size hp
  have hL3 : h3.Ns L fun _ => none := by
    rw [← hh3, ← hL]
    exact (Heap.Ns.new hp (.type "dict")).keeps fun b o e => pushCells_keeps _ _ _ _ e
  have lt_of : ∀ {a : Addr}, (hp.get? a).isSome = true → a < L := fun e => by
    obtain ⟨o, ho⟩ := Option.isSome_iff_exists.mp e
    rw [← hL]; exact Heap.lt_size ho
  have hIL : I < L := lt_of hIs
  have hDL : D < L := lt_of hDs
  have oldI : ow I = none := F.fresh hI
  have oldD : ow D = none := F.fresh hD
  have old_lt : ∀ {a : Addr}, ow a ≠ none → a < L ∧ a ≠ I ∧ a ≠ D := fun {a} e => by
    have := F.ex e
    obtain ⟨o, ho⟩ := Option.isSome_iff_exists.mp this
    refine ⟨lt_of (by rw [kp a o ho]; rfl), fun q => ?_, fun q => ?_⟩
    · subst q; rw [hI] at ho; cases ho
    · subst q; rw [hD] at ho; cases ho
  -- the names of the block
  have at' : ∀ {i : Nat} {x : Str} {k : Kd}, (cxOf c)[i]? = some (x, k) → ∃ j, c.names[i]? = some (x, k, j) := fun {i x k} e => by
    unfold cxOf at e
    rw [List.getElem?_map] at e
    cases q : c.names[i]? with
    | none => rw [q] at e; cases e
    | some y =>
      rw [q] at e
      obtain ⟨a, b, d⟩ := y
      simp at e
      obtain ⟨rfl, rfl⟩ := e
      exact ⟨d, rfl⟩
  obtain ⟨len0, sl0⟩ := startC_spec hst
  have sz : (hp.push { cls := .type "dict", data := .dict #[] } : Heap).objs.size = L + 1 := by rw [Heap.size_push, hL]
  -- own cells
  have ownc : ∀ {x : Str}, (x, NameKind.cell) ∈ scope.names → ∃ a, cells.lookup x = some a ∧ L + 1 ≤ a ∧ h3.IsCell a none ∧ ∀ y a', y ≠ x → (y, NameKind.cell) ∈ scope.names → cells.lookup y = some a' → a' ≠ a := fun {x} hx => by
    have := cellsFrom_own scope.names (hp.push { cls := .type "dict", data := .dict #[] }) cl hx
    rw [sz, hcs, hh3] at this
    exact this
  have celAt : ∀ {i : Nat} {x : Str}, (cxOf c)[i]? = some (x, .cel) → (x, NameKind.cell) ∈ scope.names := fun e => by
    obtain ⟨j, hj⟩ := at' e
    exact mem_lookup (C.kinds _ (List.mem_of_getElem? hj)).1
  have tag : ∀ {i : Nat} {x : Str} {a : Addr}, (cxOf c)[i]? = some (x, .cel) → cells.lookup x = some a → owNew ow L (cxOf c) cells a = some (i + 3) := fun {i x a} e hl => by
    obtain ⟨a', e1, e2, e3, e4⟩ := ownc (celAt e)
    rw [hl] at e1; cases e1
    have hnone : ow a = none := by
      cases q : ow a with
      | none => rfl
      | some t => have := (old_lt (a := a) (by rw [q]; simp)).1; exact absurd e2 (by exact Nat.not_le_of_lt (Nat.lt_succ_of_lt this))
    unfold owNew
    rw [hnone]
    simp only
    rw [if_neg (by intro q; subst q; exact absurd e2 (Nat.not_succ_le_self _))]
    have : (cxOf c).findIdx? (fun p => p.2 == .cel && cells.lookup p.1 == some a) = some i := by
      rw [List.findIdx?_eq_some_iff_getElem]
      have hi := lt_of_at e
      refine ⟨hi, ?_, fun j hj => ?_⟩
      · rw [List.getElem?_eq_getElem hi] at e
        rw [Option.some.inj e]
        simp [hl]
      · have hj' : j < (cxOf c).length := Nat.lt_trans hj hi
        generalize hq : (cxOf c)[j] = p
        obtain ⟨y, k⟩ := p
        cases k with
        | loc => simp
        | fre => simp
        | cel =>
          have ej : (cxOf c)[j]? = some (y, .cel) := by rw [List.getElem?_eq_getElem hj', hq]
          have hne : y ≠ x := fun q => by
            subst q
            have pw := List.pairwise_iff_getElem.mp (show ((cxOf c).map (·.1)).Nodup by unfold cxOf; rw [List.map_map]; exact C.nodup)
            have := pw j i (by simpa using hj') (by simpa using hi) hj
            rw [List.getElem?_eq_getElem hi] at e
            simp [hq, Option.some.inj e] at this
          obtain ⟨b, f1, _, _, _⟩ := ownc (celAt ej)
          simp only [f1]
          have := e4 y b hne (celAt ej) f1
          simp [this]
    rw [this]; rfl
  have neI : ∀ {a : Addr}, L ≤ a → a ≠ I ∧ a ≠ D := fun {a} e => ⟨fun q => by subst q; exact absurd hIL (Nat.not_lt.mpr e), fun q => by subst q; exact absurd hDL (Nat.not_lt.mpr e)⟩
  have up : ∀ {a : Addr} {t : Nat}, owNew ow L (cxOf c) cells a = some t → a ≠ I → a ≠ D → tagged (tagged (owNew ow L (cxOf c) cells) I 2) D 2 a = some t := fun e e1 e2 => by rw [tagged_ne e2, tagged_ne e1]; exact e
  -- every mark: another's, or a new object
  have kinds : ∀ {a : Addr} {t : Nat}, tagged (tagged (owNew ow L (cxOf c) cells) I 2) D 2 a = some t → (t = 0 ∧ ow a ≠ none) ∨ (t ≠ 0 ∧ h.get? a = none ∧ (h3.get? a).isSome = true) := fun {a t} e => by
    by_cases hd : a = D
    · subst hd; rw [tagged_self] at e; cases e
      obtain ⟨o, ho⟩ := Option.isSome_iff_exists.mp hDs
      exact .inr ⟨by decide, hD, by rw [k3 _ o ho]; rfl⟩
    · rw [tagged_ne hd] at e
      by_cases hi : a = I
      · subst hi; rw [tagged_self] at e; cases e
        obtain ⟨o, ho⟩ := Option.isSome_iff_exists.mp hIs
        exact .inr ⟨by decide, hI, by rw [k3 _ o ho]; rfl⟩
      · rw [tagged_ne hi] at e
        unfold owNew at e
        split at e
        · rename_i u q; cases e; exact .inl ⟨rfl, by rw [q]; simp⟩
        · have notIn : ∀ {b : Addr}, L ≤ b → h.get? b = none := fun {b} hb => by
            cases q : h.get? b with
            | none => rfl
            | some o => exact absurd (lt_of (by rw [kp b o q]; rfl)) (Nat.not_lt.mpr hb)
          split at e
          · rename_i q; subst q; cases e
            obtain ⟨o, _, _, ho, _⟩ := hL3
            exact .inr ⟨by decide, notIn (Nat.le_refl _), by rw [ho]; rfl⟩
          · cases q : (cxOf c).findIdx? (fun p => p.2 == .cel && cells.lookup p.1 == some a) with
            | none => rw [q] at e; cases e
            | some i =>
              rw [q] at e; cases e
              obtain ⟨hi', hp', _⟩ := List.findIdx?_eq_some_iff_getElem.mp q
              generalize hq : (cxOf c)[i] = p at hp'
              obtain ⟨y, k⟩ := p
              simp only [Bool.and_eq_true, beq_iff_eq] at hp'
              obtain ⟨rfl, hl⟩ := hp'
              have ej : (cxOf c)[i]? = some (y, .cel) := by rw [List.getElem?_eq_getElem hi', hq]
              obtain ⟨b, f1, f2, f3, _⟩ := ownc (celAt ej)
              rw [hl] at f1; cases f1
              obtain ⟨o, ho, _⟩ := f3
              exact .inr ⟨by simp, notIn (Nat.le_of_succ_le f2), by rw [ho]; rfl⟩
  have l0 : Le0 ow h (tagged (tagged (owNew ow L (cxOf c) cells) I 2) D 2) h3 := ⟨fun a o f => by
    refine ⟨?_, kh a o f.2⟩
    cases q : tagged (tagged (owNew ow L (cxOf c) cells) I 2) D 2 a with
    | none => rfl
    | some t =>
      rcases kinds q with ⟨_, e⟩ | ⟨_, e, _⟩
      · exact absurd f.1 e
      · rw [f.2] at e; cases e⟩
  refine ⟨F.topIn, fun a e => ?_, kh, fun a t e => ?_, fun a e => ?_, fun a e => ?_, ?_, ⟨_, hL3, fun i x e => ?_⟩, ?_, fun i x e => ?_, fun i x e => ?_⟩
  · cases q : tagged (tagged (owNew ow L (cxOf c) cells) I 2) D 2 a with
    | none => exact absurd q e
    | some t =>
      rcases kinds q with ⟨_, e⟩ | ⟨_, e, _⟩
      · exact F.hi a e
      · exact F.hNone e
  · rcases kinds e with ⟨q, _⟩ | ⟨_, e1, e2⟩
    · cases q
    · exact ⟨e1, e2⟩
  · obtain ⟨_, e2, e3⟩ := old_lt e
    exact up (owNew_old e) e2 e3
  · rcases kinds e with ⟨_, e1⟩ | ⟨q, _⟩
    · exact F.ex e1
    · exact absurd rfl q
  · rw [len0]; unfold cxOf; simp
  · obtain ⟨j, hj⟩ := at' e
    rw [(sl0 i x .loc j hj).1 (by decide)]
    trivial
  · obtain ⟨e1, e2⟩ := neI (Nat.le_refl L)
    refine up ?_ e1 e2
    unfold owNew
    have : ow L = none := by
      cases q : ow L with
      | none => rfl
      | some t => exact absurd (old_lt (a := L) (by rw [q]; simp)).1 (Nat.lt_irrefl _)
    rw [this]
    simp
  · obtain ⟨j, hj⟩ := at' e
    obtain ⟨a, f1, f2, f3, _⟩ := ownc (celAt e)
    obtain ⟨e1, e2⟩ := neI (Nat.le_of_succ_le f2)
    refine ⟨a, none, f1, f3, up (tag e f1) e1 e2, ?_⟩
    rw [(sl0 i x .cel j hj).1 (by decide)]
    trivial
  · obtain ⟨j, hj⟩ := at' e
    obtain ⟨v, g1, g2⟩ := (sl0 i x .fre j hj).2 rfl
    obtain ⟨k1, _, _, k4⟩ := C.kinds _ (List.mem_of_getElem? hj)
    obtain ⟨k, m1, m2⟩ := k4 rfl
    have hfree : (x, NameKind.free) ∈ scope.names := mem_lookup k1
    have hnc : (x, NameKind.cell) ∉ scope.names := fun q => by
      have := (C.all _ q).1
      rw [k1] at this; cases this
    have hl : cells.lookup x = env.cells.lookup x := by rw [← hcs, cellsFrom_other _ _ _ hnc, hcl x hfree]
    cases k with
    | loc => exact absurd rfl m2
    | cel =>
      obtain ⟨a, w, n1, n2, _, n4⟩ := F.cel _ _ m1
      rw [g1] at n4
      obtain ⟨u, rfl, n5⟩ := n4
      exact ⟨a, u, v, by show cells.lookup x = _; rw [hl, n1], n2, g2, l0.vr n5⟩
    | fre =>
      obtain ⟨a, w, pv, n1, n2, n3, n4⟩ := F.fre _ _ m1
      rw [g1] at n3; cases n3
      exact ⟨a, w, v, by show cells.lookup x = _; rw [hl, n1], n2.keeps F.keep, g2, l0.vr n4⟩
end
end Mine
end
section
namespace Mine

structure NewL (ow : Addr → Option Nat) (h h' : Heap) (D C : Addr) (acc : List PV) : Prop where
  newD : h.get? D = none
  newC : h.get? C = none
  ne : D ≠ C
  keep : ∀ b o, h.get? b = some o → h'.get? b = some o
  ns : ∃ m, h'.Ns C m
  obj : ∃ vs k, h'.get? D = some (listObj vs k) ∧ VRs (fun a o => ow a = none ∧ a ≠ D ∧ a ≠ C ∧ h'.get? a = some o) acc vs

section
variable {prog : Program} {w : World} {H : Heap} {GT : List (Str × PV)} {n : Nat}

theorem comp_core {c : CI} {elt iter : E} {t : Tg} {ifs : Es} {rest : Gs} (hi : SndE prog w H GT n iter) (hts : SndTs prog w H GT n ifs) (hG : SndG prog w H GT n elt rest)
    {elt' t' iter' : Expr} {ifs' : List Expr} {gs' : List Comprehension} {scope : Scope} {pos pos' : Pos} {φ : Frame} {K : PV → Frame → Prop} {Γ : Cx} {gn : List Str} {env : Env} {fo : Addr → Prop} {base : Heap} {ow : Addr → Option Nat} {A : Around} {s : Shared} {Q X : Value → Shared → Prop} {use : Option (Value → Sem Unit)}
    (hc : chkE GT Γ gn (.comp c elt t iter ifs rest) (.ListComp elt' (⟨t', iter', ifs', 0⟩ :: gs') scope pos) = true) (hK : evE GT (Spec prog w H n) (.comp c elt t iter ifs rest) φ K)
    (EO : EnvOk Γ gn env) (AO : AOk n A) (F : FR H Γ env fo base φ ow s.heap)
    (hQ : ∀ D C acc φ' ow' h1 h5 tk, K (.list acc) φ' → acc.length ≤ 65536 → FR H Γ env fo base φ' ow' h1 → ES ow s.heap ow' h1 → NewL ow' h1 h5 D C acc →
      compPost (model prog w) A X use Q (.ref D) C (.ok .next) { s with heap := h5, toks := tk }) :
    wpAny (model prog w) A (comprehension (.ListComp elt' (⟨t', iter', ifs', 0⟩ :: gs') scope pos) scope env pos' (newList []) false (eval iter' env) use) Q X s := by
  replace hc := inv_comp hc
  obtain ⟨_, _, _, _, _, _, _, q, hc⟩ := hc
  cases q
  simp only [Bool.and_eq_true] at hc
  obtain ⟨⟨⟨⟨⟨⟨c1, c2⟩, c3⟩, c4⟩, c5⟩, c6⟩, c7⟩ := hc
  simp only [↓evE_const, ↓evE_var, ↓evE_glob, ↓evE_bin, ↓evE_cmp, ↓evE_ife, ↓evE_call, ↓evE_lenv, ↓evE_meth, ↓evE_sub, ↓evE_subv, ↓evE_slc, ↓evE_list, ↓evE_tup, ↓evE_comp] at hK
  have C := chkC_spec c2
  have fs : ∀ x, foldedSetIterable iter' env x = pure x := fun x => by
    cases iter' <;> first | rfl | (cases c1)
  obtain ⟨cl, hclos, hcl⟩ := closureFor_ok (free_cells F C)
  refine wpAny_comprehension_free rfl fs hclos C.fn (fun x hx hl => by rw [← hl]; exact (C.all x hx).1) ?_
  refine hi _ φ _ Γ gn env fo base ow A s _ _ c3 hK EO AO F ?_
  intro v pv φ1 ow1 h1 tk1 hK1 F1 st1 v1
  obtain ⟨items, φ₀, hit, hst0, hK1⟩ := hK1
  refine pyIter_ok (ow := ow1) v1 hit AO.hh fun I h2 tk2 St P fp hIn kp hIs T hst => ?_
  refine newList_ok (ow := ow1) (xs := []) (by unfold VRs; rfl) (by simp) ?_
  refine newEnv_ok ?_
  dsimp only
  have kp3 : ∀ b o, h2.get? b = some o → (h2.push (listObj [] 0)).get? b = some o := push_keep _ _
  have hDn : h1.get? h2.objs.size = none := by
    cases q : h1.get? h2.objs.size with
    | none => rfl
    | some o => have := kp _ o q; rw [get_none_size] at this; cases this
  have hDs : (h2.push (listObj [] 0)).get? h2.objs.size = some (listObj [] 0) := Heap.get?_push_size _ rfl
  have hIs3 : ((h2.push (listObj [] 0)).get? I).isSome = true := by
    obtain ⟨o, ho⟩ := Option.isSome_iff_exists.mp hIs
    rw [kp3 _ o ho]; rfl
  have F4 := FR.comp F1 C hst0 hcl (fun b o e => kp3 b o (kp b o e)) hIn hIs3 hDn (by rw [hDs]; rfl)
  have EO4 := envOk_comp EO C (h2.push (listObj [] 0)).objs.size (cellsFrom ((h2.push (listObj [] 0)).objs.size + 1) scope.names cl)
  have kp4 : ∀ b o, (h2.push (listObj [] 0)).get? b = some o → (pushCells ((h2.push (listObj [] 0)).push { cls := .type "dict", data := .dict #[] }) scope.names).get? b = some o :=
    fun b o e => pushCells_keeps _ _ _ _ (Heap.get?_push_of_some _ e)
  have hLn : h1.get? (h2.push (listObj [] 0)).objs.size = none := by
    cases q : h1.get? (h2.push (listObj [] 0)).objs.size with
    | none => rfl
    | some o => have := kp3 _ o (kp _ o q); rw [get_none_size] at this; cases this
  generalize hL : (h2.push (listObj [] 0)).objs.size = L at F4 EO4 hLn ⊢
  generalize hcs : cellsFrom (L + 1) scope.names cl = cells at F4 EO4 ⊢
  generalize hD : h2.objs.size = D at F4 hDn hDs ⊢
  generalize hh4 : pushCells ((h2.push (listObj [] 0)).push { cls := .type "dict", data := .dict #[] }) scope.names = h4 at F4 kp4 ⊢
  have hDI : I ≠ D := fun q => by
    subst q
    obtain ⟨o, ho⟩ := Option.isSome_iff_exists.mp hIs
    have h9 := Heap.lt_size ho
    rw [hD] at h9
    exact Nat.lt_irrefl _ h9
  have l0 : Le0 ow1 h1 (tagged (tagged (owNew ow1 L (cxOf c) cells) I 2) D 2) h4 := ⟨fun a o f => by
    refine ⟨?_, kp4 _ _ (kp3 _ _ (kp _ _ f.2))⟩
    have haD : a ≠ D := fun q => by subst q; have := f.2; rw [hDn] at this; cases this
    have haI : a ≠ I := fun q => by subst q; have := f.2; rw [hIn] at this; cases this
    cases q : tagged (tagged (owNew ow1 L (cxOf c) cells) I 2) D 2 a with
    | none => rfl
    | some u =>
      cases u with
      | zero =>
        rw [tagged_ne haD, tagged_ne haI] at q
        exact absurd f.1 (owNew_zero q)
      | succ u =>
        have := (F4.own a u q).1
        rw [f.2] at this; cases this⟩
  have hst4 : St 0 h4 := T.walk.frame _ _ _ hst fun b _ o e => kp4 _ _ (kp3 _ _ e)
  refine comp_start T hst4 (g := ⟨t', iter', ifs', 0⟩) rfl rfl ?_
  refine comp_iter hts hG (d := 0) rfl rfl c4 c5 c6 c7 T l0 hK1 EO4 AO ⟨F4, ?_, hst4⟩ ⟨tagged_self, [], 0, kp4 _ _ hDs, VRs.nil'⟩ hDI ?_
  · rw [tagged_ne hDI]; exact tagged_self
  · intro φ5 acc5 ow5 h5 tk5 hK5 F5 hA5 x5
    obtain ⟨a1, vs, k, a2, a3⟩ := hA5
    obtain ⟨m, hm, _⟩ := F5.ns
    have nso : ow5 L = some 1 := F5.nso
    have hDL : D ≠ L := fun q => by
      subst q
      rw [nso] at a1; cases a1
    refine hQ D L acc5 φ1 ow1 h1 h5 tk5 hK5.2 hK5.1 F1 st1 ⟨hDn, hLn, hDL, F5.keep, ⟨m, hm⟩, vs, k, a2, VRs.mono (fun a o f => ⟨?_, ?_, ?_, f.2⟩) _ _ a3⟩
    · cases q : ow1 a with
      | none => rfl
      | some u =>
        have := F5.for1 a (by rw [q]; simp)
        rw [f.1] at this; cases this
    · intro q; subst q; have h9 : ow5 a = none := f.1; rw [a1] at h9; cases h9
    · intro q; subst q
      have h9 : ow5 a = none := f.1; rw [nso] at h9; cases h9
end
end Mine
end
section
namespace Mine

section
variable {prog : Program} {w : World} {H : Heap} {GT : List (Str × PV)} {n : Nat}

theorem snd_comp {c : CI} {elt iter : E} {t : Tg} {ifs : Es} {rest : Gs} (hi : SndE prog w H GT n iter) (hts : SndTs prog w H GT n ifs) (hG : SndG prog w H GT n elt rest) : SndE prog w H GT n (.comp c elt t iter ifs rest) := by
  intro ex φ K Γ gn env fo base ow A s Q X hc hK EO AO F hQ
  have hc0 := hc
  replace hc0 := inv_comp hc0
  · obtain ⟨elt', t', iter', ifs', gs', scope, pos, rfl, _⟩ := hc0
    rw [eval_ListComp]
    show wpAny _ A (comprehension _ scope env _ (newList []) false (eval iter' env) none) Q X s
    refine comp_core hi hts hG hc hK EO AO F fun D C acc φ' ow' h1 h5 tk hk hl F1 st1 N => ?_
    obtain ⟨m, hm⟩ := N.ns
    refine ⟨m, hm, fun h' hs => ?_⟩
    have k5 : ∀ b o, b ≠ C → h5.get? b = some o → h'.get? b = some o := fun b o hb e => hs.extBut b o hb e
    have k' : ∀ b o, h1.get? b = some o → h'.get? b = some o := fun b o e => k5 b o (fun q => by subst q; rw [N.newC] at e; cases e) (N.keep b o e)
    refine hQ _ (.list acc) φ' ow' h' tk hk (F1.keeps k') (st1.trans (.keeps k')) ?_
    obtain ⟨vs, k, e1, e2⟩ := N.obj
    have z : sizeLine = 16777216 := rfl
    exact vr_listObj (vs := vs) (n := k) (k5 _ _ N.ne e1) (F1.fresh N.newD) (VRs.mono (fun a o f => ⟨f.1, k5 a o f.2.2.1 f.2.2.2⟩) _ _ e2) (by lia)

theorem sndE_no {e : E} (h : ∀ φ K, evE GT (Spec prog w H n) e φ K → False) : SndE prog w H GT n e := by
  intro ex φ K Γ gn env fo base ow A s Q X hc hK EO AO F hQ
  exact (h _ _ hK).elim

mutual
theorem sndE (T : Tops prog w H GT n) : ∀ e : E, SndE prog w H GT n e ∧ SndT prog w H GT n e
  | .const v => ⟨snd_const v, sndT_no fun φ K h => by simp only [↓evT_cmp, ↓evT_call, ↓evT_const, ↓evT_var, ↓evT_glob, ↓evT_bin, ↓evT_ife, ↓evT_lenv, ↓evT_meth, ↓evT_sub, ↓evT_subv, ↓evT_slc, ↓evT_list, ↓evT_tup, ↓evT_comp] at h⟩
  | .var i => ⟨snd_var i, sndT_no fun φ K h => by simp only [↓evT_cmp, ↓evT_call, ↓evT_const, ↓evT_var, ↓evT_glob, ↓evT_bin, ↓evT_ife, ↓evT_lenv, ↓evT_meth, ↓evT_sub, ↓evT_subv, ↓evT_slc, ↓evT_list, ↓evT_tup, ↓evT_comp] at h⟩
  | .glob k => ⟨snd_glob T k, sndT_no fun φ K h => by simp only [↓evT_cmp, ↓evT_call, ↓evT_const, ↓evT_var, ↓evT_glob, ↓evT_bin, ↓evT_ife, ↓evT_lenv, ↓evT_meth, ↓evT_sub, ↓evT_subv, ↓evT_slc, ↓evT_list, ↓evT_tup, ↓evT_comp] at h⟩
  | .bin op l r => ⟨snd_bin (sndE T l).1 (sndE T r).1, sndT_no fun φ K h => by simp only [↓evT_cmp, ↓evT_call, ↓evT_const, ↓evT_var, ↓evT_glob, ↓evT_bin, ↓evT_ife, ↓evT_lenv, ↓evT_meth, ↓evT_sub, ↓evT_subv, ↓evT_slc, ↓evT_list, ↓evT_tup, ↓evT_comp] at h⟩
  | .cmp op l r => ⟨snd_cmp (sndE T l).1 (sndE T r).1, sndT_cmp (sndE T l).1 (sndE T r).1⟩
  | .ife t a b => ⟨snd_ife (sndE T t).2 (sndE T a).1 (sndE T b).1, sndT_no fun φ K h => by simp only [↓evT_cmp, ↓evT_call, ↓evT_const, ↓evT_var, ↓evT_glob, ↓evT_bin, ↓evT_ife, ↓evT_lenv, ↓evT_meth, ↓evT_sub, ↓evT_subv, ↓evT_slc, ↓evT_list, ↓evT_tup, ↓evT_comp] at h⟩
  | .call f as => ⟨snd_call T (sndE T f).1 (sndEs T as).1, sndT_call T (sndE T f).1 (sndEs T as).1⟩
  | .lenv k i => ⟨snd_lenv T k i, sndT_no fun φ K h => by simp only [↓evT_cmp, ↓evT_call, ↓evT_const, ↓evT_var, ↓evT_glob, ↓evT_bin, ↓evT_ife, ↓evT_lenv, ↓evT_meth, ↓evT_sub, ↓evT_subv, ↓evT_slc, ↓evT_list, ↓evT_tup, ↓evT_comp] at h⟩
  | .meth o m as => ⟨snd_meth T (sndE T o).1 (sndEs T as).1, sndT_no fun φ K h => by simp only [↓evT_cmp, ↓evT_call, ↓evT_const, ↓evT_var, ↓evT_glob, ↓evT_bin, ↓evT_ife, ↓evT_lenv, ↓evT_meth, ↓evT_sub, ↓evT_subv, ↓evT_slc, ↓evT_list, ↓evT_tup, ↓evT_comp] at h⟩
  | .sub o i => ⟨snd_sub (sndE T o).1 (sndE T i).1, sndT_no fun φ K h => by simp only [↓evT_cmp, ↓evT_call, ↓evT_const, ↓evT_var, ↓evT_glob, ↓evT_bin, ↓evT_ife, ↓evT_lenv, ↓evT_meth, ↓evT_sub, ↓evT_subv, ↓evT_slc, ↓evT_list, ↓evT_tup, ↓evT_comp] at h⟩
  | .subv j i => ⟨snd_subv (sndE T i).1, sndT_no fun φ K h => by simp only [↓evT_cmp, ↓evT_call, ↓evT_const, ↓evT_var, ↓evT_glob, ↓evT_bin, ↓evT_ife, ↓evT_lenv, ↓evT_meth, ↓evT_sub, ↓evT_subv, ↓evT_slc, ↓evT_list, ↓evT_tup, ↓evT_comp] at h⟩
  | .slc o lo hi => ⟨snd_slc (sndE T o).1 (sndO T lo) (sndO T hi), sndT_no fun φ K h => by simp only [↓evT_cmp, ↓evT_call, ↓evT_const, ↓evT_var, ↓evT_glob, ↓evT_bin, ↓evT_ife, ↓evT_lenv, ↓evT_meth, ↓evT_sub, ↓evT_subv, ↓evT_slc, ↓evT_list, ↓evT_tup, ↓evT_comp] at h⟩
  | .list es => ⟨snd_list (sndEs T es).1, sndT_no fun φ K h => by simp only [↓evT_cmp, ↓evT_call, ↓evT_const, ↓evT_var, ↓evT_glob, ↓evT_bin, ↓evT_ife, ↓evT_lenv, ↓evT_meth, ↓evT_sub, ↓evT_subv, ↓evT_slc, ↓evT_list, ↓evT_tup, ↓evT_comp] at h⟩
  | .tup es => ⟨snd_tup (sndEs T es).1, sndT_no fun φ K h => by simp only [↓evT_cmp, ↓evT_call, ↓evT_const, ↓evT_var, ↓evT_glob, ↓evT_bin, ↓evT_ife, ↓evT_lenv, ↓evT_meth, ↓evT_sub, ↓evT_subv, ↓evT_slc, ↓evT_list, ↓evT_tup, ↓evT_comp] at h⟩
  | .comp c elt t iter ifs rest => ⟨snd_comp (sndE T iter).1 (sndEs T ifs).2 (sndG T rest elt (sndE T elt).1), sndT_no fun φ K h => by simp only [↓evT_cmp, ↓evT_call, ↓evT_const, ↓evT_var, ↓evT_glob, ↓evT_bin, ↓evT_ife, ↓evT_lenv, ↓evT_meth, ↓evT_sub, ↓evT_subv, ↓evT_slc, ↓evT_list, ↓evT_tup, ↓evT_comp] at h⟩
theorem sndEs (T : Tops prog w H GT n) : ∀ es : Es, SndEs prog w H GT n es ∧ SndTs prog w H GT n es
  | .nil => ⟨snd_enil, snd_tnil⟩
  | .cons e es => ⟨snd_econs (sndE T e).1 (sndEs T es).1, snd_tcons (sndE T e).2 (sndEs T es).2⟩
theorem sndO (T : Tops prog w H GT n) : ∀ o : Oe, SndO prog w H GT n o
  | .no => snd_ono
  | .yes e => snd_oyes (sndE T e).1
theorem sndG (T : Tops prog w H GT n) : ∀ (gs : Gs) (elt : E), SndE prog w H GT n elt → SndG prog w H GT n elt gs
  | .nil, _, h => snd_gnil h
  | .cons t iter ifs rest, elt, h => snd_gcons (sndE T iter).1 (sndEs T ifs).2 (sndG T rest elt h)
end

theorem comp_store {Γ : Cx} {gn : List Str} {env : Env} {fo : Addr → Prop} {base : Heap} {φ : Frame} {ow : Addr → Option Nat} {A : Around} {s : Shared} {X : Value → Shared → Prop} {Q : Unit → Shared → Prop}
    {h1 : Heap} {D C : Addr} {acc : List PV} {i : Nat} {x : Str} {own : Bool} (EO : EnvOk Γ gn env) (F : FR H Γ env fo base φ ow h1) (N : NewL ow h1 s.heap D C acc) (hl : acc.length ≤ 65536) (hx : Γ[i]? = some (x, .loc))
    (hQ : ∀ (h2 h' : Heap) (tk : Nat) (ow' : Addr → Option Nat), (∃ m, h2.Ns C m) → (∀ h', Heap.SameBut C h2 h' → FR H Γ env fo base (φ.set i (if own then .own acc else .val (.list acc))) ow' h' ∧ Le ow h1 ow' h') → Q () { s with heap := h2, toks := tk }) :
    wpAny (model prog w) A (storeName env x (.ref D)) Q X s := by
  obtain ⟨vs, k, e1, e2⟩ := N.obj
  obtain ⟨m, hm⟩ := N.ns
  have z : sizeLine = 16777216 := rfl
  have hCs : (s.heap.get? C).isSome = true := by
    obtain ⟨o, _, _, ho, _⟩ := hm
    rw [ho]; rfl
  have neD : ∀ b o, h1.get? b = some o → b ≠ D := fun b o e q => by subst q; rw [N.newD] at e; cases e
  have neC : ∀ b o, h1.get? b = some o → b ≠ C := fun b o e q => by subst q; rw [N.newC] at e; cases e
  have F1 : FR H Γ env fo base φ (tagged ow C 2) s.heap := F.tag N.keep N.newC hCs 1
  have l1 : Le ow h1 (tagged ow C 2) s.heap := ⟨⟨fun a o f => ⟨by rw [tagged_ne (neC a o f.2)]; exact f.1, N.keep a o f.2⟩⟩, fun a o e f => ⟨by rw [tagged_ne (neC a o f)]; exact e, N.keep a o f⟩⟩
  have fin : ∀ {ow1 ow2 : Addr → Option Nat} {φ' : Frame} {h2 : Heap}, ow1 C = some 2 → Le ow h1 ow1 s.heap → FR H Γ env fo base φ' ow2 h2 → Le ow1 s.heap ow2 h2 → (∃ m, h2.Ns C m) ∧ ∀ h', Heap.SameBut C h2 h' → FR H Γ env fo base φ' (untag ow2 C) h' ∧ Le ow h1 (untag ow2 C) h' := by
    intro ow1 ow2 φ' h2 oC l1 F2 l2
    obtain ⟨o, ho⟩ := Option.isSome_iff_exists.mp hCs
    obtain ⟨p, q⟩ := l2.two C o oC ho
    refine ⟨⟨m, ?_⟩, fun h' hs => ?_⟩
    · obtain ⟨o', es, ep, ho', r⟩ := hm
      rw [ho] at ho'; cases ho'
      exact ⟨o, es, ep, q, r⟩
    · have kb : ∀ b o, b ≠ C → h2.get? b = some o → h'.get? b = some o := fun b o hb e => hs.extBut b o hb e
      refine ⟨F2.drop2 p kb, ⟨fun a o f => ?_⟩, fun a o e f => ?_⟩
      · have hb := neC a o f.2
        have g := (l1.trans l2).fz a o f
        exact ⟨by rw [untag_ne hb]; exact g.1, kb a o hb g.2⟩
      · have hb := neC a o f
        obtain ⟨g1, g2⟩ := (l1.trans l2).two a o e f
        exact ⟨by rw [untag_ne hb]; exact g1, kb a o hb g2⟩
  cases own with
  | false =>
    have vr : VR (Fz (tagged ow C 2) s.heap) (.list acc) (.ref D) := vr_listObj (vs := vs) (n := k) e1 (by rw [tagged_ne N.ne]; exact F.fresh N.newD) (VRs.mono (fun a o f => ⟨by rw [tagged_ne f.2.2.1]; exact f.1, f.2.2.2⟩) _ _ e2) (by lia)
    refine store_val EO F1 hx (by decide) vr fun h' tk F2 l2 => ?_
    obtain ⟨g1, g2⟩ := fin tagged_self l1 F2 l2
    exact hQ h' h' tk _ g1 g2
  | true =>
    have F2 : FR H Γ env fo base φ (tagged (tagged ow D (i + 3)) C 2) s.heap := by
      refine F.grow N.keep (fun a e => ?_) fun a e q => ?_
      · obtain ⟨o, ho⟩ := Option.isSome_iff_exists.mp e
        rw [tagged_ne (neC a o ho), tagged_ne (neD a o ho)]
      · by_cases hc : a = C
        · subst hc; exact ⟨hCs, by rw [tagged_self]; simp⟩
        · rw [tagged_ne hc] at q ⊢
          by_cases hd : a = D
          · subst hd; exact ⟨by rw [e1]; rfl, by rw [tagged_self]; simp⟩
          · rw [tagged_ne hd] at q; exact absurd (F.fresh e) q
    have l2 : Le ow h1 (tagged (tagged ow D (i + 3)) C 2) s.heap := ⟨⟨fun a o f => ⟨by rw [tagged_ne (neC a o f.2), tagged_ne (neD a o f.2)]; exact f.1, N.keep a o f.2⟩⟩, fun a o e f => ⟨by rw [tagged_ne (neC a o f), tagged_ne (neD a o f)]; exact e, N.keep a o f⟩⟩
    refine store_loc (sl := .own acc) EO F2 hx (fun h' l k' => ?_) fun h' tk F3 l3 => ?_
    · refine ⟨D, vs, k, rfl, by rw [tagged_ne N.ne]; exact tagged_self, k' D _ (by rw [tagged_ne N.ne, tagged_self]; simp) e1, l.vrs (VRs.mono (fun a o f => ⟨by rw [tagged_ne f.2.2.1, tagged_ne f.2.1]; exact f.1, f.2.2.2⟩) _ _ e2)⟩
    · obtain ⟨g1, g2⟩ := fin tagged_self l2 F3 l3
      exact hQ h' h' tk _ g1 g2
end
end Mine
end
section
namespace Mine

noncomputable def notTup : Expr → Bool
  | .Tuple .. => false
  | _ => true
noncomputable def notComp : Expr → Bool
  | .ListComp .. => false
  | .SetComp .. => false
  | .DictComp .. => false
  | _ => true
noncomputable def isMany : Tg → Bool
  | .many _ => true
  | _ => false
noncomputable def stIsAssign (kf : List Expr → Expr → Pos → Bool) : Stmt → Bool
  | .Assign ts e p => kf ts e p
  | _ => false
theorem stIsAssign_ok {kf : List Expr → Expr → Pos → Bool} {st : Stmt} (h : stIsAssign kf st = true) : ∃ ts e p, st = .Assign ts e p ∧ kf ts e p = true := by
  cases st with
  | Assign => exact ⟨_, _, _, rfl, h⟩
  | _ => exact (Bool.false_ne_true h).elim
noncomputable def stIsAugAssign (kf : Expr → Operator → Expr → Pos → Bool) : Stmt → Bool
  | .AugAssign t op e p => kf t op e p
  | _ => false
theorem stIsAugAssign_ok {kf : Expr → Operator → Expr → Pos → Bool} {st : Stmt} (h : stIsAugAssign kf st = true) : ∃ t op e p, st = .AugAssign t op e p ∧ kf t op e p = true := by
  cases st with
  | AugAssign => exact ⟨_, _, _, _, rfl, h⟩
  | _ => exact (Bool.false_ne_true h).elim
noncomputable def stIsExpr (kf : Expr → Pos → Bool) : Stmt → Bool
  | .Expr e p => kf e p
  | _ => false
theorem stIsExpr_ok {kf : Expr → Pos → Bool} {st : Stmt} (h : stIsExpr kf st = true) : ∃ e p, st = .Expr e p ∧ kf e p = true := by
  cases st with
  | Expr => exact ⟨_, _, rfl, h⟩
  | _ => exact (Bool.false_ne_true h).elim
noncomputable def stIsFor (kf : Expr → Expr → List Stmt → List Stmt → Pos → Bool) : Stmt → Bool
  | .For t i b o p => kf t i b o p
  | _ => false
theorem stIsFor_ok {kf : Expr → Expr → List Stmt → List Stmt → Pos → Bool} {st : Stmt} (h : stIsFor kf st = true) : ∃ t i b o p, st = .For t i b o p ∧ kf t i b o p = true := by
  cases st with
  | For => exact ⟨_, _, _, _, _, rfl, h⟩
  | _ => exact (Bool.false_ne_true h).elim
noncomputable def stIsIf (kf : Expr → List Stmt → List Stmt → Pos → Bool) : Stmt → Bool
  | .If t a b p => kf t a b p
  | _ => false
theorem stIsIf_ok {kf : Expr → List Stmt → List Stmt → Pos → Bool} {st : Stmt} (h : stIsIf kf st = true) : ∃ t a b p, st = .If t a b p ∧ kf t a b p = true := by
  cases st with
  | If => exact ⟨_, _, _, _, rfl, h⟩
  | _ => exact (Bool.false_ne_true h).elim
noncomputable def stIsReturn (kf : Option Expr → Pos → Bool) : Stmt → Bool
  | .Return e p => kf e p
  | _ => false
theorem stIsReturn_ok {kf : Option Expr → Pos → Bool} {st : Stmt} (h : stIsReturn kf st = true) : ∃ e p, st = .Return e p ∧ kf e p = true := by
  cases st with
  | Return => exact ⟨_, _, rfl, h⟩
  | _ => exact (Bool.false_ne_true h).elim
noncomputable def stIsBreak (kf : Pos → Bool) : Stmt → Bool
  | .Break p => kf p
  | _ => false
theorem stIsBreak_ok {kf : Pos → Bool} {st : Stmt} (h : stIsBreak kf st = true) : ∃ p, st = .Break p ∧ kf p = true := by
  cases st with
  | Break => exact ⟨_, rfl, h⟩
  | _ => exact (Bool.false_ne_true h).elim
noncomputable def listTy : Option (Str × PV) → Bool
  | some p => (match p.2 with
    | .raw v => (match v with
      | .type T => T == "list"
      | _ => false)
    | _ => false)
  | none => false
theorem listTy_ok {o : Option (Str × PV)} (h : listTy o = true) : ∃ y, o = some (y, .raw (.type "list")) := by
  cases o with
  | none => exact (Bool.false_ne_true h).elim
  | some p =>
    obtain ⟨y, v⟩ := p
    cases v with
    | raw v => cases v with
      | type T => obtain rfl : T = "list" := beq_iff_eq.mp h; exact ⟨_, rfl⟩
      | _ => exact (Bool.false_ne_true h).elim
    | _ => exact (Bool.false_ne_true h).elim
section
variable (GT : List (Str × PV))
noncomputable def newA : Es → Bool
  | .nil => false
  | .cons _ r => (match r with
    | .nil => true
    | .cons _ _ => false)
noncomputable def newE : E → Bool
  | .list _ => true
  | .comp .. => true
  | .call f as => (match f with
    | .glob k => newA as && listTy GT[k]?
    | _ => false)
  | _ => false
mutual
noncomputable def chkS (Γ : Cx) (gn : List Str) : S → Stmt → Bool
  | .asg t e, st => stIsAssign (fun ts e' _ => hdP (fun t' => chkT Γ t t' && chkE GT Γ gn e e' && (notTup e' || isName t')) nilP ts) st
  | .own i e, st => stIsAssign (fun ts e' _ => hdP (onName fun x _ => ownAt Γ i x && chkE GT Γ gn e e' && newE GT e) nilP ts) st
  | .swap j a b e, st => stIsAssign (fun ts e' _ => hdP (onTuple fun us _ _ => hdP (onSubscript fun o a' _ => onName (fun x _ => ownAt Γ j x) o && chkE GT Γ gn a a') (hdP (onSubscript fun o b' _ => onName (fun y _ => ownAt Γ j y) o && chkE GT Γ gn b b') nilP) us) nilP ts && (onTuple (fun es _ _ => hdP (onSubscript fun _ _ _ => true) (hdP (onSubscript fun _ _ _ => true) nilP) es) e' && chkE GT Γ gn e e')) st
  | .app j e, st => stIsExpr (fun c _ => onCall (fun f as ks p => nilP ks && (hdP (fun e' => chkE GT Γ gn e e') nilP as && onAttribute (fun o m ap => m == ("append" : Str) && (onName (fun x _ => ownAt Γ j x) o && ap.endLine == p.line)) f)) c) st
  | .loop t iter body orelse, st => stIsFor (fun t' iter' body' orelse' _ => notSet iter' && chkT Γ t t' && chkE GT Γ gn iter iter' && chkB Γ gn body body' && chkB Γ gn orelse orelse') st
  | .enum k t iter body orelse, st => stIsFor (fun t' c body' orelse' _ => onCall (fun f as ks _ => nilP ks && (onName (fun f _ => globIs GT gn k f && isMany t && chkT Γ t t') f && hdP (fun iter' => chkE GT Γ gn iter iter') nilP as)) c && chkB Γ gn body body' && chkB Γ gn orelse orelse') st
  | .ife t a b, st => stIsIf (fun t' a' b' _ => chkE GT Γ gn t t' && chkB Γ gn a a' && chkB Γ gn b b') st
  | .ret e, st => stIsReturn (fun o _ => someP (fun e' => chkE GT Γ gn e e') o) st
  | .brk, st => stIsBreak (fun _ => true) st
  | .ifX op f as r a b, st => stIsIf (fun c a' b' _ => onCompare (fun e' os rs _ => hdP (fun o => decide (op = o)) nilP os && (hdP (fun r' => notSet r' && chkE GT Γ gn r r') nilP rs && chkE GT Γ gn (.call f as) e')) c && chkB Γ gn a a' && chkB Γ gn b b') st
noncomputable def chkB (Γ : Cx) (gn : List Str) : Bs → List Stmt → Bool
  | .nil, xs => nilP xs
  | .cons s r, xs => hdP (fun st => chkS Γ gn s st) (fun xs => chkB Γ gn r xs) xs
end
end

theorem ownAt_uniq {Γ : Cx} {i : Nat} {x y : Str} (h : ownAt Γ i x = true) (k : ownAt Γ i y = true) : (x == y) = true := by
  have h1 := ownAt_spec h
  rw [ownAt_spec k] at h1
  cases h1
  exact beq_self_eq_true x
section
variable {GT : List (Str × PV)} {Γ : Cx} {gn : List Str} {st : Stmt}
theorem inv_asg {t : Tg} {e : E} (h : chkS GT Γ gn (.asg t e) st = true) : ∃ t' e' p, st = .Assign [t'] e' p ∧ (chkT Γ t t' && chkE GT Γ gn e e' && (notTup e' || isName t')) = true := by
  obtain ⟨ts, e', p, rfl, h1⟩ := stIsAssign_ok h
  obtain ⟨t', rfl, h2⟩ := one_ok h1
  exact ⟨_, _, _, rfl, h2⟩
theorem inv_own {i : Nat} {e : E} (h : chkS GT Γ gn (.own i e) st = true) : ∃ x xp e' p, st = .Assign [.Name x xp] e' p ∧ (ownAt Γ i x && chkE GT Γ gn e e' && newE GT e) = true := by
  obtain ⟨ts, e', p, rfl, h1⟩ := stIsAssign_ok h
  obtain ⟨t', rfl, h2⟩ := one_ok h1
  obtain ⟨x, q, rfl, h3⟩ := onName_ok h2
  exact ⟨_, _, _, _, rfl, h3⟩
inductive IsSwap (GT : List (Str × PV)) (Γ : Cx) (gn : List Str) (j : Nat) (a b e : E) : Stmt → Prop
  | mk (x : Str) (xp yp kp p : Pos) (a' b' u1 u2 v1 v2 : Expr) (ap bp u3 v3 : Pos) (kk k2 : Nat) (p2 : Pos) (c1 : ownAt Γ j x = true) (c2 : chkE GT Γ gn e (.Tuple [.Subscript u1 u2 u3, .Subscript v1 v2 v3] k2 p2) = true) (c3 : chkE GT Γ gn a a' = true) (c4 : chkE GT Γ gn b b' = true) :
    IsSwap GT Γ gn j a b e (.Assign [.Tuple [.Subscript (.Name x xp) a' ap, .Subscript (.Name x yp) b' bp] kk kp] (.Tuple [.Subscript u1 u2 u3, .Subscript v1 v2 v3] k2 p2) p)
theorem inv_swap {j : Nat} {a b e : E} (h : chkS GT Γ gn (.swap j a b e) st = true) : IsSwap GT Γ gn j a b e st := by
  obtain ⟨ts, e', p, rfl, h1⟩ := stIsAssign_ok h
  obtain ⟨t', rfl, h2⟩ := one_ok (and_l h1)
  obtain ⟨us, k, q, rfl, h3⟩ := onTuple_ok h2
  obtain ⟨u, us, rfl, h4, h5⟩ := hdP_ok h3
  obtain ⟨v, rfl, h6⟩ := one_ok h5
  obtain ⟨o, a', q2, rfl, h7⟩ := onSubscript_ok h4
  obtain ⟨o2, b', q3, rfl, h8⟩ := onSubscript_ok h6
  obtain ⟨x, q4, rfl, h9⟩ := onName_ok (and_l h7)
  obtain ⟨y, q5, rfl, h10⟩ := onName_ok (and_l h8)
  obtain ⟨ws, k2, p2, rfl, g3⟩ := onTuple_ok (and_l (and_r h1))
  obtain ⟨w1, ws, rfl, g4, g5⟩ := hdP_ok g3
  obtain ⟨w2, rfl, g6⟩ := one_ok g5
  obtain ⟨u1, u2, u3, rfl, _⟩ := onSubscript_ok g4
  obtain ⟨v1, v2, v3, rfl, _⟩ := onSubscript_ok g6
  obtain rfl : y = x := beq_iff_eq.mp (ownAt_uniq h10 h9)
  exact .mk y q4 q5 q p a' b' u1 u2 v1 v2 q2 q3 u3 v3 k k2 p2 h9 (and_r (and_r h1)) (and_r h7) (and_r h8)
inductive IsApp (GT : List (Str × PV)) (Γ : Cx) (gn : List Str) (j : Nat) (e : E) : Stmt → Prop
  | mk (x : Str) (xp ap p pos : Pos) (e' : Expr) (c1 : ownAt Γ j x = true) (hl : (ap.endLine == p.line) = true) (c2 : chkE GT Γ gn e e' = true) : IsApp GT Γ gn j e (.Expr (.Call (.Attribute (.Name x xp) "append" ap) [e'] [] p) pos)
theorem inv_app {j : Nat} {e : E} (h : chkS GT Γ gn (.app j e) st = true) : IsApp GT Γ gn j e st := by
  obtain ⟨c, pos, rfl, h1⟩ := stIsExpr_ok h
  obtain ⟨f, as, ks, p, rfl, h2⟩ := onCall_ok h1
  obtain rfl := nilP_ok (and_l h2)
  obtain ⟨e', rfl, h3⟩ := one_ok (and_l (and_r h2))
  obtain ⟨o, m, ap, rfl, h4⟩ := onAttribute_ok (and_r (and_r h2))
  obtain rfl : m = "append" := beq_iff_eq.mp (and_l h4)
  obtain ⟨x, q, rfl, h5⟩ := onName_ok (and_l (and_r h4))
  exact .mk x q ap p pos e' h5 (and_r (and_r h4)) h3
theorem inv_loop {t : Tg} {iter : E} {body orelse : Bs} (h : chkS GT Γ gn (.loop t iter body orelse) st = true) : ∃ t' iter' body' orelse' p, st = .For t' iter' body' orelse' p ∧ (notSet iter' && chkT Γ t t' && chkE GT Γ gn iter iter' && chkB GT Γ gn body body' && chkB GT Γ gn orelse orelse') = true := by
  exact stIsFor_ok h
inductive IsEnumS (GT : List (Str × PV)) (Γ : Cx) (gn : List Str) (k : Nat) (t : Tg) (iter : E) (body orelse : Bs) : Stmt → Prop
  | mk (t' : Expr) (f : Str) (fp p pos : Pos) (iter' : Expr) (body' orelse' : List Stmt) (c1 : globIs GT gn k f = true) (cm : isMany t = true) (c2 : chkT Γ t t' = true) (c3 : chkE GT Γ gn iter iter' = true) (c4 : chkB GT Γ gn body body' = true) (c5 : chkB GT Γ gn orelse orelse' = true) :
    IsEnumS GT Γ gn k t iter body orelse (.For t' (.Call (.Name f fp) [iter'] [] p) body' orelse' pos)
theorem inv_enum {k : Nat} {t : Tg} {iter : E} {body orelse : Bs} (h : chkS GT Γ gn (.enum k t iter body orelse) st = true) : IsEnumS GT Γ gn k t iter body orelse st := by
  obtain ⟨t', c, b, o, pos, rfl, h1⟩ := stIsFor_ok h
  obtain ⟨f, as, ks, p, rfl, h2⟩ := onCall_ok (and_l (and_l h1))
  obtain rfl := nilP_ok (and_l h2)
  obtain ⟨f, q, rfl, h3⟩ := onName_ok (and_l (and_r h2))
  obtain ⟨e', rfl, h4⟩ := one_ok (and_r (and_r h2))
  exact .mk t' f q p pos e' b o (and_l (and_l h3)) (and_r (and_l h3)) (and_r h3) h4 (and_r (and_l h1)) (and_r h1)
theorem inv_ife_s {t : E} {a b : Bs} (h : chkS GT Γ gn (.ife t a b) st = true) : ∃ t' a' b' p, st = .If t' a' b' p ∧ (chkE GT Γ gn t t' && chkB GT Γ gn a a' && chkB GT Γ gn b b') = true := by
  exact stIsIf_ok h
theorem inv_ret {e : E} (h : chkS GT Γ gn (.ret e) st = true) : ∃ e' p, st = .Return (some e') p ∧ chkE GT Γ gn e e' = true := by
  obtain ⟨o, p, rfl, h1⟩ := stIsReturn_ok h
  obtain ⟨e', rfl, h2⟩ := someP_ok h1
  exact ⟨_, _, rfl, h2⟩
theorem inv_brk  (h : chkS GT Γ gn (.brk) st = true) : ∃ p, st = .Break p ∧ True := by
  obtain ⟨p, rfl, _⟩ := stIsBreak_ok h
  exact ⟨_, rfl, trivial⟩
inductive IsIfX (GT : List (Str × PV)) (Γ : Cx) (gn : List Str) (op : CmpOp) (f : E) (as : Es) (r : E) (a b : Bs) : Stmt → Prop
  | mk (e' r' : Expr) (p pos : Pos) (a' b' : List Stmt) (ns : notSet r' = true) (c1 : chkE GT Γ gn (.call f as) e' = true) (c2 : chkE GT Γ gn r r' = true) (c3 : chkB GT Γ gn a a' = true) (c4 : chkB GT Γ gn b b' = true) : IsIfX GT Γ gn op f as r a b (.If (.Compare e' [op] [r'] p) a' b' pos)
theorem inv_ifX {op : CmpOp} {f : E} {as : Es} {r : E} {a b : Bs} (h : chkS GT Γ gn (.ifX op f as r a b) st = true) : IsIfX GT Γ gn op f as r a b st := by
  obtain ⟨c, a', b', pos, rfl, h1⟩ := stIsIf_ok h
  obtain ⟨e', os, rs, p, rfl, h2⟩ := onCompare_ok (and_l (and_l h1))
  obtain ⟨o, rfl, h3⟩ := one_ok (and_l h2)
  obtain ⟨r', rfl, h4⟩ := one_ok (and_l (and_r h2))
  obtain rfl : op = o := of_decide_eq_true h3
  exact .mk e' r' p pos a' b' (and_l h4) (and_r (and_r h2)) (and_r h4) (and_r (and_l h1)) (and_r h1)
theorem inv_bnil {xs : List Stmt} (h : chkB GT Γ gn .nil xs = true) : xs = [] := nilP_ok h
theorem inv_bcons {s : S} {b : Bs} {xs : List Stmt} (h : chkB GT Γ gn (.cons s b) xs = true) : ∃ x xs', xs = x :: xs' ∧ chkS GT Γ gn s x = true ∧ chkB GT Γ gn b xs' = true := hdP_ok h
end

noncomputable def SpecX (prog : Program) (w : World) (H : Heap) (A : Around) (env : Env) (f : Value) (args : List PV) (res : PV) : Prop :=
  (∃ a o fd, f = .ref a ∧ H.get? a = some o ∧ o.data = .func fd) ∧ ∀ (Γ : Cx) (gn : List Str) (fo : Addr → Prop) (base : Heap) (φ : Frame) (ow : Addr → Option Nat) (s : Shared) (vals : List Value) (Q X : Value → Shared → Prop),
    EnvOk Γ gn env → FR H Γ env fo base φ ow s.heap → VRs (Fz ow s.heap) args vals → (∀ v h' tk, FR H Γ env fo base φ ow h' → Le ow s.heap ow h' → VR (Fz ow h') res v → Q v { s with heap := h', toks := tk }) → wpAny (model prog w) A (call f vals) Q X s
noncomputable def FOk (k : Ks) (fl : Flow) (φ : Frame) (ow : Addr → Option Nat) (h : Heap) : Prop := match fl with
  | .next => k.n φ
  | .brk => k.b φ
  | .ret v => ∃ pv, k.r pv ∧ VR (Fz ow h) pv v
  | .cont => False

section
variable (prog : Program) (w : World) (H : Heap) (GT : List (Str × PV)) (n : Nat)
noncomputable def SndS (st : S) : Prop := ∀ (stmt : Stmt) (φ : Frame) (k : Ks) (Γ : Cx) (gn : List Str) (env : Env) (fo : Addr → Prop) (base : Heap) (ow : Addr → Option Nat) (A : Around) (s : Shared) (Q : Flow → Shared → Prop) (X : Value → Shared → Prop),
  chkS GT Γ gn st stmt = true → evS GT (Spec prog w H n) (SpecX prog w H A env) st φ k → EnvOk Γ gn env → AOk n A → FR H Γ env fo base φ ow s.heap →
  (∀ fl φ' ow' h' tk, FOk k fl φ' ow' h' → FR H Γ env fo base φ' ow' h' → Le ow s.heap ow' h' → Q fl { s with heap := h', toks := tk }) →
  wpAny (model prog w) A (exec stmt env) Q X s
noncomputable def SndB (b : Bs) : Prop := ∀ (stmts : List Stmt) (φ : Frame) (k : Ks) (Γ : Cx) (gn : List Str) (env : Env) (fo : Addr → Prop) (base : Heap) (ow : Addr → Option Nat) (A : Around) (s : Shared) (Q : Flow → Shared → Prop) (X : Value → Shared → Prop),
  chkB GT Γ gn b stmts = true → evB GT (Spec prog w H n) (SpecX prog w H A env) b φ k → EnvOk Γ gn env → AOk n A → FR H Γ env fo base φ ow s.heap →
  (∀ fl φ' ow' h' tk, FOk k fl φ' ow' h' → FR H Γ env fo base φ' ow' h' → Le ow s.heap ow' h' → Q fl { s with heap := h', toks := tk }) →
  wpAny (model prog w) A (execs stmts env) Q X s
end

section
variable {prog : Program} {w : World} {H : Heap} {GT : List (Str × PV)} {n : Nat}

theorem snd_bnil : SndB prog w H GT n .nil := by
  intro stmts φ k Γ gn env fo base ow A s Q X hc hK EO AO F hQ
  obtain rfl := inv_bnil hc
  simp only [↓evB_nil_, ↓evB_cons] at hK
  exact wpAny_execs_nil (hQ .next φ ow s.heap s.toks hK F (.refl ..))
theorem snd_bcons {st : S} {r : Bs} (hs : SndS prog w H GT n st) (hr : SndB prog w H GT n r) : SndB prog w H GT n (.cons st r) := by
  intro stmts φ k Γ gn env fo base ow A s Q X hc hK EO AO F hQ
  replace hc := inv_bcons hc; obtain ⟨x, xs, rfl, hc⟩ := hc
  simp only [↓evB_nil_, ↓evB_cons] at hK
  · refine wpAny_execs_cons (hs _ φ _ Γ gn env fo base ow A s _ _ hc.1 hK EO AO F ?_)
    intro fl φ1 ow1 h1 tk1 hf F1 l1
    cases fl with
    | next => exact hr _ φ1 _ Γ gn env fo base ow1 A _ _ _ hc.2 hf EO AO F1 fun fl φ' ow' h' tk hf' F' l' => hQ fl φ' ow' h' tk hf' F' (l1.trans l')
    | brk => exact hQ .brk φ1 ow1 h1 tk1 hf F1 l1
    | cont => exact hf.elim
    | ret v => exact hQ (.ret v) φ1 ow1 h1 tk1 hf F1 l1

theorem snd_ife_s {t : E} {a b : Bs} (ht : SndT prog w H GT n t) (ha : SndB prog w H GT n a) (hb : SndB prog w H GT n b) : SndS prog w H GT n (.ife t a b) := by
  intro stmt φ k Γ gn env fo base ow A s Q X hc hK EO AO F hQ
  simp only [↓evS_asg, ↓evS_own, ↓evS_swap, ↓evS_app, ↓evS_loop, ↓evS_enum, ↓evS_ife, ↓evS_ret, ↓evS_brk, ↓evS_ifX] at hK
  replace hc := inv_ife_s hc; obtain ⟨_, _, _, _, rfl, hc⟩ := hc
  · simp only [Bool.and_eq_true] at hc
    obtain ⟨⟨c1, c2⟩, c3⟩ := hc
    refine wpAny_If (ht _ φ _ Γ gn env fo base ow A s _ _ c1 hK EO AO F ?_)
    intro c φ1 ow1 h1 tk1 hK1 F1 st1
    cases c with
    | true => exact ha _ φ1 _ Γ gn env fo base ow1 A _ _ _ c2 (hK1.1 rfl) EO AO F1 fun fl φ' ow' h' tk hf F' l' => hQ fl φ' ow' h' tk hf F' (st1.le.trans l')
    | false => exact hb _ φ1 _ Γ gn env fo base ow1 A _ _ _ c3 (hK1.2 rfl) EO AO F1 fun fl φ' ow' h' tk hf F' l' => hQ fl φ' ow' h' tk hf F' (st1.le.trans l')
theorem snd_ret {e : E} (he : SndE prog w H GT n e) : SndS prog w H GT n (.ret e) := by
  intro stmt φ k Γ gn env fo base ow A s Q X hc hK EO AO F hQ
  simp only [↓evS_asg, ↓evS_own, ↓evS_swap, ↓evS_app, ↓evS_loop, ↓evS_enum, ↓evS_ife, ↓evS_ret, ↓evS_brk, ↓evS_ifX] at hK
  replace hc := inv_ret hc; obtain ⟨_, _, rfl, hc⟩ := hc
  · refine wpAny_Return_some (he _ φ _ Γ gn env fo base ow A s _ _ hc hK EO AO F ?_)
    intro v pv φ1 ow1 h1 tk1 hK1 F1 st1 v1
    exact hQ (.ret v) φ1 ow1 h1 tk1 ⟨pv, hK1, v1⟩ F1 st1.le
theorem snd_brk : SndS prog w H GT n .brk := by
  intro stmt φ k Γ gn env fo base ow A s Q X hc hK EO AO F hQ
  simp only [↓evS_asg, ↓evS_own, ↓evS_swap, ↓evS_app, ↓evS_loop, ↓evS_enum, ↓evS_ife, ↓evS_ret, ↓evS_brk, ↓evS_ifX] at hK
  replace hc := inv_brk hc; obtain ⟨_, rfl, hc⟩ := hc
  · exact wpAny_Break (hQ .brk φ ow s.heap s.toks hK F (.refl ..))
end
end Mine
end
section
namespace Mine

structure NewV (ow : Addr → Option Nat) (h h' : Heap) (D : Addr) (acc : List PV) : Prop where
  newD : h.get? D = none
  keep : ∀ b o, h.get? b = some o → h'.get? b = some o
  obj : ∃ vs k, h'.get? D = some (listObj vs k) ∧ VRs (fun a o => ow a = none ∧ a ≠ D ∧ h'.get? a = some o) acc vs

section
variable {prog : Program} {w : World} {H : Heap} {GT : List (Str × PV)} {n : Nat}

theorem sw_cases {Γ : Cx} {gn : List Str} {e : E} {e' t' : Expr} {line : Nat} {env : Env} (hc : chkE GT Γ gn e e' = true) :
    swapsWith e' (some t') line env = pure false ∨ (swapsWith e' (some t') line env = pure true ∧ ∃ elt gens scope p x px, e' = .ListComp elt gens scope p ∧ t' = .Name x px ∧ env.kindOf x = some .local) := by
  cases e' with
  | ListComp elt gens scope p =>
    cases t' with
    | Name x px =>
      have e1 : swapsWith (.ListComp elt gens scope p) (some (.Name x px)) line env = pure (env.blockKind == .function && env.kindOf x == some .local && px.line == (Expr.ListComp elt gens scope p).pos.line && !(scope.names.any fun (n, k) => n == x && (k == .local || k == .cell))) := rfl
      generalize hb : (env.blockKind == .function && env.kindOf x == some .local && px.line == (Expr.ListComp elt gens scope p).pos.line && !(scope.names.any fun (n, k) => n == x && (k == .local || k == .cell))) = b at e1
      cases b with
      | false => exact .inl e1
      | true =>
        refine .inr ⟨e1, elt, gens, scope, p, x, px, rfl, rfl, ?_⟩
        simp only [Bool.and_eq_true, beq_iff_eq] at hb
        exact hb.1.1.2
    | _ => exact .inl rfl
  | SetComp => cases e <;> exact (Bool.false_ne_true hc).elim
  | DictComp => cases e <;> exact (Bool.false_ne_true hc).elim
  | _ => exact .inl rfl

theorem kind_loc {Γ : Cx} {gn : List Str} {env : Env} {i : Nat} {x : Str} {k : Kd} (EO : EnvOk Γ gn env) (hx : Γ[i]? = some (x, k)) (hl : env.kindOf x = some .local) : k = .loc := by
  have := EO.kinds i x k hx
  rw [hl] at this
  cases k with
  | loc => rfl
  | cel => cases this
  | fre => cases this

theorem comp_used {c : CI} {elt iter : E} {t : Tg} {ifs : Es} {rest : Gs} (hi : SndE prog w H GT n iter) (hts : SndTs prog w H GT n ifs) (hG : SndG prog w H GT n elt rest)
    {elt' : Expr} {gens : List Comprehension} {scope : Scope} {p px pos : Pos} {x : Str} {i : Nat} {φ : Frame} {K : PV → Frame → Prop} {Γ : Cx} {gn : List Str} {env : Env} {fo : Addr → Prop} {base : Heap} {ow : Addr → Option Nat} {A : Around} {s : Shared} {Q : Flow → Shared → Prop} {X : Value → Shared → Prop}
    (own : Bool) (hsw : swapsWith (.ListComp elt' gens scope p) (some (.Name x px)) pos.line env = pure true) (hx : Γ[i]? = some (x, .loc))
    (hc : chkE GT Γ gn (.comp c elt t iter ifs rest) (.ListComp elt' gens scope p) = true) (hK : evE GT (Spec prog w H n) (.comp c elt t iter ifs rest) φ K)
    (EO : EnvOk Γ gn env) (AO : AOk n A) (F : FR H Γ env fo base φ ow s.heap)
    (hQ : ∀ acc φ' ow' h' tk, K (.list acc) φ' → FR H Γ env fo base (φ'.set i (if own then .own acc else .val (.list acc))) ow' h' → Le ow s.heap ow' h' → Q .next { s with heap := h', toks := tk }) :
    wpAny (model prog w) A (exec (.Assign [.Name x px] (.ListComp elt' gens scope p) pos) env) Q X s := by
  have hc0 := hc
  replace hc0 := inv_comp hc0
  · obtain ⟨_, t', iter', ifs', gs', _, _, q, _⟩ := hc0
    cases q
    rw [exec_Assign_Name_used _ _ _ _ hsw]
    refine wpAny_bind (wpAny_standAt (wpAny_bind ?_))
    show wpAny _ A (do let _ ← comprehension _ scope env _ (newList []) false (eval iter' env) (some (assign (.Name x px) env))) _ _ s
    refine wpAny_bind (wpAny_mono (comp_core (use := some (assign (.Name x px) env)) (Q := fun _ s' => Q .next s') hi hts hG hc hK EO AO F fun D C acc φ' ow' h1 h5 tk hk hl F1 st1 N => ?_) (fun _ s' hq => wpAny_pure (wpAny_pure hq)) fun _ _ e => e)
    refine wpAny_assign_Name ?_
    refine comp_store (own := own) EO F1 N hl hx fun h2 _ tk2 ow2 hn hs => ?_
    obtain ⟨m, hm⟩ := hn
    refine ⟨m, hm, fun h' hsb => ?_⟩
    obtain ⟨F2, l2⟩ := hs h' hsb
    exact hQ acc φ' ow2 h' tk2 hk F2 (st1.le.trans l2)

end
end Mine
end
section
namespace Mine
section
variable (prog : Program) (w : World) (H : Heap) (GT : List (Str × PV)) (n : Nat)
noncomputable def SndN (e : E) : Prop := ∀ (ex : Expr) (φ : Frame) (K : PV → Frame → Prop) (Γ : Cx) (gn : List Str) (env : Env) (fo : Addr → Prop) (base : Heap) (ow : Addr → Option Nat) (A : Around) (s : Shared) (Q X : Value → Shared → Prop),
  chkE GT Γ gn e ex = true → newE GT e = true → evE GT (Spec prog w H n) e φ K → EnvOk Γ gn env → AOk n A → FR H Γ env fo base φ ow s.heap →
  (∀ D acc φ' ow' h1 h' tk, K (.list acc) φ' → acc.length ≤ 65536 → FR H Γ env fo base φ' ow' h1 → ES ow s.heap ow' h1 → NewV ow' h1 h' D acc → Q (.ref D) { s with heap := h', toks := tk }) →
  wpAny (model prog w) A (eval ex env) Q X s
end
section
variable {prog : Program} {w : World} {H : Heap} {GT : List (Str × PV)} {n : Nat}

theorem newN_push {ow : Addr → Option Nat} {h : Heap} {pvs : List PV} {vs : List Value} (hf : ∀ x, h.get? x = none → ow x = none) (hv : VRs (Fz ow h) pvs vs) : NewV ow h (h.push (listObj vs 0)) h.objs.size pvs := by
  have kp := push_keep h (listObj vs 0)
  exact ⟨get_none_size _, kp, vs, 0, Heap.get?_push_size _ rfl, VRs.mono (fun a o f => ⟨f.1, (fun q => by subst q; have := f.2; rw [get_none_size] at this; cases this), kp _ _ f.2⟩) _ _ hv⟩

theorem sndN_list {es : Es} (he : SndEs prog w H GT n es) : SndN prog w H GT n (.list es) := by
  intro ex φ K Γ gn env fo base ow A s Q X hc _ hK EO AO F hQ
  simp only [↓evE_const, ↓evE_var, ↓evE_glob, ↓evE_bin, ↓evE_cmp, ↓evE_ife, ↓evE_call, ↓evE_lenv, ↓evE_meth, ↓evE_sub, ↓evE_subv, ↓evE_slc, ↓evE_list, ↓evE_tup, ↓evE_comp] at hK
  replace hc := inv_list hc; obtain ⟨_, _, rfl, hc⟩ := hc
  · refine List_ (he _ _ φ _ Γ gn env fo base ow A s _ _ hc hK EO AO F ?_)
    intro vs pvs φ1 ow1 h1 tk1 hK1 F1 st1 v1
    refine newList_ok (ow := ow1) v1 hK1.1 ?_
    exact hQ _ pvs φ1 ow1 h1 _ tk1 hK1.2 hK1.1 F1 st1 (newN_push (fun x e => F1.fresh e) v1)

theorem sndN_comp {c : CI} {elt iter : E} {t : Tg} {ifs : Es} {rest : Gs} (hi : SndE prog w H GT n iter) (hts : SndTs prog w H GT n ifs) (hG : SndG prog w H GT n elt rest) : SndN prog w H GT n (.comp c elt t iter ifs rest) := by
  intro ex φ K Γ gn env fo base ow A s Q X hc _ hK EO AO F hQ
  have hc0 := hc
  replace hc0 := inv_comp hc0
  · obtain ⟨elt', t', iter', ifs', gs', scope, pos, rfl, _⟩ := hc0
    rw [eval_ListComp]
    show wpAny _ A (comprehension _ scope env _ (newList []) false (eval iter' env) none) Q X s
    refine comp_core hi hts hG hc hK EO AO F fun D C acc φ' ow' h1 h5 tk hk hl F1 st1 N => ?_
    obtain ⟨m, hm⟩ := N.ns
    refine ⟨m, hm, fun h' hs => ?_⟩
    have k5 : ∀ b o, b ≠ C → h5.get? b = some o → h'.get? b = some o := fun b o hb e => hs.extBut b o hb e
    have k' : ∀ b o, h1.get? b = some o → h'.get? b = some o := fun b o e => k5 b o (fun q => by subst q; rw [N.newC] at e; cases e) (N.keep b o e)
    obtain ⟨vs, k, e1, e2⟩ := N.obj
    exact hQ D acc φ' ow' h1 h' tk hk hl F1 st1 ⟨N.newD, k', vs, k, k5 _ _ N.ne e1, VRs.mono (fun a o f => ⟨f.1, f.2.1, k5 a o f.2.2.1 f.2.2.2⟩) _ _ e2⟩

theorem sndN_call (T : Tops prog w H GT n) {k : Nat} {a : E} (ha : SndEs prog w H GT n (.cons a .nil)) : SndN prog w H GT n (.call (.glob k) (.cons a .nil)) := by
  intro ex φ K Γ gn env fo base ow A s Q X hc hn hK EO AO F hQ
  have hn : (newA (.cons a .nil) && listTy GT[k]?) = true := hn
  obtain ⟨y, hg⟩ := listTy_ok (and_r hn)
  · replace hc := inv_call hc; obtain ⟨_, _, _, rfl, hc⟩ := hc
    · rename_i f' as' pos
      simp only [Bool.and_eq_true, Bool.not_eq_true'] at hc
      obtain ⟨⟨⟨⟨hnm, hne⟩, _⟩, c1⟩, c2⟩ := hc
      cases f' with
      | Name x p =>
        have eg : evE GT (Spec prog w H n) (.glob k) φ (fun v φ' => v = .raw (.type "list") ∧ φ' = φ) := by simp only [↓evE_const, ↓evE_var, ↓evE_glob, ↓evE_bin, ↓evE_cmp, ↓evE_ife, ↓evE_call, ↓evE_lenv, ↓evE_meth, ↓evE_sub, ↓evE_subv, ↓evE_slc, ↓evE_list, ↓evE_tup, ↓evE_comp, hg, and_true]
        rw [evE_call] at hK
        simp only [↓evE_const, ↓evE_var, ↓evE_glob, ↓evE_bin, ↓evE_cmp, ↓evE_ife, ↓evE_call, ↓evE_lenv, ↓evE_meth, ↓evE_sub, ↓evE_subv, ↓evE_slc, ↓evE_list, ↓evE_tup, ↓evE_comp, hg] at hK
        refine Call_Name rfl (snd_glob T k _ φ _ Γ gn env fo base ow A s _ _ c1 eg EO AO F ?_)
        rintro vf pf φ1 ow1 h1 tk1 ⟨rfl, rfl⟩ F1 st1 v1
        unfold RV VR at v1
        subst v1
        have pl : (backTo pos (starEach as' env)).any (·.1) = false := by rw [chkEs_plain c2, backTo_plain]; exact plain_any
        refine PySem.callWith_type pl (args_ok ha hne c2 hK EO AO F1 fun vs pvs φ' ow' h' tk k F' st vr => ?_)
        rw [List.nil_append]
        dsimp only [↓app_ref, ↓app_builtin, ↓app_type] at k
        rw [if_pos rfl] at k
        replace k := arg1_ok k
        obtain ⟨x, rfl, k⟩ := k
        cases x with
        | list xs =>
          unfold VRs at vr
          obtain ⟨v, r, rfl, h1, h2⟩ := vr
          unfold VRs at h2; subst h2
          unfold VR at h1
          obtain ⟨b, us, m, rfl, fz, lz, hs⟩ := h1
          refine PySem.call_list_seq (items := us.toArray) (n := m) b (.inl rfl) fz.2 rfl rfl (fun h2 c' hk hD => ?_) (by simpa using lz)
          have hn := get_none_size h'
          refine hQ _ _ φ' ow' h' h2 tk k.2 k.1 F' (st1.trans st) ⟨hn, hk, us, c', hD, VRs.mono (fun a o f => ⟨f.1, fun q => ?_, hk _ _ f.2⟩) _ _ hs⟩
          subst q
          have h9 := f.2
          rw [hn] at h9; cases h9
        | rng n' =>
          unfold VRs at vr
          obtain ⟨v, r, rfl, h1, h2⟩ := vr
          unfold VRs at h2; subst h2
          unfold VR at h1
          obtain ⟨b, t, u, w', rfl, fz, h0, hz⟩ := h1
          obtain ⟨hz2, hK⟩ := k
          obtain ⟨L, mm, hns⟩ := F'.now.ns
          have Fm : Fr {} L h' mm := ⟨hns, fun b o e => by simp [Heap.get?] at e, by simp⟩
          have hr : Builtin.Range.rangeSize 0 n' 1 = ((n'.toNat : Nat) : Int) := by
            unfold Builtin.Range.rangeSize
            simp only [show (1 : Int) > 0 from by decide, if_true]
            split
            · simp; lia
            · lia
          refine list_rangeD (a := 0) (b := n') (c := 1) (t := t) (u := u) (v := w') (news := []) AO.hh Fm (fun _ h => nomatch h) fz.2 ?_ hr (by lia) (fun h2 tk ys F2 N' hk hn hl hp hc => ?_)
          · unfold Builtin.Range.small
            rw [hr]
            simp [Builtin.Range.rangeFitsLong]
            lia
          · obtain ⟨c', e⟩ := hp.1
            have hri : (rangeInts 0 1 n'.toNat).map PV.int = (List.range n'.toNat).map fun (i : Nat) => PV.int i := by
              unfold rangeInts; simp
            have hvr : VRs (fun a o => ow' a = none ∧ a ≠ h'.objs.size ∧ h2.get? a = some o) ((rangeInts 0 1 n'.toNat).map PV.int) ys := list_int_range hc
            rw [hri] at hvr
            exact hQ _ _ φ' ow' h' h2 tk hK (by simp; lia) F' (st1.trans st) ⟨get_none_size _, hk, ys, c', e, hvr⟩
        | _ => exact k.elim
      | _ => cases hnm
end
end Mine
end
section
namespace Mine

theorem mapSeq_list (vs : List Value) (k : Nat) (f : Array Value → Array Value) : ∃ k', Obj.mapSeq f (listObj vs k) = { cls := .type "list", dict := none, data := .seq (f vs.toArray) k', slots := #[] } := by
  simp [Obj.mapSeq]

section
variable {prog : Program} {w : World} {H : Heap} {GT : List (Str × PV)} {n : Nat}

theorem setItem_plain {A : Around} {E : Value → Shared → Prop} {s : Shared} {l : Addr} {vs : List Value} {k0 : Nat} {k : Int} {t : Tok} {v : Value} {Q : Unit → Shared → Prop} (ho : s.heap.get? l = some (listObj vs k0))
    (h0 : 0 ≤ k) (hfit : k < 2 ^ 63) (hn : k < vs.length)
    (hQ : ∀ h' c, h'.get? l = some (listObj (vs.set k.toNat v) c) → Heap.SameBut l s.heap h' → Q () { s with heap := h' }) :
    wpAny (model prog w) A (setItem (.ref l) (.int k t) v) Q E s := by
  have hl : s.heap.IsList l vs.toArray := ⟨_, ho, rfl, k0, rfl⟩
  have hd : (listObj vs k0).data = .seq vs.toArray k0 := rfl
  unfold setItem
  try with_reducible refine wpAny_holding ?_
  first | refine wpAny_bind (wpAny_pure ?_) | skip
  refine wpAny_bind (wpAny_sequenceKey hl.typeIs (by decide) ?_)
  refine wpAny_bind (wpAny_callSpecial?_slot (name := Str.ofString "__setitem__") hl.typeIs slot_list_setitem
    (wpAny_call_entry slot_list_setitem hl.typeIs entry_list_setitem ?_ (args_list_setitem _ _ _)))
  show wpAny _ _ (Builtin.List.listSubscript? (.int k t) >>= _) _ _ s
  refine wpAny_bind (wpAny_listSubscript_int (fitsIndex_of h0 hfit) ?_)
  clear hfit
  obtain ⟨j, rfl⟩ := Int.eq_ofNat_of_zero_le h0
  have hj : j < vs.toArray.size := by simp; lia
  have hx' : vs.toArray[j]? = some vs.toArray[j] := Array.getElem?_eq_getElem hj
  show wpAny _ _ ((seqItemAt l j >>= fun r => pure (r.map (j, ·))) >>= _) _ _ s
  refine wpAny_bind (wpAny_bind (wpAny_seqItemAt ho hd (wpAny_pure ?_)))
  rw [hx']
  show wpAny _ _ (setSeqItemAt l j v >>= _) _ _ s
  obtain ⟨c, hc⟩ := mapSeq_list vs k0 (·.setIfInBounds j v)
  have hfin : (s.heap.update l (Obj.mapSeq (·.setIfInBounds j v))).get? l = some (listObj (vs.set j v) c) := by
    rw [Heap.get?_update_self _ ho (by rw [hc]; rfl), hc]
    simp
  refine wpAny_bind (wpAny_setSeqItemAt ho hd ?_)
  first
    | exact wpAny_bind (wpAny_pure (wpAny_pure ⟨.none, rfl, wpAny_pure (hQ _ c hfin (Heap.SameBut.update ..))⟩))
    | exact wpAny_pure ⟨.none, rfl, wpAny_pure (hQ _ c hfin (Heap.SameBut.update ..))⟩

theorem own_turn {Γ : Cx} {gn : List Str} {env : Env} {fo : Addr → Prop} {base : Heap} {φ : Frame} {ow : Addr → Option Nat} {h h' : Heap} {j : Nat} {x : Str} {xs ys : List PV} {a : Addr} {us : List Value} {c : Nat}
    (EO : EnvOk Γ gn env) (F : FR H Γ env fo base φ ow h) (hx : Γ[j]? = some (x, .loc)) (hs : φ[j]? = some (.own xs)) (hm : ∃ m, h.Ns env.locals m ∧ m x = some (.ref a)) (ha : ow a = some (j + 3))
    (hsb : Heap.SameBut a h h') (ho : h'.get? a = some (listObj us c)) (hv : VRs (Fz ow h) ys us) : FR H Γ env fo base (φ.set j (.own ys)) ow h' ∧ Le ow h ow h' := by
  have kb : ∀ b o, b ≠ a → h.get? b = some o → h'.get? b = some o := fun b o hb e => (hsb.2 b hb).trans e
  have k : ∀ b o, ow b ≠ some (j + 2 + 1) → h.get? b = some o → h'.get? b = some o := fun b o e q => kb b o (fun z => e (by rw [z]; exact ha)) q
  have l : Le ow h ow h' := Le.turn k (by omega)
  have hj : j < φ.length := by rw [F.len]; exact lt_of_at hx
  refine ⟨F.turn (t := j + 2) k (fun b e q => ?_) (List.length_set ..) (fun i hi => get_set_ne (by omega)) ?_ (fun i y hi hy => ?_) fun i y hy hi => ?_, l⟩
  · by_cases hb : b = a
    · subst hb; rw [ho]; rfl
    · obtain ⟨o, hq⟩ := Option.isSome_iff_exists.mp q
      rw [kb b o hb hq]; rfl
  · obtain ⟨m, hm1, hm2⟩ := hm
    obtain ⟨m', hm1', hsl⟩ := F.ns
    have hne : env.locals ≠ a := fun q => by
      have h9 := F.nso
      rw [q, ha] at h9
      cases h9
    refine ⟨m', ?_, fun i y hy => ?_⟩
    · obtain ⟨o, es, ep, hq, r⟩ := hm1'
      exact ⟨o, es, ep, kb _ _ hne hq, r⟩
    · by_cases hij : i = j
      · subst hij
        rw [hx] at hy; cases hy
        rw [show (φ.set i (Slot.own ys))[i]? = some (Slot.own ys) by simp [hj], ← ns_uniq hm1 hm1' x, hm2]
        exact ⟨a, us, c, rfl, ha, ho, l.vrs hv⟩
      · rw [get_set_ne hij]
        exact (hsl i y hy).mono l.toLe0 fun b o q1 q2 => ⟨q1, k b o (by rw [q1]; intro q; cases q; exact hij rfl) q2⟩
  · have : i = j := by omega
    subst this
    rw [hx] at hy; cases hy
  · have : i = j := by omega
    subst this
    rw [hx] at hy; cases hy

theorem sndN (T : Tops prog w H GT n) (e : E) : SndN prog w H GT n e := by
  intro ex φ K Γ gn env fo base ow A s Q X hc hn hK EO AO F hQ
  cases e with
  | list es => exact sndN_list (sndEs T es).1 ex φ K Γ gn env fo base ow A s Q X hc hn hK EO AO F hQ
  | comp c elt t iter ifs rest => exact sndN_comp (sndE T iter).1 (sndEs T ifs).2 (sndG T rest elt (sndE T elt).1) ex φ K Γ gn env fo base ow A s Q X hc hn hK EO AO F hQ
  | call f as =>
    cases f with
    | glob k =>
      cases as with
      | nil => exact (Bool.false_ne_true hn).elim
      | cons a r =>
        cases r with
        | nil => exact sndN_call T (sndEs T (.cons a .nil)).1 ex φ K Γ gn env fo base ow A s Q X hc hn hK EO AO F hQ
        | cons => exact (Bool.false_ne_true hn).elim
    | _ => exact (Bool.false_ne_true hn).elim
  | _ => exact (Bool.false_ne_true hn).elim

theorem new_store {Γ : Cx} {gn : List Str} {env : Env} {fo : Addr → Prop} {base : Heap} {φ : Frame} {ow : Addr → Option Nat} {A : Around} {s : Shared} {X : Value → Shared → Prop} {Q : Unit → Shared → Prop}
    {h1 : Heap} {D : Addr} {acc : List PV} {i : Nat} {x : Str} (EO : EnvOk Γ gn env) (F : FR H Γ env fo base φ ow h1) (N : NewV ow h1 s.heap D acc) (hx : Γ[i]? = some (x, .loc))
    (hQ : ∀ (h' : Heap) (tk : Nat) (ow' : Addr → Option Nat), FR H Γ env fo base (φ.set i (.own acc)) ow' h' → Le ow h1 ow' h' → Q () { s with heap := h', toks := tk }) :
    wpAny (model prog w) A (storeName env x (.ref D)) Q X s := by
  obtain ⟨vs, k, e1, e2⟩ := N.obj
  have neD : ∀ b o, h1.get? b = some o → b ≠ D := fun b o e q => by subst q; rw [N.newD] at e; cases e
  have F1 : FR H Γ env fo base φ (tagged ow D (i + 3)) s.heap := F.tag N.keep N.newD (by rw [e1]; rfl) (i + 2)
  have l1 : Le ow h1 (tagged ow D (i + 3)) s.heap := ⟨⟨fun a o f => ⟨by rw [tagged_ne (neD a o f.2)]; exact f.1, N.keep a o f.2⟩⟩, fun a o e f => ⟨by rw [tagged_ne (neD a o f)]; exact e, N.keep a o f⟩⟩
  refine store_loc (sl := .own acc) EO F1 hx (fun h' l k' => ?_) fun h' tk F3 l3 => hQ h' tk _ F3 (l1.trans l3)
  exact ⟨D, vs, k, rfl, tagged_self, k' D _ (by rw [tagged_self]; simp) e1, l.vrs (VRs.mono (fun a o f => ⟨by rw [tagged_ne f.2.1]; exact f.1, f.2.2⟩) _ _ e2)⟩

theorem snd_own (T : Tops prog w H GT n) {i : Nat} {e : E} : SndS prog w H GT n (.own i e) := by
  intro stmt φ k Γ gn env fo base ow A s Q X hc hK EO AO F hQ
  simp only [↓evS_asg, ↓evS_own, ↓evS_swap, ↓evS_app, ↓evS_loop, ↓evS_enum, ↓evS_ife, ↓evS_ret, ↓evS_brk, ↓evS_ifX] at hK
  replace hc := inv_own hc; obtain ⟨_, _, _, _, rfl, hc⟩ := hc
  · rename_i x px e' pos
    simp only [Bool.and_eq_true] at hc
    obtain ⟨⟨c1, c2⟩, c3⟩ := hc
    have hx := ownAt_spec c1
    rcases sw_cases (t' := .Name x px) (line := pos.line) (env := env) c2 with hsw | ⟨hsw, elt, gens, scope, p, y, py, rfl, hy, hl⟩
    · refine wpAny_Assign_Name (sndN T e _ φ _ Γ gn env fo base ow A s _ _ c2 c3 hK EO AO F ?_) hsw
      intro D acc φ' ow' h1 h' tk hk hz F1 st1 N
      obtain ⟨xs, hxs, hk⟩ := hk
      cases hxs
      refine new_store EO F1 N hx fun h2 tk2 ow2 F2 l2 => ?_
      exact hQ .next _ ow2 h2 tk2 hk F2 (st1.le.trans l2)
    · cases hy
      cases e with
      | comp c elt t iter ifs rest =>
        refine comp_used (sndE T iter).1 (sndEs T ifs).2 (sndG T rest elt (sndE T elt).1) true hsw hx c2 hK EO AO F fun acc φ' ow' h' tk hk F' l' => ?_
        obtain ⟨xs, hxs, hk⟩ := hk
        cases hxs
        exact hQ .next _ ow' h' tk hk F' l'
      | _ => exact (Bool.false_ne_true c2).elim

theorem snd_asg (T : Tops prog w H GT n) {t : Tg} {e : E} : SndS prog w H GT n (.asg t e) := by
  intro stmt φ k Γ gn env fo base ow A s Q X hc hK EO AO F hQ
  simp only [↓evS_asg, ↓evS_own, ↓evS_swap, ↓evS_app, ↓evS_loop, ↓evS_enum, ↓evS_ife, ↓evS_ret, ↓evS_brk, ↓evS_ifX] at hK
  replace hc := inv_asg hc; obtain ⟨_, _, _, rfl, hc⟩ := hc
  · rename_i t' e' pos
    simp only [Bool.and_eq_true] at hc
    obtain ⟨⟨c1, c2⟩, c3⟩ := hc
    rcases sw_cases (t' := t') (line := pos.line) (env := env) c2 with hsw | ⟨hsw, elt, gens, scope, p, y, py, rfl, rfl, hl⟩
    · refine wpAny_Assign_stores ?_ hsw ?_
      · refine (sndE T e).1 _ φ _ Γ gn env fo base ow A s _ _ c2 hK EO AO F ?_
        intro v pv φ1 ow1 h1 tk1 hK1 F1 st1 v1
        have fin : wpAny (model prog w) A (assign t' env v) (fun _ => Q .next) X { s with heap := h1, toks := tk1 } :=
          asg_ok c1 hK1 EO AO.hh F1 v1 fun φ' h' tk hk F' l' => hQ .next φ' ow1 h' tk hk F' (st1.le.trans l')
        cases t with
        | one i =>
          obtain ⟨_, _, rfl, _⟩ := inv_one c1
          exact fin
        | many is =>
          obtain ⟨_, _, _, rfl, _⟩ := inv_many c1
          exact fin
      · cases t' <;> first
          | rfl
          | (cases e' <;> first | rfl | (simp [notTup, isName] at c3))
    · cases t with
      | one i =>
        replace c1 := inv_one c1
        obtain ⟨_, _, q, c1⟩ := c1
        cases q
        obtain ⟨kd, hx, hk⟩ := setAt_spec c1
        have := kind_loc EO hx hl
        subst this
        cases e with
        | comp c elt t iter ifs rest =>
          refine comp_used (sndE T iter).1 (sndEs T ifs).2 (sndG T rest elt (sndE T elt).1) false hsw hx c2 hK EO AO F fun acc φ' ow' h' tk hk F' l' => ?_
          exact hQ .next _ ow' h' tk hk F' l'
        | _ => exact (Bool.false_ne_true c2).elim
      | many is =>
        obtain ⟨_, _, _, q, _⟩ := inv_many c1
        cases q
end
end Mine
end
section
namespace Mine
section
variable {prog : Program} {w : World} {H : Heap} {GT : List (Str × PV)} {n : Nat}

theorem snd_app (T : Tops prog w H GT n) {j : Nat} {e : E} : SndS prog w H GT n (.app j e) := by
  intro stmt φ k Γ gn env fo base ow A s Q X hc hK EO AO F hQ
  simp only [↓evS_asg, ↓evS_own, ↓evS_swap, ↓evS_app, ↓evS_loop, ↓evS_enum, ↓evS_ife, ↓evS_ret, ↓evS_brk, ↓evS_ifX] at hK
  obtain ⟨x, xp, ap, p, pos, e', c1, hline, c2⟩ := inv_app hc
  · rw [beq_iff_eq] at hline
    have hx := ownAt_spec c1
    split at hK
    · rename_i xs hs
      have hi : interactive env = false := by unfold interactive; rw [EO.fn]; rfl
      refine wpAny_Expr ?_ hi rfl
      refine wpAny_Call_method_lateS (base_plain rfl) ?_ (by simpa using hline) (wpAny_Name (load_own_at EO F hx hs fun a vs m e0 e1 e2 e3 => ?_) (EO.plain _ _ _ hx).1)
      · rw [chkE_notStar c2]; rfl
      refine ⟨"list", "list.append", PySem.F.plainAttrs_list, slot_list_append, PySem.F.type_list_append, ⟨_, e2, rfl⟩, fun b e => ?_, ?_⟩
      · cases e
        exact ⟨_, e2, rfl⟩
      have st : backTo p (starEach [e'] env) = [(false, eval e' env)] := by rw [chkE_notStar c2]; rfl
      rw [st]
      refine Calls.callWith_builtin rfl (Calls.evalArgs_plain ?_)
      rw [← st]
      refine wpAny_items_cons (rest := []) (pos := p) ((sndE T e).1 _ φ _ Γ gn env fo base ow A s _ _ c2 hK EO AO F ?_) (chkE_notStar c2)
      intro v pv φ1 ow1 h1 tk1 hK1 F1 st1 v1
      obtain ⟨hs1, hz, hK1⟩ := hK1
      refine wpAny_items_nil ?_
      have hm : ∃ m, h1.Ns env.locals m ∧ m x = some (.ref a) := e0.imp fun q ⟨q1, q2⟩ => ⟨q1.keeps st1.keep, q2⟩
      obtain ⟨o1, o2, o3⟩ := own_same F1 hx hs1 hm (st1.keep _ _ e2)
      have hl := o3.length
      have z : sizeLine = 16777216 := rfl
      refine wpAny_list_append_plain (items := vs.toArray) ⟨m, o2⟩ (fun h2 hp hsb => ?_) (by simp; lia)
      obtain ⟨k', a4⟩ := hp
      have a4' : h2.get? a = some (listObj (vs ++ [v]) k') := by rw [a4]; simp
      obtain ⟨F2, l2⟩ := own_turn EO F1 hx hs1 hm o1 hsb a4' (VRs.append o3 (VRs.one v1))
      exact hQ .next _ ow1 h2 tk1 hK1 F2 (st1.le.trans l2)
    · exact hK.elim

theorem loop_ok {t : Tg} {t' : Expr} {body orelse : Bs} {body' orelse' : List Stmt} (hb : SndB prog w H GT n body) (ho : SndB prog w H GT n orelse) {φ : Frame} {k : Ks} {Γ : Cx} {gn : List Str} {env : Env} {fo : Addr → Prop} {base : Heap}
    {I : Addr} {ow ow₀ : Addr → Option Nat} {h₀ : Heap} {A : Around} {s : Shared} {R : Result → Shared → Prop} {items : List PV} {St : Nat → Heap → Prop} {P : Nat → Value → Prop} {fp : List Addr}
    (T : ItAt prog w A I ow₀ h₀ items St P fp) (l0 : Le0 ow₀ h₀ ow s.heap) (c1 : chkT Γ t t' = true) (c2 : chkB GT Γ gn body body' = true) (c3 : chkB GT Γ gn orelse orelse' = true)
    (hK : loopF (fun v φ nxt => asg t v φ fun φ => evB GT (Spec prog w H n) (SpecX prog w H A env) body φ ⟨nxt, k.r, k.n⟩) items φ fun φ => evB GT (Spec prog w H n) (SpecX prog w H A env) orelse φ k)
    (EO : EnvOk Γ gn env) (AO : AOk n A) (L : LoopSt (H := H) Γ env fo base φ ow s.heap I St 0)
    (hQ : ∀ fl φ' ow' h' tk, FOk k fl φ' ow' h' → FR H Γ env fo base φ' ow' h' → LeX (· = I) ow s.heap ow' h' → R (.ok fl) { s with heap := h', toks := tk }) :
    codeAny (model prog w) A (.forLoop t' (.ref I) body' orelse' env) R s := by
  refine codeAny_forLoop_any (fun m s' => ∃ i φ' ow' h' tk, s' = { s with heap := h', toks := tk } ∧ m = items.length - i ∧ i ≤ items.length ∧
      loopF (fun v φ nxt => asg t v φ fun φ => evB GT (Spec prog w H n) (SpecX prog w H A env) body φ ⟨nxt, k.r, k.n⟩) (items.drop i) φ' (fun φ => evB GT (Spec prog w H n) (SpecX prog w H A env) orelse φ k) ∧
      LoopSt (H := H) Γ env fo base φ' ow' h' I St i ∧ LeX (· = I) ow s.heap ow' h') ?_ items.length
    ⟨0, φ, ow, s.heap, s.toks, rfl, rfl, Nat.zero_le _, hK, L, .refl ..⟩
  rintro m _ ⟨i, φ1, ow1, h1, tk1, rfl, rfl, hi, hK1, L1, x1⟩
  have l1 : Le0 ow₀ h₀ ow1 h1 := l0.trans x1.toLe0
  by_cases hlt : i < items.length
  · rw [drop_cons hlt] at hK1
    unfold loopF at hK1
    refine next_ok T L1 l1 hlt fun v h2 tk2 vr L2 e12 kb => ?_
    have x12 : LeX (· = I) ow1 h1 ow1 h2 := ⟨e12, fun a o hna e f => ⟨e, kb a o hna f⟩⟩
    obtain ⟨o, T', hoo, hc', hT'⟩ := T.cls _ _ L2.st
    refine letGo_ok hoo hc' hT' ?_
    refine asg_ok c1 hK1 EO AO.hh L2.fr vr fun φ3 h3 tk3 hK3 F3 l3 => ?_
    have l2 : Le0 ow₀ h₀ ow1 h2 := l1.trans e12
    obtain ⟨s3, i3⟩ := st_stays T L2.st L2.it l2 (l3.x (S := fun _ => False)) (fun q => q)
    have l3' : Le0 ow₀ h₀ ow1 h3 := l2.trans l3.toLe0
    refine hb _ φ3 _ Γ gn env fo base ow1 A _ _ _ c2 hK3 EO AO F3 ?_
    intro fl φ4 ow4 h4 tk4 hf F4 l4
    obtain ⟨s4, i4⟩ := st_stays T s3 i3 l3' (l4.x (S := fun _ => False)) (fun q => q)
    have x4 : LeX (· = I) ow s.heap ow4 h4 := ((x1.trans x12).trans l3.x).trans l4.x
    cases fl with
    | next => exact ⟨items.length - (i + 1), by lia, i + 1, φ4, ow4, h4, tk4, rfl, rfl, hlt, hf, ⟨F4, i4, s4⟩, x4⟩
    | brk => exact hQ .next φ4 ow4 h4 tk4 hf F4 x4
    | cont => exact hf.elim
    | ret v => exact hQ (.ret v) φ4 ow4 h4 tk4 hf F4 x4
  · have hin : i = items.length := by lia
    subst hin
    rw [List.drop_length] at hK1
    unfold loopF at hK1
    refine T.walk.done _ _ _ L1.st fun h2 tk2 hk => ?_
    have kb : ∀ b o, b ≠ I → h1.get? b = some o → h2.get? b = some o := fun b o hb e => hk b o (by simpa using hb) e
    have un : ∀ b t, ow1 b = some t → b ≠ I → untag ow1 I b = some t := fun b t e hb => by rw [untag_ne hb]; exact e
    have l2 : Le0 ow1 h1 (untag ow1 I) h2 := ⟨fun a o f => by
      have hb : a ≠ I := fun q => by subst q; have h9 := f.1; rw [L1.it] at h9; cases h9
      exact ⟨by rw [untag_ne hb]; exact f.1, kb a o hb f.2⟩⟩
    have x2 : LeX (· = I) ow1 h1 (untag ow1 I) h2 := ⟨l2, fun a o hna e f => ⟨un a 2 e hna, kb a o hna f⟩⟩
    refine ho _ φ1 _ Γ gn env fo base (untag ow1 I) A _ _ _ c3 hK1 EO AO (L1.fr.drop2 L1.it kb) ?_
    intro fl φ4 ow4 h4 tk4 hf F4 l4
    exact hQ fl φ4 ow4 h4 tk4 hf F4 ((x1.trans x2).trans l4.x)

theorem snd_loop (T : Tops prog w H GT n) {t : Tg} {iter : E} {body orelse : Bs} (hb : SndB prog w H GT n body) (ho : SndB prog w H GT n orelse) : SndS prog w H GT n (.loop t iter body orelse) := by
  intro stmt φ k Γ gn env fo base ow A s Q X hc hK EO AO F hQ
  simp only [↓evS_asg, ↓evS_own, ↓evS_swap, ↓evS_app, ↓evS_loop, ↓evS_enum, ↓evS_ife, ↓evS_ret, ↓evS_brk, ↓evS_ifX] at hK
  replace hc := inv_loop hc; obtain ⟨_, _, _, _, _, rfl, hc⟩ := hc
  · rename_i t' iter' body' orelse' pos
    simp only [Bool.and_eq_true] at hc
    obtain ⟨⟨⟨⟨c1, c2⟩, c3⟩, c4⟩, c5⟩ := hc
    have fs : ∀ x, foldedSetIterable iter' env x = pure x := fun x => by
      cases iter' <;> first | rfl | (cases c1)
    refine wpAny_For ((sndE T iter).1 _ φ _ Γ gn env fo base ow A s _ _ c3 hK EO AO F ?_) fs
    intro v pv φ1 ow1 h1 tk1 hK1 F1 st1 v1
    obtain ⟨items, hit, hK1⟩ := hK1
    refine pyIter_ok (ow := ow1) v1 hit AO.hh fun I h2 tk2 St P fp hIn kp hIs TT hst => ?_
    have F2 := F1.tag kp hIn hIs 1
    have ne : ∀ b o, h1.get? b = some o → b ≠ I := fun b o e q => by subst q; rw [hIn] at e; cases e
    have l12 : Le ow1 h1 (tagged ow1 I 2) h2 := ⟨⟨fun a o f => ⟨by rw [tagged_ne (ne a o f.2)]; exact f.1, kp a o f.2⟩⟩, fun a o e f => ⟨by rw [tagged_ne (ne a o f)]; exact e, kp a o f⟩⟩
    refine loop_ok hb ho TT l12.toLe0 c2 c4 c5 hK1 EO AO ⟨F2, tagged_self, hst⟩ ?_
    intro fl φ3 ow3 h3 tk3 hf F3 x3
    refine hQ fl φ3 ow3 h3 tk3 hf F3 ⟨(st1.le.toLe0.trans l12.toLe0).trans x3.toLe0, fun a o e f => ?_⟩
    obtain ⟨p1, q1⟩ := st1.le.two a o e f
    obtain ⟨p2, q2⟩ := l12.two a o p1 q1
    exact x3.two a o (ne a o q1) p2 q2

theorem setAt_ok (T : Tops prog w H GT n) {j : Nat} {i : E} {x : Str} {xp ip : Pos} {i' : Expr} {φ : Frame} {Γ : Cx} {gn : List Str} {env : Env} {fo : Addr → Prop} {base : Heap} {ow : Addr → Option Nat} {A : Around} {s : Shared} {Q : Unit → Shared → Prop} {X : Value → Shared → Prop}
    {v : Value} {pv : PV} {K : Frame → Prop} (hx : Γ[j]? = some (x, .loc)) (c3 : chkE GT Γ gn i i' = true) (hK : setO GT (Spec prog w H n) i j pv φ K)
    (EO : EnvOk Γ gn env) (AO : AOk n A) (F : FR H Γ env fo base φ ow s.heap) (hv : VR (Fz ow s.heap) pv v)
    (hQ : ∀ φ' ow' h' tk, K φ' → FR H Γ env fo base φ' ow' h' → Le ow s.heap ow' h' → Q () { s with heap := h', toks := tk }) :
    wpAny (model prog w) A (assign (.Subscript (.Name x xp) i' ip) env v) Q X s := by
  unfold setO at hK
  split at hK
  · rename_i xs hs
    rw [arm_assign_Subscript]
    refine wpAny_bind (wpAny_holding (wpAny_Name (load_own_at EO F hx hs fun a vs m e0 e1 e2 e3 => ?_) (EO.plain _ _ _ hx).1))
    refine wpAny_bind (wpAny_holding ((sndE T i).1 _ φ _ Γ gn env fo base ow A _ _ _ c3 hK EO AO F ?_))
    intro vi pi φ2 ow2 h2 tk2 hK2 F2 st2 v2
    obtain ⟨hs2, nn, rfl, h0, hlt, hz, hK2⟩ := hK2
    have hm : ∃ m, h2.Ns env.locals m ∧ m x = some (.ref a) := e0.imp fun q ⟨q1, q2⟩ => ⟨q1.keeps st2.keep, q2⟩
    obtain ⟨o1, o2, o3⟩ := own_same F2 hx hs2 hm (st2.keep _ _ e2)
    unfold RV VR at v2
    obtain ⟨t, rfl⟩ := v2
    have hl := o3.length
    refine wpAny_bind (wpAny_standAt (wpAny_bind (wpAny_holding (setItem_plain o2 h0 (by lia) (by lia) fun h3 c a3 hsb => ?_))))
    obtain ⟨F3, l3⟩ := own_turn EO F2 hx hs2 hm o1 hsb a3 (VRs.set o3 nn.toNat (st2.vr hv))
    exact wpAny_release (hQ _ ow2 h3 _ hK2 F3 (st2.le.trans l3))
  · exact hK.elim

theorem snd_swap (T : Tops prog w H GT n) {j : Nat} {a b e : E} : SndS prog w H GT n (.swap j a b e) := by
  intro stmt φ k Γ gn env fo base ow A s Q X hc hK EO AO F hQ
  simp only [↓evS_asg, ↓evS_own, ↓evS_swap, ↓evS_app, ↓evS_loop, ↓evS_enum, ↓evS_ife, ↓evS_ret, ↓evS_brk, ↓evS_ifX] at hK
  obtain ⟨x, xp, yp, kp, pos, a', b', u1, u2, v1, v2, ap, bp, u3, v3, kk, k2, p2, c1, c2, c3, c4⟩ := inv_swap hc
  · have hx := ownAt_spec c1
    have hsp : ∀ ts : List Expr, ts = [Expr.Subscript (Expr.Name x xp) a' ap, Expr.Subscript (Expr.Name x yp) b' bp] → swappedStores [Expr.Tuple ts kk kp] (.Tuple [.Subscript u1 u2 u3, .Subscript v1 v2 v3] k2 p2) env = pure none := fun ts e => by
      subst e
      have : ∀ b : Bool, (if b = true then pure none else pure none : Sem (Option (List Str))) = pure none := fun b => by cases b <;> rfl
      exact this (env.blockKind != .function)
    refine Assign_Tuple ((sndE T e).1 _ φ _ Γ gn env fo base ow A s _ _ c2 hK EO AO F ?_) rfl (hsp _ rfl)
    intro v pv φ1 ow1 h1 tk1 hK1 F1 st1 v1
    obtain ⟨p1, p2, rfl, hK1⟩ := hK1
    unfold RV VR at v1
    obtain ⟨D, vs, m, rfl, fz, lz, hvs⟩ := v1
    unfold VRs at hvs
    obtain ⟨w1, r, rfl, r1, hvs⟩ := hvs
    unfold VRs at hvs
    obtain ⟨w2, r', rfl, r2, hvs⟩ := hvs
    unfold VRs at hvs; subst hvs
    refine wpAny_assign_Tuple (items := #[w1, w2]) AO.hh ⟨_, fz.2, rfl, m, rfl⟩ rfl rfl fun h2 hx2 => ?_
    have kp := extBut_keeps hx2
    show wpAny _ A (do holding [w2] (assign (.Subscript (.Name x xp) a' ap) env w1); holding [] (assign (.Subscript (.Name x yp) b' bp) env w2); pure ()) _ X _
    refine wpAny_bind (wpAny_holding ?_)
    refine setAt_ok (s := { s with heap := h2, toks := tk1 }) T hx c3 hK1 EO AO (F1.keeps kp) ((ES.keeps kp).vr r1) fun φ3 ow3 h3 tk3 hK3 F3 l3 => ?_
    refine wpAny_bind (wpAny_holding ?_)
    refine setAt_ok (s := { s with heap := h3, toks := tk3 }) T hx c4 hK3 EO AO F3 (l3.vr ((ES.keeps kp).vr r2)) fun φ4 ow4 h4 tk4 hK4 F4 l4 => ?_
    exact wpAny_pure (hQ .next φ4 ow4 h4 tk4 hK4 F4 (((st1.le.trans (Le.keeps kp)).trans l3).trans l4))

theorem callX_ok (T : Tops prog w H GT n) {f : E} {as : Es} {ex : Expr} {φ : Frame} {K : PV → Frame → Prop} {Γ : Cx} {gn : List Str} {env : Env} {fo : Addr → Prop} {base : Heap} {ow : Addr → Option Nat} {A : Around} {s : Shared} {Q X : Value → Shared → Prop}
    (hc : chkE GT Γ gn (.call f as) ex = true) (hK : evX GT (Spec prog w H n) (SpecX prog w H A env) f as φ K) (EO : EnvOk Γ gn env) (AO : AOk n A) (F : FR H Γ env fo base φ ow s.heap)
    (hQ : ∀ v r φ' ow' h' tk, K r φ' → FR H Γ env fo base φ' ow' h' → Le ow s.heap ow' h' → VR (Fz ow' h') r v → Q v { s with heap := h', toks := tk }) : wpAny (model prog w) A (eval ex env) Q X s := by
  unfold evX at hK
  replace hc := inv_call hc; obtain ⟨_, _, _, rfl, hc⟩ := hc
  · rename_i f' as' pos
    simp only [Bool.and_eq_true, Bool.not_eq_true'] at hc
    obtain ⟨⟨⟨⟨hn, hne⟩, _⟩, c1⟩, c2⟩ := hc
    cases f' with
    | Name x p =>
      refine Call_Name rfl ((sndE T f).1 _ φ _ Γ gn env fo base ow A s _ _ c1 hK EO AO F ?_)
      intro va pa φ1 ow1 h1 tk1 hK1 F1 st1 v1
      obtain ⟨a, rfl, ⟨us, r, hS⟩, hK1⟩ := hK1
      unfold RV VR at v1
      subst v1
      obtain ⟨a', o, fd, ea, ho, hd⟩ := hS.1
      cases ea
      refine Calls.callWith_function (o := o) (fd := fd) (args_ok (sndEs T as).1 hne c2 hK1 EO AO F1 fun vs pvs φ' ow' h' tk k F' st vr => ?_)
      rw [List.nil_append]
      obtain ⟨r', hS', k⟩ := k
      refine ⟨⟨F'.topIn _ _ ho, hd⟩, hS'.2 Γ gn fo base φ' ow' _ vs _ _ EO F' vr fun v h2 tk2 F2 l2 vr2 => ?_⟩
      exact hQ v r' φ' ow' h2 tk2 k F2 ((st1.le.trans st.le).trans l2) vr2
    | _ => cases hn

theorem snd_ifX (T : Tops prog w H GT n) {op : CmpOp} {f : E} {as : Es} {r : E} {a b : Bs} (ha : SndB prog w H GT n a) (hb : SndB prog w H GT n b) : SndS prog w H GT n (.ifX op f as r a b) := by
  intro stmt φ k Γ gn env fo base ow A s Q X hc hK EO AO F hQ
  simp only [↓evS_asg, ↓evS_own, ↓evS_swap, ↓evS_app, ↓evS_loop, ↓evS_enum, ↓evS_ife, ↓evS_ret, ↓evS_brk, ↓evS_ifX] at hK
  obtain ⟨e', r', p, pos, a', b', ns, c1, c2, c3, c4⟩ := inv_ifX hc
  · refine wpAny_If (wpAny_isTrue_Compare1 (callX_ok T c1 hK EO AO F fun v p φ1 ow1 h1 tk1 hK1 F1 l1 v1 => ?_) (notSet_mark ns))
    refine (sndE T r).1 _ φ1 _ Γ gn env fo base ow1 A _ _ _ c2 hK1 EO AO F1 ?_
    intro vb pb φ2 ow2 h2 tk2 hK2 F2 st2 v2
    refine cmpop_ok (ow := ow2) hK2 (st2.vr v1) v2 (by have := AO.un; lia) fun c hc => ?_
    refine wpAny_truthy_bool ?_
    cases c with
    | true => exact ha _ φ2 _ Γ gn env fo base ow2 A _ _ _ c3 (hc.1 rfl) EO AO F2 fun fl φ' ow' h' tk hf F' l' => hQ fl φ' ow' h' tk hf F' ((l1.trans st2.le).trans l')
    | false => exact hb _ φ2 _ Γ gn env fo base ow2 A _ _ _ c4 (hc.2 rfl) EO AO F2 fun fl φ' ow' h' tk hf F' l' => hQ fl φ' ow' h' tk hf F' ((l1.trans st2.le).trans l')

end
end Mine
end
section
open AutoSeq1 (wpAny_loadPart')
set_option maxRecDepth 100000
namespace Mine

section
variable {prog : Program} {w : World} {A : Around} {E : Value → Shared → Prop} {s : Shared}
theorem nextOf_tup_item {it t : Addr} {i : Nat} {items : Array Value} {x : Value} {Q : Value → Shared → Prop} (hit : s.heap.IsTupleIter it t i) (ht : s.heap.IsTuple t items) (hx : items[i]? = some x)
    (hQ : ∀ h', h'.IsTupleIter it t (i + 1) → Heap.SameBut it s.heap h' → Q x { s with heap := h' }) : wpAny (model prog w) A (Builtin.SmallTypes.nextOf (.ref it)) Q E s := by
  obtain ⟨o, ho, hc, hd⟩ := id hit
  obtain ⟨ol, hol, _, nl, hdl⟩ := ht
  unfold Builtin.SmallTypes.nextOf
  refine wpAny_bind (wpAny_callSpecial?_slot (name := Str.ofString "__next__") hit.typeIs F.slot_tuple_iterator_next
    (wpAny_call_entry F.slot_tuple_iterator_next hit.typeIs F.entry_tuple_iterator_next ?_ (F.args_tuple_iterator_next_1 _)))
  show wpAny _ _ (field (.ref it) 0 >>= _) _ _ s
  refine wpAny_bind (wpAny_field ho hd (x := .ref t) rfl ?_)
  show wpAny _ _ (if (Value.ref t == Value.none) = true then _ else _) _ _ s
  rw [if_neg (show ¬ ((Value.ref t == Value.none) = true) from Bool.false_ne_true)]
  show wpAny _ _ (field (.ref it) 1 >>= _) _ _ s
  refine wpAny_bind (wpAny_field ho hd (x := .int i 0) rfl ?_)
  show wpAny _ _ (seqItems? (.ref t) >>= _) _ _ s
  refine wpAny_bind (wpAny_seqItems hol hdl ?_)
  simp only [Int.toNat_natCast, hx]
  refine wpAny_bind (wpAny_setField ho hd (by simp) (wpAny_pure ⟨x, rfl, wpAny_pure (hQ _ ?_ (Heap.SameBut.update ..))⟩))
  exact ⟨_, Heap.get?_update_self _ ho (Obj.isFreed_of_fields (Obj.data_mapFields hd _)), (Obj.cls_mapFields ..).trans hc, by
    rw [Obj.data_mapFields hd]; simp [rawInt]⟩
theorem nextOf_tup_end {it t : Addr} {i : Nat} {items : Array Value} {Q : Value → Shared → Prop} (hh : A.handled = none) (hit : s.heap.IsTupleIter it t i) (ht : s.heap.IsTuple t items) (hx : items[i]? = none)
    (hE : ∀ h' e, Heap.ExtBut it s.heap h' → (∃ o, h'.get? e = some o ∧ o.cls = .type "StopIteration") → E (.ref e) { s with heap := h' }) :
    wpAny (model prog w) A (Builtin.SmallTypes.nextOf (.ref it)) Q E s := by
  obtain ⟨o, ho, hc, hd⟩ := id hit
  obtain ⟨ol, hol, _, nl, hdl⟩ := ht
  unfold Builtin.SmallTypes.nextOf
  refine wpAny_bind (wpAny_callSpecial?_slot (name := Str.ofString "__next__") hit.typeIs F.slot_tuple_iterator_next
    (wpAny_call_entry F.slot_tuple_iterator_next hit.typeIs F.entry_tuple_iterator_next ?_ (F.args_tuple_iterator_next_1 _)))
  show wpAny _ _ (field (.ref it) 0 >>= _) _ _ s
  refine wpAny_bind (wpAny_field ho hd (x := .ref t) rfl ?_)
  show wpAny _ _ (if (Value.ref t == Value.none) = true then _ else _) _ _ s
  rw [if_neg (show ¬ ((Value.ref t == Value.none) = true) from Bool.false_ne_true)]
  show wpAny _ _ (field (.ref it) 1 >>= _) _ _ s
  refine wpAny_bind (wpAny_field ho hd (x := .int i 0) rfl ?_)
  show wpAny _ _ (seqItems? (.ref t) >>= _) _ _ s
  refine wpAny_bind (wpAny_seqItems hol hdl ?_)
  simp only [Int.toNat_natCast, hx]
  refine wpAny_bind (wpAny_rule (wpAny_bind (wpAny_setField ho hd (by simp) ?_)))
  show wpAny _ _ (newExc (.type "StopIteration") [] >>= _) _ _ _
  refine wpAny_bind ?_
  simp only [newExc, newTuple]
  refine wpAny_bind (wpAny_newObj_type ?_ (by size_fits))
  refine wpAny_bind (m := firstArgMember _ _) (wpAny_of_eq (a := Value.none) (by first | rfl | (simp only [firstArgMember]; rfl)) ?_)
  refine wpAny_newObj_type ?_ (by size_fits)
  simp only [raiseNew]
  refine wpAny_bind (wpAny_handled ?_)
  first | rw [show A.in1.handled = none from hh] | rw [hh]
  refine wpAny_bind (wpAny_pure (wpAny_throw ?_))
  exact hE _ _ (((Heap.SameBut.update ..).extBut.push _).push _) ⟨_, Heap.get?_push_size _ rfl, rfl⟩
end

theorem drawsTup {prog : Program} {w : World} {A : Around} (hh : A.handled = none) (it l : Addr) (hne : l ≠ it) (items : Array Value) :
    Draws prog w A it [it, l] items.size (fun i v => items[i]? = some v) (fun i h => h.IsTupleIter it l i ∧ h.IsTuple l items) where
  live := fun _ _ st => let ⟨o, ho, _⟩ := st.1; ⟨o, ho⟩
  frame := fun _ _ _ st hk => ⟨st.1.at fun o e => hk it (by simp) o e, st.2.at fun o e => hk l (by simp) o e⟩
  item := fun i s Q E hi st hQ => by
    refine nextOf_tup_item st.1 st.2 (x := items[i]) (by simp [hi]) fun h' hit' hs' => ?_
    exact hQ _ h' s.toks (by simp [hi]) ⟨hit', st.2.extBut hs'.extBut hne⟩ hs'
  done := fun s Q E st hE => nextOf_tup_end hh st.1 st.2 (by simp) hE

theorem meets_enum_tup (l : Addr) (items : Array Value) (n : Nat) :
    Meets (Builtin.«enumerate.__new__» ⟨[.type "enumerate", .ref l], []⟩) (fun _ R s => s.heap.get? l = some { cls := .type "tuple", dict := none, data := .seq items n, slots := #[] } ∧
      R (.ok (.ret (.ref (s.heap.push { cls := .type "tuple_iterator", data := .fields #[.ref l, .int 0 0] }).objs.size)))
        { s with heap := (s.heap.push { cls := .type "tuple_iterator", data := .fields #[.ref l, .int 0 0] }).push { cls := .type "enumerate", data := .fields #[.none, .bool false, .ref s.heap.objs.size, rawInt 0, .none, .none] } }) :=
  .of_wp fun prog w A R s h => by
    obtain ⟨hp, g, d, tk, os⟩ := s; obtain ⟨hl, h⟩ := h
    have hsub := sub_enumerate
    have hL : Heap.IsTuple (Shared.heap ⟨hp, g, d, tk, os⟩) l items := ⟨_, hl, rfl, n, rfl⟩
    wp_walk using wpAny_loadPart' hl
    refine wpAny_stack_any fun st => wpAny_pure ?_
    split
    · rename_i c _ _ _ _ _
      cases (c == Value.type "enumerate")
      · wp_walk using wpAny_loadPart' hl, wpAny_pyIter_tuple hL
        exact ⟨_, rfl, h⟩
      · wp_walk using wpAny_loadPart' hl, wpAny_pyIter_tuple hL
        exact ⟨_, rfl, h⟩
    · wp_walk using wpAny_loadPart' hl, wpAny_pyIter_tuple hL
      exact ⟨_, rfl, h⟩

theorem call_enum_tup {prog : Program} {w : World} {A : Around} {E : Value → Shared → Prop} {s : Shared} {l : Addr} {items : Array Value} {n : Nat} {Q : Value → Shared → Prop}
    (hl : s.heap.get? l = some { cls := .type "tuple", dict := none, data := .seq items n, slots := #[] })
    (h : ∀ h', IsEnum h' (s.heap.objs.size + 1) s.heap.objs.size 0 .none → h'.IsTupleIter s.heap.objs.size l 0 →
      (∀ b o, s.heap.get? b = some o → h'.get? b = some o) → Q (.ref (s.heap.objs.size + 1)) { s with heap := h' }) :
    wpAny (model prog w) A (call (.type "enumerate") [.ref l]) Q E s := by
  refine callType_new F.called_enumerate (by decide) (F.typeCall_enumerate_1 _) (F.newCall_enumerate_1 _) (fun obj => F.args_object_init_2 obj _) F.entry_enumerate_new
    (meets_enum_tup l items n) ⟨hl, ?_⟩
  have hz : (s.heap.push { cls := .type "tuple_iterator", data := .fields #[.ref l, .int 0 0] }).objs.size = s.heap.objs.size + 1 := Heap.size_push ..
  show _ ∧ _
  rw [hz]
  have he : IsEnum ((s.heap.push { cls := .type "tuple_iterator", data := .fields #[.ref l, .int 0 0] }).push
      { cls := .type "enumerate", data := .fields #[.none, .bool false, .ref s.heap.objs.size, rawInt 0, .none, .none] }) (s.heap.objs.size + 1) s.heap.objs.size 0 .none := by
    have := Heap.get?_push_size (s.heap.push { cls := .type "tuple_iterator", data := .fields #[.ref l, .int 0 0] })
      (o := { cls := .type "enumerate", data := .fields #[.none, .bool false, .ref s.heap.objs.size, rawInt 0, .none, .none] }) rfl
    rw [hz] at this; exact this
  refine ⟨⟨_, he, rfl⟩, h _ he ⟨_, Heap.get?_push_of_some _ (Heap.get?_push_size _ rfl), rfl, rfl⟩ fun b o x => Heap.get?_push_of_some _ (Heap.get?_push_of_some _ x)⟩
end Mine
end
section
namespace Mine

section
variable {H : Heap} {Γ : Cx} {env : Env} {fo : Addr → Prop} {base : Heap} {φ : Frame} {ow : Addr → Option Nat} {h h' : Heap}
theorem FR.turn2s (F : FR H Γ env fo base φ ow h) (k2 : ∀ b o, ow b ≠ some 2 → h.get? b = some o → h'.get? b = some o) (he : ∀ b, ow b = some 2 → (h.get? b).isSome = true → (h'.get? b).isSome = true) : FR H Γ env fo base φ ow h' := by
  have l : Le0 ow h ow h' := ⟨fun a o f => ⟨f.1, k2 a o (by rw [f.1]; simp) f.2⟩⟩
  refine F.turn (t := 1) k2 he rfl (fun _ _ => rfl) ?_ (fun i x hi _ => by lia) fun i x _ hi => by lia
  obtain ⟨m, hm, hs⟩ := F.ns
  refine ⟨m, ?_, fun i x e => (hs i x e).mono l fun a o e1 e2 => ⟨e1, k2 a o (by rw [e1]; intro q; cases q) e2⟩⟩
  have hne : ow env.locals ≠ some 2 := fun q => by have h9 := F.nso; rw [q] at h9; cases h9
  obtain ⟨o, es, ep, ho, r⟩ := hm
  exact ⟨o, es, ep, k2 _ _ hne ho, r⟩
end

noncomputable def enumOf (items : List PV) : List PV := items.zipIdx.map fun p => .tup [.int p.2, p.1]
theorem enumOf_get {items : List PV} {i : Nat} (hi : i < items.length) : (enumOf items)[i]'(by simp [enumOf]; exact hi) = .tup [.int i, items[i]] := by
  simp [enumOf]

section
variable {prog : Program} {w : World} {H : Heap} {GT : List (Str × PV)} {n : Nat}

inductive EnumAt (e it a : Addr) (i : Nat) (ow : Addr → Option Nat) (h : Heap) : Prop
  | mk (oe : ow e = some 2) (oi : ow it = some 2) (old : Value) (en : IsEnum h e it i old) (tu : h.IsTupleIter it a i)
theorem EnumAt.oe {e it a : Addr} {i : Nat} {ow : Addr → Option Nat} {h : Heap} (E : EnumAt e it a i ow h) : ow e = some 2 := by cases E; assumption
theorem EnumAt.oi {e it a : Addr} {i : Nat} {ow : Addr → Option Nat} {h : Heap} (E : EnumAt e it a i ow h) : ow it = some 2 := by cases E; assumption
theorem EnumAt.le {e it a : Addr} {i : Nat} {ow ow' : Addr → Option Nat} {h h' : Heap} (E : EnumAt e it a i ow h) (l : Le ow h ow' h') : EnumAt e it a i ow' h' := by
  obtain ⟨oe, oi, old, en, oo, h1, h2, h3⟩ := E
  obtain ⟨p1, q1⟩ := l.two e _ oe en
  obtain ⟨p2, q2⟩ := l.two it _ oi h1
  exact ⟨p1, p2, old, q1, oo, q2, h2, h3⟩
theorem EnumAt.fr {Γ : Cx} {env : Env} {fo : Addr → Prop} {base : Heap} {φ : Frame} {e it a : Addr} {i : Nat} {ow : Addr → Option Nat} {h h' : Heap} (E : EnumAt e it a i ow h) (F : FR H Γ env fo base φ ow h) (kb : ∀ b o, b ≠ e → b ≠ it → h.get? b = some o → h'.get? b = some o)
    (he : (h'.get? e).isSome = true) (hi : (h'.get? it).isSome = true) : FR H Γ env fo base φ ow h' := by
  refine F.turn2s (fun b o q1 q2 => kb b o (fun q => q1 (by rw [q]; exact E.oe)) (fun q => q1 (by rw [q]; exact E.oi)) q2) fun b q1 q2 => ?_
  by_cases hbe : b = e
  · rw [hbe]; exact he
  · by_cases hbi : b = it
    · rw [hbi]; exact hi
    · obtain ⟨o, ho⟩ := Option.isSome_iff_exists.mp q2
      rw [kb b o hbe hbi ho]; rfl
theorem EnumAt.lex {e it a : Addr} {i : Nat} {ow : Addr → Option Nat} {h h' : Heap} (E : EnumAt e it a i ow h) (kb : ∀ b o, b ≠ e → b ≠ it → h.get? b = some o → h'.get? b = some o) : LeX (fun b => b = e ∨ b = it) ow h ow h' :=
  ⟨⟨fun b o f => ⟨f.1, kb b o (fun q => by subst q; have h9 := f.1; rw [E.oe] at h9; cases h9) (fun q => by subst q; have h9 := f.1; rw [E.oi] at h9; cases h9) f.2⟩⟩,
    fun b o q1 q2 q3 => ⟨q2, kb b o (fun q => q1 (.inl q)) (fun q => q1 (.inr q)) q3⟩⟩
inductive EnumInv (Γ : Cx) (env : Env) (fo : Addr → Prop) (base : Heap) (e it a : Addr) (items : List PV) (f : PV → Frame → (Frame → Prop) → Prop) (K : Frame → Prop) (ow : Addr → Option Nat) (s : Shared) : Nat → Shared → Prop
  | mk (i : Nat) (φ' : Frame) (ow' : Addr → Option Nat) (h' : Heap) (tk : Nat) (hi : i ≤ items.length) (hK : loopF f ((enumOf items).drop i) φ' K) (F : FR H Γ env fo base φ' ow' h') (E : EnumAt e it a i ow' h') (x : LeX (fun b => b = e ∨ b = it) ow s.heap ow' h') :
    EnumInv Γ env fo base e it a items f K ow s (items.length - i) { s with heap := h', toks := tk }

theorem loop_enum {t : Tg} {t' : Expr} {body orelse : Bs} {body' orelse' : List Stmt} (hb : SndB prog w H GT n body) (ho : SndB prog w H GT n orelse) {φ : Frame} {k : Ks} {Γ : Cx} {gn : List Str} {env : Env} {fo : Addr → Prop} {base : Heap}
    {e it a : Addr} {ow : Addr → Option Nat} {A : Around} {s : Shared} {R : Result → Shared → Prop} {items : List PV} {vs : List Value} {kk : Nat} {is : List Nat}
    (ht : t = .many is) (c1 : chkT Γ t t' = true) (c2 : chkB GT Γ gn body body' = true) (c3 : chkB GT Γ gn orelse orelse' = true)
    (hK : loopF (fun v φ nxt => asg t v φ fun φ => evB GT (Spec prog w H n) (SpecX prog w H A env) body φ ⟨nxt, k.r, k.n⟩) (enumOf items) φ fun φ => evB GT (Spec prog w H n) (SpecX prog w H A env) orelse φ k)
    (EO : EnvOk Γ gn env) (AO : AOk n A) (hei : e ≠ it) (he : IsEnum s.heap e it 0 .none) (hit : s.heap.IsTupleIter it a 0) (F : FR H Γ env fo base φ ow s.heap) (oe : ow e = some 2) (oi : ow it = some 2)
    (fz : Fz ow s.heap a (tupObj vs kk)) (hv : VRs (Fz ow s.heap) items vs)
    (hQ : ∀ fl φ' ow' h' tk, FOk k fl φ' ow' h' → FR H Γ env fo base φ' ow' h' → LeX (fun b => b = e ∨ b = it) ow s.heap ow' h' → R (.ok fl) { s with heap := h', toks := tk }) :
    codeAny (model prog w) A (.forLoop t' (.ref e) body' orelse' env) R s := by
  have len : (enumOf items).length = items.length := by simp [enumOf]
  have hlen := hv.length
  have aE : a ≠ e := fun q => by subst q; have h9 := fz.1; rw [oe] at h9; cases h9
  have aI : a ≠ it := fun q => by subst q; have h9 := fz.1; rw [oi] at h9; cases h9
  refine codeAny_forLoop_any (EnumInv (H := H) Γ env fo base e it a items (fun v φ nxt => asg t v φ fun φ => evB GT (Spec prog w H n) (SpecX prog w H A env) body φ ⟨nxt, k.r, k.n⟩) (fun φ => evB GT (Spec prog w H n) (SpecX prog w H A env) orelse φ k) ow s) ?_ items.length
    ⟨0, φ, ow, s.heap, s.toks, Nat.zero_le _, hK, F, ⟨oe, oi, _, he, hit⟩, .refl ..⟩
  rintro m _ ⟨i, φ1, ow1, h1, tk1, hi, hK1, F1, E1, x1⟩
  obtain ⟨oe1, oi1, old, he1, hit1⟩ := id E1
  have D := drawsTup (prog := prog) (w := w) (A := A.in1) AO.hh it a aI vs.toArray
  have fz1 := x1.fz a _ fz
  have hT1 : h1.IsTuple a vs.toArray := ⟨_, fz1.2, rfl, kk, rfl⟩
  have hef : e ∉ [it, a] := by simp; exact ⟨hei, Ne.symm aE⟩
  by_cases hlt : i < items.length
  · rw [drop_cons (Nat.lt_of_lt_of_eq hlt len.symm), enumOf_get hlt] at hK1
    unfold loopF at hK1
    refine wpAny_pyNext_enum_itemD D he1 ⟨hit1, hT1⟩ (by simp; lia) hei hef fun x h2 tk hP hO hst2 hTT hsz hk => ?_
    have ht' : ∃ es kx p, t' = .Tuple es kx p := by
      subst ht
      obtain ⟨_, _, _, rfl, _⟩ := inv_many c1
      exact ⟨_, _, _, rfl⟩
    obtain ⟨es, kx, p, rfl⟩ := ht'
    refine wpAny_letOwnedTupleGo_enum hO fun h3 he3 hs3 => ?_
    have hnew : h1.get? h1.objs.size = none := get_none_size h1
    have he3' : IsEnum h3 e it ((i + 1 : Nat) : Int) x := by simpa using he3
    have kb : ∀ b o, b ≠ e → b ≠ it → h1.get? b = some o → h3.get? b = some o := fun b o q1 q2 q3 => (hs3.2 b q1).trans (hk b o q1 q2 q3)
    have hit3 : h3.IsTupleIter it a (i + 1) := hst2.1.extBut hs3.extBut (Ne.symm hei)
    have F3 : FR H Γ env fo base φ1 ow1 h3 := E1.fr F1 kb (by rw [he3]; rfl) (by obtain ⟨o, ho, _⟩ := hit3; rw [ho]; rfl)
    have l13 := E1.lex kb
    have hT3 : h3.get? h1.objs.size = some (tupObj [.int i tk, x] 0) := (hs3.2 _ (fun q => by have h9 := Heap.lt_size he1; rw [← q] at h9; exact Nat.lt_irrefl _ h9)).trans hTT
    have oT : ow1 h1.objs.size = none := F1.fresh hnew
    have hxv : VR (Fz ow1 h3) items[i] x := by
      have hg : vs[i]? = some x := by simpa using hP
      obtain ⟨v, e1, e2⟩ := hv.get (List.getElem?_eq_getElem hlt)
      rw [hg] at e1; cases e1
      exact l13.vr (x1.vr e2)
    have vr : VR (Fz ow1 h3) (.tup [.int i, items[i]]) (.ref h1.objs.size) := by
      unfold VR
      exact ⟨_, [.int i tk, x], 0, rfl, ⟨oT, hT3⟩, by have z : sizeLine = 16777216 := rfl; simp; lia, VRs.cons' (by unfold VR; exact ⟨_, rfl⟩) (VRs.one hxv)⟩
    refine asg_ok c1 hK1 EO AO.hh F3 vr fun φ4 h4 tk4 hK4 F4 l4 => ?_
    refine hb _ φ4 _ Γ gn env fo base ow1 A _ _ _ c2 hK4 EO AO F4 ?_
    intro fl φ5 ow5 h5 tk5 hf F5 l5
    have E5 := EnumAt.le ⟨oe1, oi1, _, he3', hit3⟩ (l4.trans l5)
    have x5 : LeX (fun b => b = e ∨ b = it) ow s.heap ow5 h5 := (x1.trans l13).trans (l4.trans l5).x
    cases fl with
    | next => exact ⟨_, Nat.sub_succ_lt_self _ _ hlt, i + 1, φ5, ow5, h5, tk5, hlt, hf, F5, E5, x5⟩
    | brk => exact hQ .next φ5 ow5 h5 tk5 hf F5 x5
    | cont => exact hf.elim
    | ret v => exact hQ (.ret v) φ5 ow5 h5 tk5 hf F5 x5
  · have hin : i = items.length := Nat.le_antisymm hi (Nat.le_of_not_lt hlt)
    subst hin
    rw [← len, List.drop_length] at hK1
    unfold loopF at hK1
    have hst : h1.IsTupleIter it a vs.toArray.size ∧ h1.IsTuple a vs.toArray := by
      refine ⟨?_, hT1⟩
      have : vs.toArray.size = items.length := by simp; lia
      rw [this]; exact hit1
    refine wpAny_pyNext_enum_endD D he1 hst fun h2 hx => ?_
    have kb : ∀ b o, b ≠ it → h1.get? b = some o → h2.get? b = some o := fun b o hb q => hx b o hb q
    have x2 : LeX (fun b => b = e ∨ b = it) ow1 h1 (untag ow1 it) h2 := untag_leX oi1 kb
    refine ho _ φ1 _ Γ gn env fo base (untag ow1 it) A _ _ _ c3 hK1 EO AO (F1.drop2 oi1 kb) ?_
    intro fl φ4 ow4 h4 tk4 hf F4 l4
    exact hQ fl φ4 ow4 h4 tk4 hf F4 ((x1.trans x2).trans l4.x)

theorem snd_enum (T : Tops prog w H GT n) {g : Nat} {t : Tg} {iter : E} {body orelse : Bs} (hb : SndB prog w H GT n body) (ho : SndB prog w H GT n orelse) : SndS prog w H GT n (.enum g t iter body orelse) := by
  intro stmt φ k Γ gn env fo base ow A s Q X hc hK EO AO F hQ
  simp only [↓evS_asg, ↓evS_own, ↓evS_swap, ↓evS_app, ↓evS_loop, ↓evS_enum, ↓evS_ife, ↓evS_ret, ↓evS_brk, ↓evS_ifX] at hK
  obtain ⟨t', f, fp, p, pos, iter', body', orelse', c1, cm, c2, c3, c4, c5⟩ := inv_enum hc
  · have ht : ∃ is, t = .many is := by
      cases t with
      | one i => cases cm
      | many is => exact ⟨is, rfl⟩
    obtain ⟨⟨y, hg⟩, hK⟩ := hK
    have cg : chkE GT Γ gn (.glob g) (.Name f fp) = true := c1
    have eg : evE GT (Spec prog w H n) (.glob g) φ (fun v φ' => v = .raw (.type "enumerate") ∧ φ' = φ) := by simp only [↓evE_const, ↓evE_var, ↓evE_glob, ↓evE_bin, ↓evE_cmp, ↓evE_ife, ↓evE_call, ↓evE_lenv, ↓evE_meth, ↓evE_sub, ↓evE_subv, ↓evE_slc, ↓evE_list, ↓evE_tup, ↓evE_comp, hg, and_true]
    refine wpAny_For (Call_Name rfl (snd_glob T g _ φ _ Γ gn env fo base ow A s _ _ cg eg EO AO F ?_)) (fun x => rfl)
    rintro vf pf φ1 ow1 h1 tk1 ⟨rfl, rfl⟩ F1 st1 v1
    unfold RV VR at v1
    subst v1
    have cs : chkEs GT Γ gn (.cons iter .nil) [iter'] = true := and_true_of c3 rfl
    have pl : (backTo p (starEach [iter'] env)).any (·.1) = false := by rw [chkEs_plain cs, backTo_plain]; exact plain_any
    refine PySem.callWith_type pl (args_ok (K := fun vs φ => ∃ x, vs = [x] ∧ ∃ items, x = .tup items ∧
      loopF (fun v φ nxt => asg t v φ fun φ => evB GT (Spec prog w H n) (SpecX prog w H A env) body φ ⟨nxt, k.r, k.n⟩) (enumOf items) φ fun φ => evB GT (Spec prog w H n) (SpecX prog w H A env) orelse φ k) (sndEs T (.cons iter .nil)).1 rfl cs ?_ EO AO F1 ?_)
    · simp only [↓evEs_nil, ↓evEs_cons, List.cons.injEq, and_true, exists_eq_left']
      exact hK
    intro vs pvs φ2 ow2 h2 tk2 hK2 F2 st2 vr
    obtain ⟨x, rfl, items, rfl, hK2⟩ := hK2
    unfold VRs at vr
    obtain ⟨v, r, rfl, vx, vr⟩ := vr
    unfold VRs at vr; subst vr
    unfold VR at vx
    obtain ⟨a, us, kk, rfl, fz, lz, hs⟩ := vx
    rw [List.nil_append]
    refine call_enum_tup (items := us.toArray) (n := kk) fz.2 fun h3 he hit kp => ?_
    refine wpAny_pyIter_enum he ?_
    have n1 : h2.get? h2.objs.size = none := get_none_size h2
    have n2 : h2.get? (h2.objs.size + 1) = none := by
      cases q : h2.get? (h2.objs.size + 1) with
      | none => rfl
      | some o => exact absurd (Heap.lt_size q) (Nat.not_lt.mpr (Nat.le_succ _))
    obtain ⟨oi, hoi, _⟩ := id hit
    generalize hz1 : h2.objs.size + 1 = e at he n2 ⊢
    generalize hz2 : h2.objs.size = it at he hit n1 hoi
    have hei : e ≠ it := fun q => by rw [← hz1, ← hz2] at q; exact absurd q (Nat.succ_ne_self _)
    have ne : ∀ b o, h2.get? b = some o → b ≠ e ∧ b ≠ it := fun b o q => ⟨(fun z => by subst z; rw [n2] at q; cases q), (fun z => by subst z; rw [n1] at q; cases q)⟩
    have F3 : FR H Γ env fo base φ2 (tagged (tagged ow2 it 2) e 2) h3 := by
      refine F2.grow kp (fun b q => ?_) fun b q z => ?_
      · obtain ⟨o, ho⟩ := Option.isSome_iff_exists.mp q
        obtain ⟨q1, q2⟩ := ne b o ho
        rw [tagged_ne q1, tagged_ne q2]
      · by_cases hbe : b = e
        · subst hbe; exact ⟨by rw [he]; rfl, by rw [tagged_self]; simp⟩
        · rw [tagged_ne hbe] at z ⊢
          by_cases hbi : b = it
          · subst hbi; exact ⟨by rw [hoi]; rfl, by rw [tagged_self]; simp⟩
          · rw [tagged_ne hbi] at z; exact absurd (F2.fresh q) z
    have l23 : Le ow2 h2 (tagged (tagged ow2 it 2) e 2) h3 := ⟨⟨fun b o f => ⟨by rw [tagged_ne (ne b o f.2).1, tagged_ne (ne b o f.2).2]; exact f.1, kp b o f.2⟩⟩, fun b o q f => ⟨by rw [tagged_ne (ne b o f).1, tagged_ne (ne b o f).2]; exact q, kp b o f⟩⟩
    obtain ⟨is, ht⟩ := ht
    refine loop_enum (e := e) (it := it) (a := a) (vs := us) (kk := kk) hb ho ht c2 c4 c5 hK2 EO AO hei he hit F3 tagged_self (by rw [tagged_ne (Ne.symm hei)]; exact tagged_self) (l23.fz a _ fz) (l23.vrs hs) ?_
    intro fl φ4 ow4 h4 tk4 hf F4 x4
    have l12 : Le ow s.heap ow2 h2 := st1.le.trans st2.le
    refine hQ fl φ4 ow4 h4 tk4 hf F4 ⟨(l12.toLe0.trans l23.toLe0).trans x4.toLe0, fun b o q f => ?_⟩
    obtain ⟨p1, q1⟩ := l12.two b o q f
    obtain ⟨p2, q2⟩ := l23.two b o p1 q1
    obtain ⟨m1, m2⟩ := ne b o q1
    exact x4.two b o (fun z => z.elim m1 m2) p2 q2

mutual
theorem sndS (T : Tops prog w H GT n) : ∀ st : S, SndS prog w H GT n st
  | .asg _ _ => snd_asg T
  | .own _ _ => snd_own T
  | .swap _ _ _ _ => snd_swap T
  | .app _ _ => snd_app T
  | .loop _ _ body orelse => snd_loop T (sndB T body) (sndB T orelse)
  | .enum _ _ _ body orelse => snd_enum T (sndB T body) (sndB T orelse)
  | .ife t a b => snd_ife_s (sndE T t).2 (sndB T a) (sndB T b)
  | .ret e => snd_ret (sndE T e).1
  | .brk => snd_brk
  | .ifX _ _ _ _ a b => snd_ifX T (sndB T a) (sndB T b)
theorem sndB (T : Tops prog w H GT n) : ∀ b : Bs, SndB prog w H GT n b
  | .nil => snd_bnil
  | .cons st r => snd_bcons (sndS T st) (sndB T r)
end
end
end Mine
end
section
namespace Mine

/-! a call of a def -/
theorem zip_lookup : ∀ {ns : List Str} {vs : List Value} {i : Nat} {x : Str} {v : Value}, ns.Nodup → ns[i]? = some x → vs[i]? = some v → (ns.zip vs).lookup x = some v
  | [], _, _, _, _, _, h, _ => by simp at h
  | _ :: _, [], _, _, _, _, _, h => by simp at h
  | n :: ns, u :: vs, 0, x, v, hd, h1, h2 => by
    simp at h1 h2
    subst h1 h2
    simp
  | n :: ns, u :: vs, i + 1, x, v, hd, h1, h2 => by
    simp at h1 h2
    have hm : x ∈ ns := List.mem_of_getElem? h1
    have hne : x ≠ n := fun q => by subst q; exact (List.nodup_cons.mp hd).1 hm
    rw [List.zip_cons_cons, List.lookup_cons, show (x == n) = false from by simpa using hne]
    exact zip_lookup (List.nodup_cons.mp hd).2 h1 h2
theorem bindL_other {kindOf : Str → Option NameKind} {x : Str} : ∀ (binds : List (Str × Value)) (m : Str → Option Value), x ∉ binds.map (·.1) → bindL kindOf binds m x = m x
  | [], _, _ => rfl
  | (y, v) :: r, m, h => by
    simp only [List.map_cons, List.mem_cons, not_or] at h
    unfold bindL
    rw [bindL_other r _ h.2]
    split
    · exact if_neg h.1
    · rfl
theorem bindL_get {kindOf : Str → Option NameKind} {x : Str} {v : Value} (hk : kindOf x = some .local) : ∀ (binds : List (Str × Value)) (m : Str → Option Value), (binds.map (·.1)).Nodup → binds.lookup x = some v → bindL kindOf binds m x = some v
  | [], _, _, h => by cases h
  | (y, u) :: r, m, hd, h => by
    simp only [List.map_cons, List.nodup_cons] at hd
    unfold bindL
    rw [List.lookup_cons] at h
    cases q : x == y with
    | true =>
      rw [q] at h
      have := beq_iff_eq.mp q
      subst this
      cases h
      rw [bindL_other r _ hd.1, if_pos hk, if_pos rfl]
    | false =>
      rw [q] at h
      exact bindL_get hk r _ hd.2 h
theorem bindC_other {kindOf : Str → Option NameKind} {x : Str} : ∀ (binds : List (Str × Value)) (m : Str → Option Value), x ∉ binds.map (·.1) → bindC kindOf binds m x = m x
  | [], _, _ => rfl
  | (y, v) :: r, m, h => by
    simp only [List.map_cons, List.mem_cons, not_or] at h
    unfold bindC
    rw [bindC_other r _ h.2]
    split
    · rfl
    · exact if_neg h.1
theorem bindC_get {kindOf : Str → Option NameKind} {x : Str} {v : Value} (hk : kindOf x ≠ some .local) : ∀ (binds : List (Str × Value)) (m : Str → Option Value), (binds.map (·.1)).Nodup → binds.lookup x = some v → bindC kindOf binds m x = some v
  | [], _, _, h => by cases h
  | (y, u) :: r, m, hd, h => by
    simp only [List.map_cons, List.nodup_cons] at hd
    unfold bindC
    rw [List.lookup_cons] at h
    cases q : x == y with
    | true =>
      rw [q] at h
      have := beq_iff_eq.mp q
      subst this
      cases h
      rw [bindC_other r _ hd.1, if_neg hk, if_pos rfl]
    | false =>
      rw [q] at h
      exact bindC_get hk r _ hd.2 h

noncomputable def chkF (Γ : Cx) (gn : List Str) (scope : Scope) : Bool :=
  decide (scope.kind = .function) && decide ((Γ.map (·.1)).Nodup) &&
  Γ.all (fun x => scope.names.lookup x.1 == some (kindIs x.2) && x.2 != .fre && x.1 != ("__debug__" : Str) && x.1 != ("__classdict__" : Str)) &&
  gn.all (fun x => scope.names.lookup x == some .globalImplicit && x != ("__debug__" : Str))
structure FScope (Γ : Cx) (gn : List Str) (scope : Scope) : Prop where
  fn : scope.kind = .function
  nodup : (Γ.map (·.1)).Nodup
  kinds : ∀ x ∈ Γ, scope.names.lookup x.1 = some (kindIs x.2) ∧ x.2 ≠ .fre ∧ (x.1 == ("__debug__" : Str)) = false ∧ (x.1 == ("__classdict__" : Str)) = false
  gn : ∀ x ∈ gn, scope.names.lookup x = some .globalImplicit ∧ (x == ("__debug__" : Str)) = false
theorem chkF_spec {Γ : Cx} {gn : List Str} {scope : Scope} (h : chkF Γ gn scope = true) : FScope Γ gn scope := by
  unfold chkF at h
  simp only [Bool.and_eq_true, decide_eq_true_eq] at h
  obtain ⟨⟨⟨h1, h2⟩, h3⟩, h4⟩ := h
  refine ⟨h1, h2, fun x hx => ?_, fun x hx => ?_⟩
  · have := List.all_eq_true.mp h3 x hx
    simp only [Bool.and_eq_true, beq_iff_eq, bne_iff_ne] at this
    obtain ⟨⟨⟨e1, e2⟩, e3⟩, e4⟩ := this
    exact ⟨e1, e2, by simpa using e3, by simpa using e4⟩
  · have := List.all_eq_true.mp h4 x hx
    simp only [Bool.and_eq_true, beq_iff_eq, bne_iff_ne] at this
    exact ⟨this.1, by simpa using this.2⟩

structure FnAt (H : Heap) (a : Addr) (Γ : Cx) (gn : List Str) (np : Nat) (body : List Stmt) (o : Obj) (fd : FuncData) : Prop where
  at' : H.get? a = some o
  data : o.data = .func fd
  body : fd.body = .stmts body
  clo : fd.closure = []
  gl : fd.globals = mainGlobals
  bl : fd.builtins = builtinsNs
  crec : H.CodeRec fd.code fd.qualname
  sc : FScope Γ gn fd.scope
  few : np ≤ Γ.length
  bind : ∀ vals : List Value, vals.length = np → bindArgs fd ⟨vals, []⟩ = pure (((Γ.map (·.1)).take np).zip vals)
  co : fd.scope.isCoroutine = false
  ge : fd.scope.isGenerator = false

noncomputable def φ0 (Γ : Cx) (args : List PV) : Frame := args.map Slot.val ++ List.replicate (Γ.length - args.length) .unb

section
variable {H : Heap} {Γ : Cx} {gn : List Str} {np : Nat} {body : List Stmt} {o : Obj} {fd : FuncData} {a : Addr} {ow : Addr → Option Nat} {s s₁ : Shared} {args : List PV} {vals : List Value}

theorem envOk_call (F : FnAt H a Γ gn np body o fd) (L : Addr) : EnvOk Γ gn (callEnvC fd L a) := by
  refine ⟨F.sc.fn, fun i x k e => ?_, fun i x k e => ?_, F.sc.nodup, F.gl, F.bl, fun x hx => ?_⟩
  · obtain ⟨e1, e2, _⟩ := F.sc.kinds _ (List.mem_of_getElem? e)
    have : (callEnvC fd L a).kindOf x = fd.scope.names.lookup x := rfl
    rw [this, e1]
    cases k with
    | loc => rfl
    | cel => rfl
    | fre => exact absurd rfl e2
  · obtain ⟨_, _, e3, e4⟩ := F.sc.kinds _ (List.mem_of_getElem? e)
    exact ⟨e3, e4⟩
  · exact F.sc.gn x hx

theorem phi0_get (i : Nat) : (φ0 Γ args)[i]? = if i < args.length then (args[i]?).map Slot.val else if i < args.length + (Γ.length - args.length) then some .unb else none := by
  unfold φ0
  rw [List.getElem?_append]
  simp only [List.length_map, List.getElem?_map, List.getElem?_replicate]
  split
  · rfl
  · split
    · rw [if_pos (by lia)]
    · rw [if_neg (by lia)]

theorem FR.call (F : FnAt H a Γ gn np body o fd) (N : Now H ow s.heap) (hv : VRs (Fz ow s.heap) args vals) (hl : args.length = np)
    (X : InCallC s (callEnvC fd s.heap.objs.size a).locals (bindL (callEnvC fd s.heap.objs.size a).kindOf (((Γ.map (·.1)).take np).zip vals) fun _ => none) (callEnvC fd s.heap.objs.size a).cells
        (bindC (callEnvC fd s.heap.objs.size a).kindOf (((Γ.map (·.1)).take np).zip vals) fun _ => none) s₁) :
    FR H Γ (callEnvC fd s.heap.objs.size a) (fun a => ow a ≠ none) s.heap (φ0 Γ args) (owNew ow s.heap.objs.size Γ (callEnvC fd s.heap.objs.size a).cells) s₁.heap := by
  have hvl := hv.length
  have hnp := F.few
  generalize henv : callEnvC fd s.heap.objs.size a = env at X
  have hL : env.locals = s.heap.objs.size := by rw [← henv]; rfl
  have hko : ∀ x, env.kindOf x = fd.scope.names.lookup x := fun x => by rw [← henv]; rfl
  generalize hLL : s.heap.objs.size = L at hL
  have old_lt : ∀ {b : Addr}, ow b ≠ none → b < L := fun {b} e => by
    obtain ⟨q, hq⟩ := Option.isSome_iff_exists.mp (N.own b e).2
    rw [← hLL]; exact Heap.lt_size hq
  have new_none : ∀ {b : Addr}, L ≤ b → s.heap.get? b = none := fun {b} hb => by
    cases q : s.heap.get? b with
    | none => rfl
    | some o => have := Heap.lt_size q; rw [hLL] at this; exact absurd this (Nat.not_lt.mpr hb)
  have new_ow : ∀ {b : Addr}, L ≤ b → ow b = none := fun {b} hb => by
    cases q : ow b with
    | none => rfl
    | some t => exact absurd (old_lt (b := b) (by rw [q]; simp)) (Nat.not_lt.mpr hb)
  have above : ∀ {x : Str} {c : Addr}, env.cells.lookup x = some c → L < c := fun e => by
    have := X.above _ _ (mem_of_lookup e); rwa [hL] at this
  have l0 : Le0 ow s.heap (owNew ow L Γ env.cells) s₁.heap := ⟨fun b o f => by
    refine ⟨?_, X.toInCall.keep b o f.2⟩
    have hb : b < L := by have := Heap.lt_size f.2; rwa [hLL] at this
    unfold owNew
    rw [f.1]
    simp only
    rw [if_neg (Nat.ne_of_lt hb)]
    have : Γ.findIdx? (fun p => p.2 == .cel && env.cells.lookup p.1 == some b) = none := by
      rw [List.findIdx?_eq_none_iff]
      rintro ⟨x, k⟩ _
      cases k with
      | loc => rfl
      | fre => rfl
      | cel =>
        cases q : env.cells.lookup x with
        | none => rfl
        | some c =>
          have := above q
          have hne : c ≠ b := fun z => by subst z; exact absurd hb (Nat.not_lt.mpr (Nat.le_of_lt this))
          simp [hne]
    rw [this]; rfl⟩
  have celAt : ∀ {i : Nat} {x : Str}, Γ[i]? = some (x, .cel) → ∃ c, env.cells.lookup x = some c := fun {i x} e => by
    obtain ⟨e1, _⟩ := F.sc.kinds _ (List.mem_of_getElem? e)
    have hm := mem_lookup e1
    have := cellsFrom_own fd.scope.names (s.heap.push { cls := .type "frame", data := .dict #[] }) [] (x := x) hm
    rw [Heap.size_push] at this
    obtain ⟨c, e2, _⟩ := this
    refine ⟨c, ?_⟩
    rw [← henv]
    exact e2
  have tag : ∀ {i : Nat} {x : Str} {c : Addr}, Γ[i]? = some (x, .cel) → env.cells.lookup x = some c → owNew ow L Γ env.cells c = some (i + 3) := fun {i x c} e hc => by
    have hLc := above hc
    unfold owNew
    rw [new_ow (Nat.le_of_lt hLc)]
    simp only
    rw [if_neg (Nat.ne_of_gt hLc)]
    have : Γ.findIdx? (fun p => p.2 == .cel && env.cells.lookup p.1 == some c) = some i := by
      rw [List.findIdx?_eq_some_iff_getElem]
      have hi := lt_of_at e
      refine ⟨hi, ?_, fun j hj => ?_⟩
      · rw [List.getElem?_eq_getElem hi] at e
        rw [Option.some.inj e]
        simp [hc]
      · have hj' : j < Γ.length := Nat.lt_trans hj hi
        generalize hq : Γ[j] = p
        obtain ⟨y, k⟩ := p
        cases k with
        | loc => simp
        | fre => simp
        | cel =>
          have ej : Γ[j]? = some (y, .cel) := by rw [List.getElem?_eq_getElem hj', hq]
          have hne : y ≠ x := fun q => by
            subst q
            have pw := List.pairwise_iff_getElem.mp F.sc.nodup
            have := pw j i (by simpa using hj') (by simpa using hi) hj
            rw [List.getElem?_eq_getElem hi] at e
            simp [hq, Option.some.inj e] at this
          obtain ⟨b, f1⟩ := celAt ej
          have : b ≠ c := fun q => by
            subst q
            exact hne (name_of_addr X.apart (mem_of_lookup f1) (mem_of_lookup hc))
          simp [f1, this]
    rw [this]; rfl
  have kinds : ∀ {b : Addr} {t : Nat}, owNew ow L Γ env.cells b = some t → (t = 0 ∧ ow b ≠ none) ∨ (t ≠ 0 ∧ L ≤ b ∧ (s₁.heap.get? b).isSome = true) := fun {b t} e => by
    unfold owNew at e
    split at e
    · rename_i u q; cases e; exact .inl ⟨rfl, by rw [q]; simp⟩
    · split at e
      · rename_i q; cases e
        obtain ⟨oo, _, _, ho, _⟩ := X.toInCall.ns
        exact .inr ⟨by decide, by rw [q]; exact Nat.le_refl _, by rw [q, ← hL, ho]; rfl⟩
      · cases q : Γ.findIdx? (fun p => p.2 == .cel && env.cells.lookup p.1 == some b) with
        | none => rw [q] at e; cases e
        | some i =>
          rw [q] at e; cases e
          obtain ⟨hi', hp', _⟩ := List.findIdx?_eq_some_iff_getElem.mp q
          generalize hq : Γ[i] = p at hp'
          obtain ⟨y, k⟩ := p
          simp only [Bool.and_eq_true, beq_iff_eq] at hp'
          obtain ⟨rfl, hl⟩ := hp'
          obtain ⟨oo, ho, _⟩ := X.cell _ _ hl
          exact .inr ⟨by simp, Nat.le_of_lt (above hl), by rw [ho]; rfl⟩
  have ndt : ((Γ.map (·.1)).take np).Nodup := F.sc.nodup.sublist (List.take_sublist ..)
  have look : ∀ {i : Nat} {x : Str} {k : Kd}, Γ[i]? = some (x, k) → i < np → ∃ v pv, args[i]? = some pv ∧ (((Γ.map (·.1)).take np).zip vals).lookup x = some v ∧ VR (Fz ow s.heap) pv v := fun {i x k} e hi => by
    have hi' : i < args.length := by lia
    obtain ⟨v, e1, e2⟩ := hv.get (List.getElem?_eq_getElem hi')
    refine ⟨v, args[i], List.getElem?_eq_getElem hi', zip_lookup ndt ?_ e1, e2⟩
    rw [List.getElem?_take, if_pos hi, List.getElem?_map, e]; rfl
  have ndz : ((((Γ.map (·.1)).take np).zip vals).map (·.1)).Nodup := by
    rw [List.map_fst_zip (by simp; lia)]
    exact ndt
  refine ⟨N.top, fun b e => ?_, X.toInCall.keep, fun b t e => ?_, fun b e => owNew_old e, fun b e => ?_, by unfold φ0; simp; lia, ⟨_, X.toInCall.ns, fun i x e => ?_⟩, ?_, fun i x e => ?_, fun i x e => ?_⟩
  · cases q : owNew ow L Γ env.cells b with
    | none => exact absurd q e
    | some t =>
      rcases kinds q with ⟨_, z⟩ | ⟨_, z, _⟩
      · exact (N.own b z).1
      · cases y : H.get? b with
        | none => rfl
        | some o => have := N.top b o y; rw [new_none z] at this; cases this
  · rcases kinds e with ⟨q, _⟩ | ⟨_, e1, e2⟩
    · cases q
    · exact ⟨new_none e1, e2⟩
  · rcases kinds e with ⟨_, e1⟩ | ⟨q, _⟩
    · exact (N.own b e1).2
    · exact absurd rfl q
  · rw [phi0_get]
    by_cases hi : i < np
    · obtain ⟨v, pv, e1, e2, e3⟩ := look e hi
      rw [if_pos (by lia), e1]
      obtain ⟨k1, _⟩ := F.sc.kinds _ (List.mem_of_getElem? e)
      exact ⟨v, bindL_get (by rw [hko, k1]; rfl) _ _ ndz e2, l0.vr e3⟩
    · rw [if_neg (by lia)]
      split <;> trivial
  · rw [hL]
    unfold owNew
    rw [new_ow (Nat.le_refl _)]
    simp
  · obtain ⟨c, hc⟩ := celAt e
    refine ⟨c, _, hc, X.cell _ _ hc, tag e hc, ?_⟩
    rw [phi0_get]
    by_cases hi : i < np
    · obtain ⟨v, pv, e1, e2, e3⟩ := look e hi
      rw [if_pos (by lia), e1]
      obtain ⟨k1, _⟩ := F.sc.kinds _ (List.mem_of_getElem? e)
      exact ⟨v, bindC_get (by rw [hko, k1]; intro q; cases q) _ _ ndz e2, l0.vr e3⟩
    · rw [if_neg (by lia)]
      split <;> trivial
  · exact absurd rfl (F.sc.kinds _ (List.mem_of_getElem? e)).2.1
end

section
variable {prog : Program} {w : World} {H : Heap} {GT : List (Str × PV)} {n : Nat}
theorem AOk.deep {A : Around} (h : AOk (n + 1) A) (env : Env) : AOk n (A.deeper env) := by
  obtain ⟨h1, h2, h3⟩ := h
  exact ⟨h1, by show A.depth + 1 + n < _; lia, by show A.units + 3 + 64 * (n + 1) < _; lia⟩

theorem fn_spec (T : Tops prog w H GT n) (hlim : H.NoLimit) {a : Addr} {Γ : Cx} {gn : List Str} {np : Nat} {body : List Stmt} {o : Obj} {fd : FuncData} (F : FnAt H a Γ gn np body o fd) {b : Bs} (hc : chkB GT Γ gn b body = true)
    {args : List PV} {res : PV} (hl : args.length = np) (hK : ∀ SX, evB GT (Spec prog w H n) SX b (φ0 Γ args) ⟨fun _ => False, fun pv => pv = res, fun _ => False⟩) : Spec prog w H (n + 1) (.ref a) args res := by
  refine ⟨⟨o, fd, F.at', F.data⟩, ?_⟩
  intro A s ow vs Q E hA N hv hQ
  have hvl := hv.length
  have hnp := F.few
  refine wpAny_call (codeAny_call_cells (by have := hA.dep; lia) (N.top _ _ F.at') F.data (hlim.keeps N.top) (F.crec.keeps N.top) F.body (F.bind vs (by lia)) F.clo ?_ (fun s₁ X => ?_) F.co F.ge F.sc.fn)
  · intro x hx
    have hm : x.1 ∈ Γ.map (·.1) := List.mem_of_mem_take (List.of_mem_zip (a := x.1) (b := x.2) hx).1
    obtain ⟨⟨y, k⟩, hy, e⟩ := List.mem_map.mp hm
    simp only at e
    subst e
    obtain ⟨k1, k2, _⟩ := F.sc.kinds _ hy
    cases k with
    | loc => exact .inl k1
    | fre => exact absurd rfl k2
    | cel =>
      refine .inr ⟨k1, ?_⟩
      have := cellsFrom_own fd.scope.names (s.heap.push { cls := .type "frame", data := .dict #[] }) [] (x := x.1) (mem_lookup k1)
      rw [Heap.size_push] at this
      obtain ⟨c, e2, _⟩ := this
      rw [e2]; rfl
  · have F1 := FR.call F N hv hl X
    obtain ⟨h1, tk1, rfl⟩ := X.toInCall.same
    refine sndB T b body (φ0 Γ args) _ Γ gn _ _ s.heap _ _ _ _ _ hc (hK _) (envOk_call F _) (hA.deep _) F1 ?_
    intro fl φ' ow' h' tk hf F2 l2
    cases fl with
    | next => exact hf.elim
    | brk => exact hf.elim
    | cont => exact hf.elim
    | ret v =>
      obtain ⟨pv, rfl, vr⟩ := hf
      refine hQ v pv h' tk rfl F2.keep (VR.mono (fun b o f => ⟨?_, f.2⟩) _ _ vr)
      cases q : ow b with
      | none => rfl
      | some t =>
        have := F2.for1 b (by rw [q]; simp)
        have h9 := f.1
        rw [this] at h9; cases h9
end
end Mine
end
section
namespace Mine

/-! the top: what the written part says of names and defs -/
noncomputable def vInt (i : Int) (v : Value) : Bool := match v with
  | .int j _ => i == j
  | _ => false
theorem vInt_ok {i : Int} {v : Value} (h : vInt i v = true) : ∃ t, v = .int i t := by
  cases v with
  | int j t => exact ⟨t, by rw [beq_iff_eq.mp h]⟩
  | _ => cases h
noncomputable def vStr (s : Str) (v : Value) : Bool := match v with
  | .str t _ => s == t && (decide (s.length ≤ 1024) && s.cps.toList.all (· < 128))
  | _ => false
theorem vStr_ok {s : Str} {v : Value} (h : vStr s v = true) : ∃ t, v = .str s t ∧ s.length ≤ 1024 ∧ s.cps.toList.all (· < 128) = true := by
  cases v with
  | str u t => exact ⟨t, by rw [beq_iff_eq.mp (and_l h)], of_decide_eq_true (and_l (and_r h)), and_r (and_r h)⟩
  | _ => cases h
noncomputable def onSeq (o : Option Obj) (k : List Value → Bool) : Bool := match o with
  | some ⟨.type t, none, .seq vs _, sl⟩ => t == "tuple" && (sl.isEmpty && (decide (vs.size ≤ 1024) && k vs.toList))
  | _ => false
theorem onSeq_ok {o : Option Obj} {k : List Value → Bool} (h : onSeq o k = true) : ∃ vs n, o = some (tupObj vs n) ∧ vs.length ≤ 1024 ∧ k vs = true := by
  unfold onSeq at h
  split at h
  · rename_i t vs n sl
    have h1 := beq_iff_eq.mp (and_l h)
    have h2 : sl = #[] := Array.isEmpty_iff.mp (and_l (and_r h))
    subst h1 h2
    exact ⟨vs.toList, n, rfl, of_decide_eq_true (and_l (and_r (and_r h))), and_r (and_r (and_r h))⟩
  · cases h
noncomputable def onRef (v : Value) (k : Addr → Bool) : Bool := match v with
  | .ref a => k a
  | _ => false
theorem onRef_ok {v : Value} {k : Addr → Bool} (h : onRef v k = true) : ∃ a, v = .ref a ∧ k a = true := by
  cases v with
  | ref a => exact ⟨a, rfl, h⟩
  | _ => cases h
mutual
noncomputable def vrc (K : Frag) : PV → Value → Bool
  | .int i, v => vInt i v
  | .str s, v => vStr s v
  | .tup xs, v => onRef v fun a => onSeq (K.lookup a) fun vs => vrcs K xs vs
  | .raw w, v => decide (v = w)
  | _, _ => false
noncomputable def vrcs (K : Frag) : List PV → List Value → Bool
  | [], vs => vs.isEmpty
  | x :: xs, vs => match vs with
    | [] => false
    | v :: vs => vrc K x v && vrcs K xs vs
end
mutual
theorem vrc_ok {K : Frag} : ∀ (x : PV) (v : Value), vrc K x v = true → VR (fun a o => K.lookup a = some o) x v
  | .none, v, h => nomatch (h : false = true)
  | .bool b, v, h => nomatch (h : false = true)
  | .int i, v, h => by
    unfold VR
    exact vInt_ok h
  | .str s, v, h => by
    unfold VR
    obtain ⟨t, e, h2, h3⟩ := vStr_ok h
    exact ⟨t, e, Nat.le_trans h2 (by decide), fun c hc => of_decide_eq_true (List.all_eq_true.mp h3 c hc)⟩
  | .list _, v, h => nomatch (h : false = true)
  | .tup xs, v, h => by
    unfold VR
    obtain ⟨a, e, h1⟩ := onRef_ok h
    obtain ⟨vs, n, e2, h2, h3⟩ := onSeq_ok h1
    exact ⟨a, vs, n, e, e2, Nat.le_trans h2 (by decide), vrcs_ok xs _ h3⟩
  | .rng _, v, h => nomatch (h : false = true)
  | .raw w, v, h => by
    unfold VR
    exact of_decide_eq_true h
theorem vrcs_ok {K : Frag} : ∀ (xs : List PV) (vs : List Value), vrcs K xs vs = true → VRs (fun a o => K.lookup a = some o) xs vs
  | [], vs, h => by
    unfold VRs
    exact List.isEmpty_iff.mp h
  | x :: xs, [], h => nomatch (h : false = true)
  | x :: xs, v :: vs, h => by
    unfold VRs
    exact ⟨v, vs, rfl, vrc_ok x v (and_l h), vrcs_ok xs vs (and_r h)⟩
end

noncomputable def entriesOf (K : Frag) (a : Addr) : Array DictEntry := match K.lookup a with
  | some ⟨_, _, .dict es _, _⟩ => es
  | _ => #[]
noncomputable def isDictAt (K : Frag) (a : Addr) : Bool := match K.lookup a with
  | some ⟨_, _, .dict _ _, _⟩ => true
  | _ => false
noncomputable def globAt (K : Frag) (p : Str × PV) : Bool := match nsFind (entriesOf K mainGlobals) p.1 with
  | some v => vrc K p.2 v
  | none => p.1 != ("__name__" : Str) && (match bootBuiltins p.1 with | some v => vrc K p.2 v | none => false)
noncomputable def globChk (K : Frag) (GT : List (Str × PV)) : Bool := isDictAt K mainGlobals && GT.all (globAt K)

theorem glob_ok {K : Frag} {H : Heap} {GT : List (Str × PV)} {p : Program} {loose : List Str} {mean : ExcName → Option Value} {mg mb : Str → Option Value} (KX : K.In H) (T : Top p loose mean mg mb H) (h : globChk K GT = true) : GlobOk H GT := by
  unfold globChk at h
  simp only [Bool.and_eq_true] at h
  obtain ⟨h0, h1⟩ := h
  refine ⟨mg, mb, T.g, T.b, fun k x v e => ?_⟩
  have h2 := List.all_eq_true.mp h1 _ (List.mem_of_getElem? e)
  obtain ⟨o, es, ep, ho, hd, _, hf⟩ := T.g
  have he : entriesOf K mainGlobals = es := by
    unfold isDictAt at h0
    split at h0
    · rename_i c d es' n sl q
      have := KX _ _ q
      rw [ho] at this
      cases this
      simp only at hd
      cases hd
      unfold entriesOf
      rw [q]
    · cases h0
  unfold globAt at h2
  rw [he] at h2
  simp only [hf] at h2
  split at h2
  · rename_i val q
    exact ⟨val, .inl q, VR.mono (fun a o e => KX a o e) _ _ (vrc_ok v val h2)⟩
  · rename_i q
    simp only [Bool.and_eq_true] at h2
    obtain ⟨h3, h4⟩ := h2
    split at h4
    · rename_i val q2
      exact ⟨val, .inr ⟨q, by rw [T.builtins x (by simpa using h3)]; exact q2⟩, VR.mono (fun a o e => KX a o e) _ _ (vrc_ok v val h4)⟩
    · cases h4

noncomputable def fdAt (K : Frag) (a : Addr) : FuncData := match K.lookup a with
  | some ⟨_, _, .func fd, _⟩ => fd
  | _ => default
noncomputable def codeAt (K : Frag) (cd : Value) (q : Str) : Bool := match cd with
  | .ref c => (match K.lookup c with
    | some ⟨_, _, .fields vs, _⟩ => (match vs[1]? with
      | some (Value.str x _) => x == q
      | _ => false)
    | _ => false)
  | _ => false
noncomputable def bodyOf (fd : FuncData) : List Stmt := match fd.body with
  | .stmts b => b
  | _ => []
noncomputable def fnChk (K : Frag) (a : Addr) (Γ : Cx) (gn : List Str) (np : Nat) : Bool := match K.lookup a with
  | some ⟨_, _, .func fd, _⟩ => (match fd.body with | .stmts _ => true | _ => false) && fd.closure.isEmpty && fd.globals == mainGlobals && fd.builtins == builtinsNs && codeAt K fd.code fd.qualname && chkF Γ gn fd.scope && decide (np ≤ Γ.length) &&
      !fd.scope.isCoroutine && !fd.scope.isGenerator
  | _ => false
theorem fn_at {K : Frag} {H : Heap} {a : Addr} {Γ : Cx} {gn : List Str} {np : Nat} (KX : K.In H) (h : fnChk K a Γ gn np = true)
    (hb : ∀ vals : List Value, vals.length = np → bindArgs (fdAt K a) ⟨vals, []⟩ = pure (((Γ.map (·.1)).take np).zip vals)) : ∃ o, FnAt H a Γ gn np (bodyOf (fdAt K a)) o (fdAt K a) := by
  unfold fnChk at h
  split at h
  · rename_i c d fd sl e
    simp only [Bool.and_eq_true, beq_iff_eq, decide_eq_true_eq, Bool.not_eq_true'] at h
    obtain ⟨⟨⟨⟨⟨⟨⟨⟨h1, h2⟩, h3⟩, h4⟩, h5⟩, h6⟩, h7⟩, h8⟩, h9⟩ := h
    have ef : fdAt K a = fd := by unfold fdAt; rw [e]
    rw [ef] at hb ⊢
    refine ⟨_, KX _ _ e, rfl, ?_, by simpa using h2, h3, h4, ?_, chkF_spec h6, h7, hb, h8, h9⟩
    · unfold bodyOf
      split at h1
      · rename_i b q; rw [q]
      · cases h1
    · unfold codeAt at h5
      split at h5
      · rename_i cc q
        split at h5
        · rename_i c' d' vs sl' q2
          split at h5
          · rename_i x t q3
            have := beq_iff_eq.mp h5
            subst this
            exact ⟨cc, _, vs, t, q, KX _ _ q2, rfl, q3⟩
          · cases h5
        · cases h5
      · cases h5
  · cases h

theorem def_spec {prog : Program} {w : World} {K : Frag} {H : Heap} {GT : List (Str × PV)} {n : Nat} {a : Addr} {Γ : Cx} {gn : List Str} {np : Nat} {b : Bs} (T : Tops prog w H GT n) (hlim : H.NoLimit) (KX : K.In H) (h : fnChk K a Γ gn np = true)
    (hb : ∀ vals : List Value, vals.length = np → bindArgs (fdAt K a) ⟨vals, []⟩ = pure (((Γ.map (·.1)).take np).zip vals))
    (hc : chkB GT Γ gn b (bodyOf (fdAt K a)) = true) {args : List PV} {res : PV} (hl : args.length = np)
    (hK : ∀ SX, evB GT (Spec prog w H n) SX b (φ0 Γ args) ⟨fun _ => False, fun pv => pv = res, fun _ => False⟩) : Spec prog w H (n + 1) (.ref a) args res := by
  obtain ⟨o, F⟩ := fn_at KX h hb
  exact fn_spec T hlim F hc hl hK
end Mine
end
section
namespace Mine

/-! an exception of the block's own -/
noncomputable abbrev Out := List (Env × Array DictEntry × Nat)
noncomputable def OutOk (outer : Out) (ow : Addr → Option Nat) (h : Heap) : Prop :=
  ∀ x ∈ outer, x.1.scope.kind ≠ .module ∧ ∃ L o, x.1.frame = some L ∧ ow L = some 2 ∧ h.get? L = some o ∧ o.data = .dict x.2.1 x.2.2
theorem OutOk.le {outer : Out} {ow ow' : Addr → Option Nat} {h h' : Heap} (O : OutOk outer ow h) (l : Le ow h ow' h') : OutOk outer ow' h' := fun x hx => by
  obtain ⟨a, L, o, b, c, d, e⟩ := O x hx
  obtain ⟨p, q⟩ := l.two L o c d
  exact ⟨a, L, o, b, p, q, e⟩

structure Ex (ow : Addr → Option Nat) (h : Heap) (e : Addr) (fl : Option Value) (ctx : Value) : Prop where
  tag : ow e = some 2
  obj : ∃ ob vs a0, h.get? e = some ob ∧ ob.cls = .type "IndexError" ∧ ob.data = .fields vs ∧ vs[0]? = some a0 ∧ vs[2]? = some ctx ∧
    match fl with
    | none => vs[1]? = some .none
    | some f => ∃ T oT ts, vs[1]? = some (.ref T) ∧ T ≠ e ∧ ow T = some 2 ∧ h.get? T = some oT ∧ oT.data = .fields ts ∧ ts[3]? = some f
theorem Ex.le {ow ow' : Addr → Option Nat} {h h' : Heap} {e : Addr} {fl : Option Value} {ctx : Value} (x : Ex ow h e fl ctx) (l : Le ow h ow' h') : Ex ow' h' e fl ctx := by
  obtain ⟨ob, vs, a0, h1, h2, h3, h4, h5, h6⟩ := x.obj
  obtain ⟨p, q⟩ := l.two e ob x.tag h1
  refine ⟨p, ob, vs, a0, q, h2, h3, h4, h5, ?_⟩
  cases fl with
  | none => exact h6
  | some f =>
    obtain ⟨T, oT, ts, k1, k2, k3, k4, k5, k6⟩ := h6
    obtain ⟨p', q'⟩ := l.two T oT k3 k4
    exact ⟨T, oT, ts, k1, k2, p', q', k5, k6⟩

section
variable {H : Heap} {Γ : Cx} {env : Env} {fo : Addr → Prop} {base : Heap} {φ : Frame} {ow ow' : Addr → Option Nat} {h h' : Heap}
theorem FR.exc (F : FR H Γ env fo base φ ow h) (k : ∀ b o, h.get? b = some o → ow b ≠ some 2 → b ≠ env.locals → h'.get? b = some o)
    (kd : ∀ m, h.Ns env.locals m → h'.Ns env.locals m) (ks : ∀ b, (h.get? b).isSome = true → (h'.get? b).isSome = true)
    (ko : ∀ a, (h.get? a).isSome = true → ow' a = ow a) (kn : ∀ a, h.get? a = none → ow' a ≠ none → (h'.get? a).isSome = true ∧ ow' a = some 2) : FR H Γ env fo base φ ow' h' := by
  have keq : ∀ a t, ow a = some t → ow' a = some t := fun a t e => by rw [ko a (F.ex (by rw [e]; simp)), e]
  have nl : ∀ {b : Addr} {t : Option Nat}, ow b = t → t ≠ some 1 → b ≠ env.locals := fun e ht q => by subst q; rw [F.nso] at e; exact ht e.symm
  have l : Le0 ow h ow' h' := ⟨fun a o f => ⟨by rw [ko a (by rw [f.2]; rfl)]; exact f.1, k a o f.2 (by rw [f.1]; simp) (nl f.1 (by simp))⟩⟩
  refine ⟨F.top, fun a e => ?_, fun b o e => ?_, fun a t e => ?_, fun a e => keq a 0 (F.for1 a e), fun a e => ?_, F.len, ?_, keq _ _ F.nso, fun i x e => ?_, fun i x e => ?_⟩
  · cases q : h.get? a with
    | none => exact F.hNone q
    | some o => rw [ko a (by rw [q]; rfl)] at e; exact F.hi a e
  · refine k b o (F.keep b o e) (fun q => ?_) fun q => ?_
    · have := (F.own b 1 q).1; rw [e] at this; cases this
    · subst q
      have := (F.own _ 0 F.nso).1; rw [e] at this; cases this
  · cases q : h.get? a with
    | none => exact ⟨F.baseNone q, (kn a q (by rw [e]; simp)).1⟩
    | some o =>
      rw [ko a (by rw [q]; rfl)] at e
      obtain ⟨e1, e2⟩ := F.own a t e
      exact ⟨e1, ks a e2⟩
  · cases q : h.get? a with
    | none =>
      have h9 := (kn a q (by rw [e]; simp)).2
      rw [e] at h9; cases h9
    | some o => rw [ko a (by rw [q]; rfl)] at e; exact F.for2 a e
  · obtain ⟨m, hm, hs⟩ := F.ns
    exact ⟨m, kd m hm, fun i x e => (hs i x e).mono l fun a o e1 e2 => ⟨keq _ _ e1, k a o e2 (by rw [e1]; simp) (nl e1 (by simp))⟩⟩
  · obtain ⟨c, v, e1, ⟨o, ho, hd⟩, e3, e4⟩ := F.cel i x e
    exact ⟨c, v, e1, ⟨o, k c o ho (by rw [e3]; simp) (nl e3 (by simp)), hd⟩, keq _ _ e3, e4.mono l⟩
  · obtain ⟨c, v, pv, e1, e2, e3, e4⟩ := F.fre i x e
    exact ⟨c, v, pv, e1, e2, e3, l.vr e4⟩
end

section
variable {M : Model} {A : Around} {E : Value → Shared → Prop} {s : Shared}
variable {H : Heap} {Γ : Cx} {env : Env} {fo : Addr → Prop} {base : Heap} {φ : Frame} {ow : Addr → Option Nat} {outer : Out}

theorem outFrames (O : OutOk outer ow s.heap) (F : FR H Γ env fo base φ ow s.heap) (hk : env.scope.kind ≠ .module) (hf : env.frame = some env.locals) (e : Addr)
    : s.heap.FunFrames (hideAll s.heap (e :: (env :: outer.map (·.1)).filterMap (·.frame))) (env :: outer.map (·.1)) := by
  have gen : ∀ (l : Out) (S : List Addr), (∀ x ∈ l, x ∈ outer) → (∀ x ∈ l, ∀ L, x.1.frame = some L → L ∈ S) → s.heap.FunFrames (hideAll s.heap S) (l.map (·.1)) := by
    intro l S
    induction l with
    | nil => intro _ _; trivial
    | cons x r ih =>
      intro h1 h2
      obtain ⟨a, L, o, b, c, d, q⟩ := O x (h1 x List.mem_cons_self)
      exact ⟨a, ⟨L, o, b, hideAll_none _ (h2 x List.mem_cons_self L b), d, fun vs z => by rw [q] at z; cases z⟩, ih (fun y hy => h1 y (List.mem_cons_of_mem _ hy)) fun y hy => h2 y (List.mem_cons_of_mem _ hy)⟩
  obtain ⟨m, ⟨o, es, ep, ho, hd, _⟩, _⟩ := F.ns
  refine ⟨hk, ⟨env.locals, o, hf, hideAll_none _ ?_, ho, fun vs z => by rw [hd] at z; cases z⟩, gen outer _ (fun _ q => q) fun x hx L hL => ?_⟩
  · rw [List.filterMap_cons, hf]
    exact List.mem_cons_of_mem _ List.mem_cons_self
  · refine List.mem_cons_of_mem _ ?_
    rw [List.filterMap_cons, hf]
    exact List.mem_cons_of_mem _ (List.mem_filterMap.mpr ⟨x.1, List.mem_map.mpr ⟨x, hx, rfl⟩, hL⟩)

theorem frame_dict (O : OutOk outer ow s.heap) (F : FR H Γ env fo base φ ow s.heap) (hf : env.frame = some env.locals) {L : Addr} (hL : L ∈ (env :: outer.map (·.1)).filterMap (·.frame)) :
    ∃ o es ep, s.heap.get? L = some o ∧ o.data = .dict es ep ∧ (ow L = some 2 ∨ L = env.locals) := by
  rw [List.filterMap_cons, hf] at hL
  rcases List.mem_cons.mp hL with rfl | hL
  · obtain ⟨m, ⟨o, es, ep, ho, hd, _⟩, _⟩ := F.ns
    exact ⟨o, es, ep, ho, hd, .inr rfl⟩
  · obtain ⟨y, hy, hL⟩ := List.mem_filterMap.mp hL
    obtain ⟨x, hx, rfl⟩ := List.mem_map.mp hy
    obtain ⟨a, L', o, b, c, d, q⟩ := O x hx
    rw [hL] at b; cases b
    exact ⟨o, _, _, d, q, .inl c⟩

theorem note_fresh {e : Addr} {ctx : Value} {Q : Unit → Shared → Prop} (F : FR H Γ env fo base φ ow s.heap) (O : OutOk outer ow s.heap) (hfr : A.frames = some (env :: outer.map (·.1)))
    (hf : env.frame = some env.locals) (hk : env.scope.kind ≠ .module) (x : Ex ow s.heap e none ctx)
    (hQ : ∀ ow' h', FR H Γ env fo base φ ow' h' → OutOk outer ow' h' → Ex ow' h' e (some (rawInt env.locals)) ctx → Q () { s with heap := h' }) : wpAny M A (noteFrame (.ref e) env) Q E s := by
  obtain ⟨ob, vs, a0, h1, h2, h3, h4, h5, h6⟩ := x.obj
  have hsz : 1 < vs.size := (Array.getElem?_eq_some_iff.mp h6).1
  have ff := outFrames O F hk hf e
  unfold noteFrame
  simp only [hf]
  refine wpAny_bind (wpAny_field h1 h3 h6 ?_)
  rw [if_neg (by decide)]
  refine wpAny_bind (wpAny_frameOf_fun hfr ff hf fun g hs => ?_)
  refine wpAny_bind (wpAny_entryPlaceOf fun pl hpl => ?_)
  unfold EntryCells.newEntry newFields
  refine wpAny_bind (wpAny_newObj_type ?_ (hpl.sizeOk5 _ _ _ _ _))
  generalize hFs : (env :: outer.map (·.1)).filterMap (·.frame) = Fs at hs
  generalize hTB : ({ cls := .type "traceback", dict := none, data := .fields ([Value.none, .ref env.locals, .none, rawInt env.locals, .none] ++ (if pl.isEmpty then List.replicate 6 Value.none else pl)).toArray } : Obj) = TB
  have hTd : ∃ ts, TB.data = .fields ts ∧ ts[3]? = some (rawInt env.locals) := by
    rw [← hTB]
    exact ⟨_, rfl, by first | (simp; done) | (rcases hpl with rfl | ⟨_, _, _, _, _, _, _, rfl⟩ <;> simp)⟩
  have hTf : TB.isFreed = false := by rw [← hTB]; rfl
  have hene : e ∉ Fs := fun hL => by
    rw [← hFs] at hL
    obtain ⟨o, es, ep, k1, k2, _⟩ := frame_dict O F hf hL
    rw [h1] at k1; cases k1
    rw [h3] at k2; cases k2
  have he1 : g.get? e = some ob := (hs.2.1 e hene).trans h1
  have he2 : (g.push TB).get? e = some ob := Heap.get?_push_of_some TB he1
  refine wpAny_setField he2 h3 hsz ?_
  have hTn : s.heap.get? g.objs.size = none := by rw [hs.1]; exact get_none_size _
  have hTe : g.objs.size ≠ e := Nat.ne_of_gt (Heap.lt_size he1)
  have keep : ∀ b o, b ≠ e → g.get? b = some o → ((g.push TB).update e (Obj.mapFields (·.setIfInBounds 1 (Value.ref g.objs.size)))).get? b = some o := fun b o hbe hb => by
    rw [Heap.get?_update_other _ _ (Ne.symm hbe)]
    exact Heap.get?_push_of_some _ hb
  have hd3 := Obj.data_mapFields h3 (·.setIfInBounds 1 (Value.ref g.objs.size))
  have he3 := Heap.get?_update_self (Obj.mapFields (·.setIfInBounds 1 (Value.ref g.objs.size))) he2 (Obj.isFreed_of_fields hd3)
  have hT3 : ((g.push TB).update e (Obj.mapFields (·.setIfInBounds 1 (Value.ref g.objs.size)))).get? g.objs.size = some TB :=
    (Heap.get?_update_other _ _ (Ne.symm hTe)).trans (Heap.get?_push_size g hTf)
  generalize hh' : (g.push TB).update e (Obj.mapFields (·.setIfInBounds 1 (Value.ref g.objs.size))) = h' at keep he3 hT3 ⊢
  generalize hT : g.objs.size = T at hTn hTe hd3 he3 hT3
  have heL : e ≠ env.locals := fun q => by have h9 := F.nso; rw [← q, x.tag] at h9; cases h9
  have notF : ∀ b, ow b ≠ some 2 → b ≠ env.locals → b ∉ Fs := fun b q1 q2 hm => by
    rw [← hFs] at hm
    obtain ⟨_, _, _, _, _, z⟩ := frame_dict O F hf hm
    exact z.elim q1 q2
  have owT : ow T = none := F.fresh hTn
  have neT : ∀ b, (s.heap.get? b).isSome = true → b ≠ T := fun b q z => by subst z; rw [hTn] at q; cases q
  refine hQ (tagged ow T 2) h' (F.exc (fun b o q1 q2 q3 => ?_) (fun m hm => ?_) (fun b q => ?_) (fun b q => tagged_ne (neT b q)) (fun b q z => ?_)) (fun y hy => ?_) ⟨by rw [tagged_ne (Ne.symm hTe)]; exact x.tag, ?_⟩
  · exact keep b o (fun z => by subst z; exact q2 x.tag) ((hs.2.1 b (notF b q2 q3)).trans q1)
  · obtain ⟨o, es, ep, ho, hd, r⟩ := hm
    obtain ⟨sl, hsl⟩ := hs.2.2 _ o ho
    exact ⟨_, es, ep, keep _ _ (Ne.symm heL) hsl, hd, r⟩
  · obtain ⟨o, ho⟩ := Option.isSome_iff_exists.mp q
    obtain ⟨sl, hsl⟩ := hs.2.2 b o ho
    by_cases hb : b = e
    · subst hb; rw [he3]; rfl
    · rw [keep b _ hb hsl]; rfl
  · by_cases hb : b = T
    · subst hb; exact ⟨by rw [hT3]; rfl, tagged_self⟩
    · rw [tagged_ne hb] at z; exact absurd (F.fresh q) z
  · obtain ⟨a, L, o, b, c, d, q⟩ := O y hy
    obtain ⟨sl, hsl⟩ := hs.2.2 L o d
    refine ⟨a, L, _, b, by rw [tagged_ne (neT L (by rw [d]; rfl))]; exact c, keep L _ (fun z => ?_) hsl, q⟩
    subst z
    rw [h1] at d; cases d
    rw [h3] at q; cases q
  · obtain ⟨ts, hts, h3'⟩ := hTd
    exact ⟨_, _, a0, he3, (Obj.cls_mapFields _ _).trans h2, hd3, by rw [Array.getElem?_setIfInBounds_ne (by decide)]; exact h4, by rw [Array.getElem?_setIfInBounds_ne (by decide)]; exact h5,
      T, TB, ts, by simp [hsz], hTe, tagged_self, hT3, hts, h3'⟩

theorem note_again {e : Addr} {ctx : Value} {Q : Unit → Shared → Prop} (hf : env.frame = some env.locals) (x : Ex ow s.heap e (some (rawInt env.locals)) ctx) (h : Q () s) : wpAny M A (noteFrame (.ref e) env) Q E s := by
  obtain ⟨ob, vs, a0, h1, h2, h3, h4, h5, T, oT, ts, k1, k2, k3, k4, k5, k6⟩ := x.obj
  exact wpAny_noteFrame_inFlight hf h1 h3 k1 k4 k5 k6 h

theorem flight_ok {e : Addr} {ctx fl : Value} {fr : Option Addr} {Q : Unit → Shared → Prop} (F : FR H Γ env fo base φ ow s.heap) (O : OutOk outer ow s.heap) (x : Ex ow s.heap e (some fl) ctx)
    (hQ : ∀ h', FR H Γ env fo base φ ow h' → OutOk outer ow h' → Ex ow h' e (some (fr.elim .none fun f => rawInt f)) ctx → Q () { s with heap := h' }) : wpAny M A (setFlight (.ref e) fr) Q E s := by
  obtain ⟨ob, vs, a0, h1, h2, h3, h4, h5, T, oT, ts, k1, k2, k3, k4, k5, k6⟩ := x.obj
  have hsz : 3 < ts.size := (Array.getElem?_eq_some_iff.mp k6).1
  unfold setFlight
  refine wpAny_bind (wpAny_field h1 h3 k1 ?_)
  rw [if_pos (show (Value.ref T != Value.none) = true from by simp)]
  refine wpAny_setField k4 k5 hsz ?_
  have kb : ∀ b o, b ≠ T → s.heap.get? b = some o → (s.heap.update T (Obj.mapFields (·.setIfInBounds 3 (fr.elim .none fun f => rawInt f)))).get? b = some o := fun b o hb q => (Heap.get?_update_other _ _ (Ne.symm hb)).trans q
  have hT := Heap.get?_update_self (Obj.mapFields (·.setIfInBounds 3 (fr.elim .none fun f => rawInt f))) k4 (Obj.isFreed_of_fields (Obj.data_mapFields k5 _))
  refine hQ _ (F.turn2 k3 kb (by rw [hT]; rfl)) (fun y hy => ?_) ⟨x.tag, ob, vs, a0, kb _ _ (Ne.symm k2) h1, h2, h3, h4, h5, T, _, _, k1, k2, k3, hT, Obj.data_mapFields k5 _, by simp [hsz]⟩
  obtain ⟨a, L, o, b, c, d, q⟩ := O y hy
  exact ⟨a, L, o, b, c, kb L o (fun z => by subst z; rw [k4] at d; cases d; rw [k5] at q; cases q) d, q⟩

theorem came_back {e : Addr} {ctx fl : Value} (hf : env.frame = some env.locals) (F : FR H Γ env fo base φ ow s.heap) (O : OutOk outer ow s.heap) (x : Ex ow s.heap e (some fl) ctx)
    (hQ : ∀ h', FR H Γ env fo base φ ow h' → OutOk outer ow h' → Ex ow h' e (some (rawInt env.locals)) ctx → E (.ref e) { s with heap := h' }) : cameBackBy M A env E (.ref e) s := by
  have x0 := x
  obtain ⟨ob, vs, a0, h1, h2, h3, h4, h5, T, oT, ts, k1, k2, k3, k4, k5, k6⟩ := x.obj
  unfold cameBackBy
  refine wpAny_bind (wpAny_field h1 h3 k1 ?_)
  rw [if_neg (by simp)]
  refine flight_ok F O x0 fun h' F' O' x' => ?_
  rw [hf] at x'
  exact hQ h' F' O' x'
theorem pass_on {α : Type} {e : Addr} {ctx fl : Value} {what : String} {Q : α → Shared → Prop} (hf : env.frame = some env.locals) (F : FR H Γ env fo base φ ow s.heap) (O : OutOk outer ow s.heap) (x : Ex ow s.heap e (some fl) ctx)
    (hQ : ∀ h', FR H Γ env fo base φ ow h' → OutOk outer ow h' → Ex ow h' e (some (rawInt env.locals)) ctx → E (.ref e) { s with heap := h' }) : wpAny M A (PySem.passOn what (.ref e) env : Sem α) Q E s := by
  have x0 := x
  obtain ⟨ob, vs, a0, h1, h2, h3, h4, h5, T, oT, ts, k1, k2, k3, k4, k5, k6⟩ := x.obj
  unfold PySem.passOn
  refine wpAny_bind (wpAny_field h1 h3 k1 ?_)
  rw [if_neg (by simp)]
  refine wpAny_bind (flight_ok F O x0 fun h' F' O' x' => wpAny_throw ?_)
  rw [hf] at x'
  exact hQ h' F' O' x'
end
end Mine
end
section
namespace Mine

theorem entry_unchain : entryFor table "proto.unchain" = some Builtin.«proto.unchain» := entryFor_of_fast (by kernel_rfl)
theorem plain_unchain : plainId "proto.unchain" = true := by decide +kernel

structure NewX (h h' : Heap) (e : Addr) (ctx : Value) : Prop where
  keeps : ∀ b o, h.get? b = some o → h'.get? b = some o
  new : h.get? e = none
  there : ∃ ob t, h'.get? e = some ob ∧ ob.cls = .type "IndexError" ∧ ob.data = .fields #[t, .none, ctx, .none, .bool false, .none]

noncomputable def Held (A : Around) (h : Heap) (ctx : Value) : Prop := (A.handled = none ∧ ctx = .none) ∨ ∃ a o vs, ctx = .ref a ∧ A.handled = some (.ref a) ∧ h.get? a = some o ∧ o.data = .fields vs ∧ vs[2]? = some .none

section
variable {α : Type} {prog : Program} {w : World} {A : Around} {E : Value → Shared → Prop} {s : Shared}

theorem raise_ctx {e a : Addr} {ob o : Obj} {ws vs : Array Value} {Q : α → Shared → Prop} (hh : A.handled = some (.ref a)) (hne : a ≠ e) (ho : s.heap.get? a = some o) (hd : o.data = .fields vs) (h2 : vs[2]? = some .none)
    (he : s.heap.get? e = some ob) (hed : ob.data = .fields ws) (hz : 2 < ws.size)
    (h : E (.ref e) { s with heap := s.heap.update e (Obj.mapFields (·.setIfInBounds 2 (.ref a))) }) : wpAny (model prog w) A (raiseNew (.ref e) : Sem α) Q E s := by
  unfold raiseNew
  refine wpAny_bind (wpAny_handled ?_)
  rw [hh]
  have hb : (Value.ref a != Value.ref e) = true := by simpa using hne
  simp only [hb, if_true]
  refine wpAny_bind (wpAny_holding (wpAny_runValue (codeAny_builtin entry_unchain ?_)))
  unfold Builtin.«proto.unchain»
  refine wpAny_bind (wpAny_field ho hd h2 ?_)
  rw [if_pos (by decide)]
  refine wpAny_pure ?_
  show wpAny _ A (updateField e 2 (.ref a) >>= _) _ _ s
  unfold updateField
  refine wpAny_bind (wpAny_bind (wpAny_load he ?_))
  rw [hed]
  simp only [hz, if_true]
  exact wpAny_update he (wpAny_throw h)

theorem raise_words {msg : String} {ctx : Value} {Q : α → Shared → Prop} (hh : Held A s.heap ctx)
    (h : ∀ h' tk e, NewX s.heap h' e ctx → E (.ref e) { s with heap := h', toks := tk }) : wpAny (model prog w) A (raiseErrorWords "IndexError" msg : Sem α) Q E s := by
  unfold raiseErrorWords
  refine wpAny_bind (wpAny_mkText (wpAny_bind ?_))
  unfold newExc newTuple
  refine wpAny_bind (wpAny_newObj_type ?_)
  refine wpAny_bind (m := firstArgMember _ _) (wpAny_of_eq (a := Value.none) (by simp only [firstArgMember, plainExc_IndexError.first]; rfl) ?_)
  rw [plainExc_IndexError.own]
  refine wpAny_newObj_type ?_
  rcases hh with ⟨hh, rfl⟩ | ⟨a, o, vs, rfl, hh, ho, hd, h2⟩
  · unfold raiseNew
    refine wpAny_bind (wpAny_handled ?_)
    rw [hh]
    first
      | refine wpAny_throw ?_
      | refine wpAny_bind (wpAny_pure (wpAny_throw ?_))
    exact h _ _ _ ⟨fun b o hb => Heap.get?_push_of_some _ (Heap.get?_push_of_some _ hb), Heap.get?_none_of_le (by simp), _, .ref s.heap.objs.size, Heap.get?_push_size _ rfl, rfl, by simp⟩
  · generalize ({ cls := .type "tuple", data := .seq _ } : Obj) = TT
    have hlt := Heap.lt_size ho
    have hne : a ≠ (s.heap.push TT).objs.size := by rw [Heap.size_push]; exact Nat.ne_of_lt (Nat.lt_succ_of_lt hlt)
    refine raise_ctx (ob := { cls := .type "IndexError", data := .fields _ }) hh hne (Heap.get?_push_of_some _ (Heap.get?_push_of_some _ ho)) hd h2 (Heap.get?_push_size _ rfl) rfl (by simp) ?_
    refine h _ _ _ ⟨fun b o' hb => ?_, Heap.get?_none_of_le (by simp), _, .ref s.heap.objs.size, Heap.get?_update_self _ (Heap.get?_push_size _ rfl) rfl, Obj.cls_mapFields _ _, by simp [Obj.mapFields]⟩
    have hb' := Heap.lt_size hb
    show ((Heap.update _ _ _).get? b) = some o'
    rw [Heap.get?_update_other _ _ (by show (s.heap.push TT).objs.size ≠ b; rw [Heap.size_push]; exact Nat.ne_of_gt (Nat.lt_succ_of_lt hb'))]
    exact Heap.get?_push_of_some _ (Heap.get?_push_of_some _ hb)
end
end Mine
end
section
namespace Mine

section
variable {prog : Program} {w : World} {A : Around} {E : Value → Shared → Prop} {s : Shared}

theorem getItem_out {l : Addr} {items : Array Value} {k : Int} {t : Tok} {ctx : Value} {Q : Value → Shared → Prop} (hh : Held A s.heap ctx) (hl : s.heap.IsList l items) (h0 : 0 ≤ k)
    (hout : (items.size : Int) ≤ k) (hhi : k < 65536) (hE : ∀ h' tk e, NewX s.heap h' e ctx → E (.ref e) { s with heap := h', toks := tk }) :
    wpAny (model prog w) A (getItem (.ref l) (.int k t)) Q E s := by
  obtain ⟨o, ho, hc, ne, hd⟩ := id hl
  have hfit : Builtin.List.listFitsIndex k = true := fitsIndex_both (by lia) (by lia)
  clear hhi
  unfold getItem
  try with_reducible refine wpAny_holding ?_
  first | refine wpAny_bind (wpAny_pure ?_) | skip
  refine wpAny_bind (wpAny_sequenceKey hl.typeIs (by decide) ?_)
  refine wpAny_bind (wpAny_callSpecial?_slot (name := Str.ofString "__getitem__") hl.typeIs slot_list_getitem
    (wpAny_call_entry slot_list_getitem hl.typeIs entry_list_getitem ?_ (args_list_getitem _ _)))
  show wpAny _ _ (Builtin.List.listSubscript? (.int k t) >>= _) _ _ s
  refine wpAny_bind (wpAny_listSubscript_int hfit ?_)
  clear hfit
  obtain ⟨j, rfl⟩ := Int.eq_ofNat_of_zero_le h0
  have hx : items[j]? = none := Array.getElem?_eq_none (by lia)
  show wpAny _ _ ((seqItemAt l j >>= fun r => pure (r.map (j, ·))) >>= _) _ _ s
  refine wpAny_bind (wpAny_bind (wpAny_seqItemAt ho hd (wpAny_pure ?_)))
  rw [hx]
  first
    | exact wpAny_bind (wpAny_rule (raise_words hh hE))
    | exact wpAny_bind (wpAny_rule (wpAny_bind (raise_words hh hE)))
    | exact wpAny_bind (wpAny_bind (wpAny_rule (raise_words hh hE)))
    | exact wpAny_rule (raise_words hh hE)
end

section
variable {prog : Program} {w : World} {A : Around} {E : Value → Shared → Prop} {s : Shared}
variable {H : Heap} {Γ : Cx} {gn : List Str} {env : Env} {fo : Addr → Prop} {base : Heap} {φ : Frame} {ow : Addr → Option Nat} {outer : Out}

theorem newX_ok {h h' : Heap} {e : Addr} {ctx : Value} (F : FR H Γ env fo base φ ow h) (O : OutOk outer ow h) (x : NewX h h' e ctx) :
    FR H Γ env fo base φ (tagged ow e 2) h' ∧ OutOk outer (tagged ow e 2) h' ∧ Ex (tagged ow e 2) h' e none ctx := by
  obtain ⟨ob, t, h1, h2, h3⟩ := x.there
  have ne : ∀ b o, h.get? b = some o → b ≠ e := fun b o q z => by subst z; rw [x.new] at q; cases q
  refine ⟨F.tag x.keeps x.new (by rw [h1]; rfl) 1, fun y hy => ?_, tagged_self, ob, _, t, h1, h2, h3, by simp, by simp, by simp⟩
  obtain ⟨a, L, o, b, c, d, q⟩ := O y hy
  exact ⟨a, L, o, b, by rw [tagged_ne (ne L o d)]; exact c, x.keeps L o d, q⟩

noncomputable def isNm (x : Str) : Expr → Bool := onName fun y _ => y == x
theorem isNm_ok {x : Str} {e : Expr} (h : isNm x e = true) : ∃ p, e = .Name x p := by
  obtain ⟨y, p, rfl, h1⟩ := onName_ok h
  obtain rfl : y = x := beq_iff_eq.mp h1
  exact ⟨_, rfl⟩
noncomputable def isItem (o ix : Str) : Expr → Bool := onSubscript fun a b _ => isNm o a && isNm ix b
theorem isItem_ok {o ix : Str} {e : Expr} (h : isItem o ix e = true) : ∃ p1 p2 p3, e = .Subscript (.Name o p1) (.Name ix p2) p3 := by
  obtain ⟨a, b, p, rfl, h1⟩ := onSubscript_ok h
  obtain ⟨p1, rfl⟩ := isNm_ok (and_l h1)
  obtain ⟨p2, rfl⟩ := isNm_ok (and_r h1)
  exact ⟨p1, p2, _, rfl⟩
noncomputable def isInt (k : Int) : Expr → Bool := onConstant fun c _ _ => constOk (.int k) c
theorem isInt_ok {k : Int} {e : Expr} (h : isInt k e = true) : ∃ kk p, e = .Constant (.int k) kk p := by
  obtain ⟨c, kk, p, rfl, h⟩ := onConstant_ok (kf := fun c _ _ => constOk (.int k) c) h
  cases c with
  | int j => obtain rfl : k = j := beq_iff_eq.mp h; exact ⟨_, _, rfl⟩
  | _ => exact (Bool.false_ne_true h).elim
noncomputable def isInc (x : Str) : Stmt → Bool := stIsAugAssign fun t op e _ => isNm x t && (decide (op = .Add) && isInt 1 e)
theorem isInc_ok {x : Str} {st : Stmt} (h : isInc x st = true) : ∃ p1 p2 k p3, st = .AugAssign (.Name x p1) .Add (.Constant (.int 1) k p2) p3 := by
  obtain ⟨t, op, e, p, rfl, h1⟩ := stIsAugAssign_ok h
  obtain ⟨p1, rfl⟩ := isNm_ok (and_l h1)
  obtain rfl := of_decide_eq_true (and_l (and_r h1))
  obtain ⟨_, _, rfl⟩ := isInt_ok (and_r (and_r h1))
  exact ⟨p1, _, _, _, rfl⟩
noncomputable def stIsWhile (kf : Expr → List Stmt → List Stmt → Pos → Bool) : Stmt → Bool
  | .While t b o p => kf t b o p
  | _ => false
theorem stIsWhile_ok {kf : Expr → List Stmt → List Stmt → Pos → Bool} {st : Stmt} (h : stIsWhile kf st = true) : ∃ t b o p, st = .While t b o p ∧ kf t b o p = true := by
  cases st with
  | While => exact ⟨_, _, _, _, rfl, h⟩
  | _ => exact (Bool.false_ne_true h).elim
noncomputable def isEq (l r : Expr → Bool) : Expr → Bool := onCompare fun a os bs _ => l a && (hdP (fun o => decide (o = CmpOp.Eq)) nilP os && hdP r nilP bs)
noncomputable def isWhile (o ix v : Str) : Stmt → Bool := stIsWhile fun c b r _ => isEq (isItem o ix) (isNm v) c && (hdP (isInc ix) nilP b && nilP r)
theorem isWhile_ok {o ix v : Str} {st : Stmt} (h : isWhile o ix v st = true) : ∃ p1 p2 p3 p4 p5 b p6, st = .While (.Compare (.Subscript (.Name o p1) (.Name ix p2) p3) [.Eq] [.Name v p4] p5) [b] [] p6 := by
  obtain ⟨c, b, r, p, rfl, h⟩ := stIsWhile_ok h
  obtain ⟨_, rfl, _⟩ := one_ok (and_l (and_r h))
  obtain rfl := nilP_ok (and_r (and_r h))
  obtain ⟨a, os, bs, q, rfl, h1⟩ := onCompare_ok (and_l h)
  obtain ⟨p1, p2, p3, rfl⟩ := isItem_ok (and_l h1)
  obtain ⟨_, rfl, h3⟩ := one_ok (and_l (and_r h1))
  obtain rfl := of_decide_eq_true h3
  obtain ⟨_, rfl, h4⟩ := one_ok (and_r (and_r h1))
  obtain ⟨p4, rfl⟩ := isNm_ok h4
  exact ⟨p1, p2, p3, p4, _, _, _, rfl⟩

theorem inc_ok {i : Nat} {x : Str} {k : Int} {st : Stmt} {Q : Flow → Shared → Prop} (hst : isInc x st = true) (EO : EnvOk Γ gn env) (F : FR H Γ env fo base φ ow s.heap) (hx : Γ[i]? = some (x, .loc)) (hs : φ[i]? = some (.val (.int k)))
    (hQ : ∀ h' tk, FR H Γ env fo base (φ.set i (.val (.int (k + 1)))) ow h' → Le ow s.heap ow h' → Q .next { s with heap := h', toks := tk }) : wpAny (model prog w) A (exec st env) Q E s := by
  obtain ⟨p1, p2, kk, p3, rfl⟩ := isInc_ok hst
  refine wpAny_AugAssign_Name (load_val EO F hx hs fun old vo => ?_)
  unfold VR at vo
  obtain ⟨t, rfl⟩ := vo
  refine wpAny_Constant_int ?_
  refine PySem.AutoIntOps.iadd_0 ?_
  exact store_val EO F hx (by decide) (pv := .int (k + 1)) (by unfold VR; exact ⟨_, rfl⟩) fun h' tk F' l => hQ h' tk F' l

theorem item_x {io ii : Nat} {xo xi : Str} {p1 p2 p3 : Pos} {xs : List PV} {k : Int} {ctx : Value} {Q : Value → Shared → Prop} (EO : EnvOk Γ gn env) (F : FR H Γ env fo base φ ow s.heap) (O : OutOk outer ow s.heap) (hh : Held A s.heap ctx)
    (hxo : Γ[io]? = some (xo, .loc)) (hso : φ[io]? = some (.val (.list xs))) (hxi : Γ[ii]? = some (xi, .loc)) (hsi : φ[ii]? = some (.val (.int k))) (h0 : 0 ≤ k) (hk : k < 65536)
    (hQ : ∀ v x, xs[k.toNat]? = some x → VR (Fz ow s.heap) x v → Q v s)
    (hE : (xs.length : Int) ≤ k → ∀ ow' h' tk e, FR H Γ env fo base φ ow' h' → OutOk outer ow' h' → Ex ow' h' e none ctx → E (.ref e) { s with heap := h', toks := tk }) :
    wpAny (model prog w) A (eval (.Subscript (.Name xo p1) (.Name xi p2) p3) env) Q E s := by
  refine Subscript_ (wpAny_Name (load_val EO F hxo hso fun vo ro => ?_) (EO.plain _ _ _ hxo).1)
  refine wpAny_Name (load_val EO F hxi hsi fun vi ri => ?_) (EO.plain _ _ _ hxi).1
  unfold VR at ro ri
  obtain ⟨t, rfl⟩ := ri
  obtain ⟨a, vs, m, rfl, fz, lz, hs⟩ := ro
  have hl := hs.length
  refine tail_ok ⟨_, fz.2, rfl⟩ slot_list_getitem.lookup ?_
  by_cases hlt : k.toNat < xs.length
  · obtain ⟨v, hv, vr⟩ := hs.get (List.getElem?_eq_getElem hlt)
    exact wpAny_getItem_list (items := vs.toArray) ⟨_, fz.2, rfl, m, rfl⟩ h0 (by lia) (by simpa using hv) (hQ v _ (List.getElem?_eq_getElem hlt) vr)
  · refine getItem_out (items := vs.toArray) hh ⟨_, fz.2, rfl, m, rfl⟩ h0 (by simp; lia) (by lia) fun h' tk e x => ?_
    obtain ⟨F', O', x'⟩ := newX_ok F O x
    exact hE (by lia) _ h' tk e F' O' x'

theorem while_x {io ii iv : Nat} {xo xi xv : Str} {st : Stmt} {xs : List PV} {k : Int} {v : PV} {ctx : Value} {Q : Flow → Shared → Prop} (hst : isWhile xo xi xv st = true) (EO : EnvOk Γ gn env) (F : FR H Γ env fo base φ ow s.heap) (O : OutOk outer ow s.heap) (hh : Held A s.heap ctx)
    (hfr : A.frames = some (env :: outer.map (·.1))) (hf : env.frame = some env.locals) (hu : A.units + 16 < cLine)
    (hxo : Γ[io]? = some (xo, .loc)) (hso : φ[io]? = some (.val (.list xs))) (hxi : Γ[ii]? = some (xi, .loc)) (hsi : φ[ii]? = some (.val (.int k))) (hxv : Γ[iv]? = some (xv, .loc)) (hsv : φ[iv]? = some (.val v)) (h0 : 0 ≤ k) (hk : k < 65536)
    (hne : ∀ x, xs[k.toNat]? = some x → cmpop .Eq x v fun b => b = false)
    (hQ : k < xs.length → Q .next s)
    (hE : (xs.length : Int) ≤ k → ∀ ow' h' tk e, FR H Γ env fo base φ ow' h' → OutOk outer ow' h' → Ex ow' h' e (some (rawInt env.locals)) ctx → E (.ref e) { s with heap := h', toks := tk }) :
    wpAny (model prog w) A (exec st env) Q E s := by
  obtain ⟨p1, p2, p3, p4, p5, b, p6, rfl⟩ := isWhile_ok hst
  refine wpAny_While ?_
  refine codeAny_whileLoop (fun _ s' => s' = s) ?_ 0 rfl
  rintro n _ rfl
  refine wpAny_isTrue_Compare1 (item_x EO F O hh hxo hso hxi hsi h0 hk (fun val x hx vx => ?_) fun hle ow' h' tk e F' O' x' => ?_) (by rfl)
  · refine wpAny_Name (load_val EO F hxv hsv fun vv rv => ?_) (EO.plain _ _ _ hxv).1
    refine cmpop_ok (hne x hx) vx rv hu fun c hc => ?_
    subst hc
    refine wpAny_truthy_bool ?_
    simp only [Bool.false_eq_true, if_false]
    refine wpAny_execs_nil (hQ ?_)
    have : k.toNat < xs.length := by
      rcases Nat.lt_or_ge k.toNat xs.length with q | q
      · exact q
      · rw [List.getElem?_eq_none q] at hx; cases hx
    lia
  · unfold notedBy
    refine note_fresh F' O' hfr hf (by rw [EO.fn]; decide) x' fun ow2 h2 F2 O2 x2 => ?_
    exact came_back hf F2 O2 x2 fun h3 F3 O3 x3 => hE hle ow2 h3 tk e F3 O3 x3
end
end Mine
end
section
namespace Mine

noncomputable def isFrom (o i : Str) : Expr → Bool := onSubscript fun a x _ => isNm o a && onSlice (fun b c d _ => someP (isNm i) b && (c.isNone && d.isNone)) x
theorem isFrom_ok {o i : Str} {e : Expr} (h : isFrom o i e = true) : ∃ p2 p3 p4 p5, e = .Subscript (.Name o p2) (.Slice (some (.Name i p3)) none none p4) p5 := by
  obtain ⟨a, x, p, rfl, h1⟩ := onSubscript_ok h
  obtain ⟨p2, rfl⟩ := isNm_ok (and_l h1)
  obtain ⟨b, c, d, q, rfl, h2⟩ := onSlice_ok (and_r h1)
  obtain rfl := none_ok (and_l (and_r h2))
  obtain rfl := none_ok (and_r (and_r h2))
  obtain ⟨b, rfl, h3⟩ := someP_ok (and_l h2)
  obtain ⟨p3, rfl⟩ := isNm_ok h3
  exact ⟨_, _, _, _, rfl⟩
noncomputable def isExt (m o i : Str) : Stmt → Bool := stIsExpr fun c _ => onCall (fun f as ks p => hdP (isFrom o i) nilP as && (nilP ks && onAttribute (fun x y ap => isNm m x && (y == ("extend" : Str) && ap.endLine == p.line)) f)) c
theorem isExt_ok {m o i : Str} {st : Stmt} (h : isExt m o i st = true) : ∃ p1 p2 p3 p4 p5 p6 ap p pos, st = .Expr (.Call (.Attribute (.Name m p1) "extend" ap) [.Subscript (.Name o p2) (.Slice (some (.Name i p3)) none none p4) p5] [] p) pos ∧ (ap.endLine == p.line) = true ∧ p6 = p5 := by
  obtain ⟨c, pos, rfl, hq1⟩ := stIsExpr_ok h
  obtain ⟨f, as, ks, p, rfl, hq2⟩ := onCall_ok hq1
  obtain ⟨_, rfl, h1⟩ := one_ok (and_l hq2)
  obtain ⟨p2, p3, p4, p5, rfl⟩ := isFrom_ok h1
  obtain rfl := nilP_ok (and_l (and_r hq2))
  obtain ⟨x, y, ap, rfl, hq3⟩ := onAttribute_ok (and_r (and_r hq2))
  obtain ⟨p1, rfl⟩ := isNm_ok (and_l hq3)
  obtain rfl := beq_iff_eq.mp (and_l (and_r hq3))
  exact ⟨p1, p2, p3, p4, p5, _, _, _, _, rfl, and_r (and_r hq3), rfl⟩

section
variable {prog : Program} {w : World} {A : Around} {E : Value → Shared → Prop} {s : Shared}
variable {H : Heap} {Γ : Cx} {gn : List Str} {env : Env} {fo : Addr → Prop} {base : Heap} {φ : Frame} {ow : Addr → Option Nat} {outer : Out}

theorem ext_ok {im io ii : Nat} {xm xo xi : Str} {st : Stmt} {ms xs : List PV} {k : Int} {Q : Flow → Shared → Prop} (hst : isExt xm xo xi st = true) (EO : EnvOk Γ gn env) (F : FR H Γ env fo base φ ow s.heap)
    (hxm : Γ[im]? = some (xm, .loc)) (hsm : φ[im]? = some (.own ms)) (hxo : Γ[io]? = some (xo, .loc)) (hso : φ[io]? = some (.val (.list xs))) (hxi : Γ[ii]? = some (xi, .loc)) (hsi : φ[ii]? = some (.val (.int k))) (h0 : 0 ≤ k) (hk : k < 65536)
    (hz : ms.length + xs.length ≤ 65536)
    (hQ : ∀ h' tk, FR H Γ env fo base (φ.set im (.own (ms ++ xs.drop k.toNat))) ow h' → Le ow s.heap ow h' → Q .next { s with heap := h', toks := tk }) : wpAny (model prog w) A (exec st env) Q E s := by
  obtain ⟨p1, p2, p3, p4, p5, p6, ap, p, pos, rfl, hline, _⟩ := isExt_ok hst
  have z : sizeLine = 16777216 := rfl
  have hi : interactive env = false := by unfold interactive; rw [EO.fn]; rfl
  refine wpAny_Expr ?_ hi rfl
  refine wpAny_Call_method_lateS (base_plain rfl) rfl hline (wpAny_Name (load_own_at EO F hxm hsm fun a vs m e0 e1 e2 e3 => ?_) (EO.plain _ _ _ hxm).1)
  refine ⟨"list", "list.extend", PySem.F.plainAttrs_list, PySem.F.slot_list_extend, PySem.F.type_list_extend, ⟨_, e2, rfl⟩, fun b e => ?_, ?_⟩
  · cases e
    exact ⟨_, e2, rfl⟩
  refine Calls.callWith_builtin rfl (Calls.evalArgs_plain ?_)
  refine wpAny_items_cons (e := .Subscript (.Name xo p2) (.Slice (some (.Name xi p3)) none none p4) p5) (rest := []) (env := env) (pos := p) ?_ rfl
  refine Subscript_ (wpAny_Name (load_val EO F hxo hso fun vo ro => ?_) (EO.plain _ _ _ hxo).1)
  refine wpAny_Slice ?_
  show wpAny _ _ (eval (.Name xi p3) env) _ _ s
  refine wpAny_Name (load_val EO F hxi hsi fun vi ri => ?_) (EO.plain _ _ _ hxi).1
  unfold VR at ri
  obtain ⟨t, rfl⟩ := ri
  rw [evalPart_none]
  refine wpAny_pure ?_
  refine wpAny_pure ?_
  have kp := push_keep s.heap { cls := .type "slice", data := .fields #[.int k t, .none, .none] }
  have F1 := F.keeps kp
  refine slice_ok (o := .list xs) (ow := ow) (lo := some k) (hi := none) (K := fun pv => pv = .list (xs.drop k.toNat)) ⟨fun i hi => ?_, rfl⟩ ((Le.keeps kp).vr ro) ⟨t, rfl⟩ rfl (Heap.get?_push_size _ rfl) (fun x e => F1.fresh e) ?_
  · simp at hi; subst hi; lia
  rintro v pv h1 tk1 rfl k1 vr
  have F2 := F1.keeps k1
  unfold VR at vr
  obtain ⟨b, us, m2, rfl, fz, lz, hs⟩ := vr
  refine wpAny_items_nil ?_
  have k2 : ∀ b o, s.heap.get? b = some o → h1.get? b = some o := fun b o q => k1 b o (kp b o q)
  have hm : ∃ m, h1.Ns env.locals m ∧ m xm = some (.ref a) := e0.imp fun q ⟨q1, q2⟩ => ⟨q1.keeps k2, q2⟩
  obtain ⟨o1, o2, o3⟩ := own_same F2 hxm hsm hm (k2 _ _ e2)
  have hl := o3.length
  have hl2 := hs.length
  have hd : (xs.drop k.toNat).length ≤ xs.length := by simp
  refine call_meets PySem.F.slot_list_extend ⟨_, o2, rfl⟩ PySem.F.entry_list_extend (PySem.F.args_list_extend_2 _ _) (AutoSeq1.list_extend_list_list_0 a vs.toArray m b us.toArray m2 ?_ (by simp; lia) (by simp; lia)) ⟨o2, fz.2, ?_⟩
  · simp [Builtin.List.listTooLong]; lia
  obtain ⟨c, hc⟩ := mapSeq_list vs m (· ++ us.toArray)
  have a4 : (h1.update a (Obj.mapSeq fun x => x ++ us.toArray)).get? a = some (listObj (vs ++ us) c) := by
    rw [Heap.get?_update_self _ o2 (by rw [hc]; rfl), hc]; simp
  obtain ⟨F3, l3⟩ := own_turn EO F2 hxm hsm hm o1 (Heap.SameBut.update ..) a4 (VRs.append o3 hs)
  exact hQ _ tk1 F3 ((Le.keeps k2).trans l3)
end
end Mine
end
section
namespace Mine

section
variable {prog : Program} {w : World} {A : Around} {E : Value → Shared → Prop} {s : Shared}
variable {H : Heap} {Γ : Cx} {gn : List Str} {env : Env} {fo : Addr → Prop} {base : Heap} {φ : Frame} {ow : Addr → Option Nat} {outer : Out} {GT : List (Str × PV)}

theorem glob_any {k : Nat} {x : Str} {v : PV} {p : Pos} {Q : Value → Shared → Prop} (G : GlobOk H GT) (hg : GT[k]? = some (x, v)) (EO : EnvOk Γ gn env) (hm : x ∈ gn) (F : FR H Γ env fo base φ ow s.heap)
    (hQ : ∀ val, VR (Fz ow s.heap) v val → Q val s) : wpAny (model prog w) A (eval (.Name x p) env) Q E s := by
  obtain ⟨mg, mb, g1, g2, hv⟩ := G
  obtain ⟨val, e, vr⟩ := hv k x v hg
  have hx := EO.gk x hm
  have m1 : s.heap.Ns env.globals mg := by rw [EO.gl]; exact g1.keeps F.topIn
  have m2 : s.heap.Ns env.builtins mb := by rw [EO.bl]; exact g2.keeps F.topIn
  have fin : Q val s := hQ val (VR.mono (fun a o e => get_fz F e) _ _ vr)
  refine Calls.Name_function_global EO.fn hx.1 ?_ hx.2
  rcases e with e | ⟨e1, e2⟩
  · exact Calls.loadGlobal_global m1 e fin
  · exact Calls.loadGlobal_builtin m1 e1 m2 e2 fin

theorem note_any {e : Addr} {fl : Option Value} {ctx : Value} {Q : Unit → Shared → Prop} (F : FR H Γ env fo base φ ow s.heap) (O : OutOk outer ow s.heap) (hfr : A.frames = some (env :: outer.map (·.1)))
    (hf : env.frame = some env.locals) (hk : env.scope.kind ≠ .module) (x : Ex ow s.heap e fl ctx) (hfl : fl = none ∨ fl = some (rawInt env.locals))
    (hQ : ∀ ow' h', FR H Γ env fo base φ ow' h' → OutOk outer ow' h' → Ex ow' h' e (some (rawInt env.locals)) ctx → Q () { s with heap := h' }) : wpAny M A (noteFrame (.ref e) env) Q E s := by
  rcases hfl with rfl | rfl
  · exact note_fresh F O hfr hf hk x hQ
  · exact note_again hf x (hQ ow s.heap F O x)

theorem catch_ok {e : Addr} {fl : Option Value} {ctx : Value} {k : Nat} {tn : Expr} {b₀ : Stmt} {suite : List Stmt} {pos : Pos} {rest : List ExceptHandler} {Q : Flow → Shared → Prop} (G : GlobOk H GT) (hg : GT[k]? = some (("IndexError" : Str), PV.raw (.type "IndexError")))
    (htn : isNm "IndexError" tn = true) (EO : EnvOk Γ gn env) (hm : ("IndexError" : Str) ∈ gn)
    (F : FR H Γ env fo base φ ow s.heap) (O : OutOk outer ow s.heap) (hfr : A.frames = some (env :: outer.map (·.1))) (hf : env.frame = some env.locals) (x : Ex ow s.heap e fl ctx) (hfl : fl = none ∨ fl = some (rawInt env.locals))
    (hs : ∀ ow' h' E', FR H Γ env fo base φ ow' h' → OutOk outer ow' h' → wpAny (model prog w) (A.mark (some (.ref e))) (execs (b₀ :: suite) env) Q E' { s with heap := h' }) :
    wpAny (model prog w) A (noteFrame (.ref e) env) (fun _ s₂ => wpAny (model prog w) A (setFlight (.ref e) none) (fun _ s₃ => wpAny (model prog w) A (handleBy (.ref e) env (.ExceptHandler (some tn) none (b₀ :: suite) pos :: rest)) Q E s₃) E s₂) E s := by
  obtain ⟨p, rfl⟩ := isNm_ok htn
  refine note_any F O hfr hf (by rw [EO.fn]; decide) x hfl fun ow1 h1 F1 O1 x1 => ?_
  refine flight_ok F1 O1 x1 fun h2 F2 O2 x2 => ?_
  refine wpAny_handleBy_builtin (X := "IndexError") (T := "IndexError") (b := true) PySem.F.isExc_IndexError PySem.F.notTuple_IndexError (by rw [isSubtype_type]; kernel_rfl) ?_
  refine glob_any G hg EO hm F2 fun val vr => ?_
  unfold VR at vr
  subst vr
  obtain ⟨ob, vs, a0, h3, h4, _⟩ := x2.obj
  refine ⟨rfl, ⟨ob, h3, h4⟩, ?_⟩
  refine flight_ok F2 O2 x2 fun h5 F5 O5 x5 => ?_
  exact hs ow1 h5 _ F5 O5
end

noncomputable def sldP {α : Type} (lt : α → α → Bool) : List α → List α → List α × List α
  | [], ys => ([], ys)
  | x :: xs, [] => (x :: xs, [])
  | x :: xs, y :: ys => if lt x y then (x :: (sldP lt xs (y :: ys)).1, (sldP lt xs (y :: ys)).2) else if lt y x then ((sldP lt (x :: xs) ys).1, y :: (sldP lt (x :: xs) ys).2) else sldP lt xs ys
  termination_by xs ys => xs.length + ys.length
theorem sldP_nil {α : Type} {lt : α → α → Bool} (xs : List α) : sldP lt xs [] = (xs, []) := by
  cases xs <;> simp [sldP]

structure OrdOk {α : Type} (emb : α → PV) (lt : α → α → Bool) : Prop where
  l : ∀ x y (K : Bool → Prop), K (lt x y) → cmpop .Lt (emb x) (emb y) K
  g : ∀ x y (K : Bool → Prop), K (lt y x) → cmpop .Gt (emb x) (emb y) K
  n : ∀ x y, lt y x = true → cmpop .Eq (emb x) (emb y) fun b => b = false
noncomputable def Up {α : Type} (lt : α → α → Bool) (xs : List α) : Prop := ∀ i x y, xs[i]? = some x → xs[i + 1]? = some y → lt x y = true

noncomputable def Γs : Cx := [("expected", .loc), ("actual", .loc), ("i", .loc), ("j", .loc), ("missing", .loc), ("unexpected", .loc), ("e", .loc), ("a", .loc)]
noncomputable def gns : List Str := ["IndexError"]
noncomputable def isGet (e o i : Str) : Stmt → Bool := stIsAssign fun ts v _ => hdP (isNm e) nilP ts && isItem o i v
theorem isGet_ok {e o i : Str} {st : Stmt} (h : isGet e o i st = true) : ∃ p1 p2 p3 p4 p5, st = .Assign [.Name e p1] (.Subscript (.Name o p2) (.Name i p3) p4) p5 := by
  obtain ⟨ts, v, p, rfl, hq1⟩ := stIsAssign_ok h
  obtain ⟨_, rfl, h1⟩ := one_ok (and_l hq1)
  obtain ⟨p1, rfl⟩ := isNm_ok h1
  obtain ⟨p2, p3, p4, rfl⟩ := isItem_ok (and_r hq1)
  exact ⟨p1, p2, p3, p4, _, rfl⟩
noncomputable def ifP (pc : Expr → Bool) (pa pb : List Stmt → Bool) : Stmt → Bool := stIsIf fun c a b _ => pc c && (pa a && pb b)
theorem ifP_ok {pc : Expr → Bool} {pa pb : List Stmt → Bool} {st : Stmt} (h : ifP pc pa pb st = true) : ∃ c a b p, st = .If c a b p ∧ pc c = true ∧ pa a = true ∧ pb b = true := by
  obtain ⟨c, a, b, p, rfl, hq1⟩ := stIsIf_ok h
  exact ⟨_, _, _, _, rfl, and_l hq1, and_l (and_r hq1), and_r (and_r hq1)⟩
noncomputable def stIsTry (kf : List Stmt → List ExceptHandler → List Stmt → List Stmt → Pos → Bool) : Stmt → Bool
  | .Try b hs o f p => kf b hs o f p
  | _ => false
theorem stIsTry_ok {kf : List Stmt → List ExceptHandler → List Stmt → List Stmt → Pos → Bool} {st : Stmt} (h : stIsTry kf st = true) : ∃ b hs o f p, st = .Try b hs o f p ∧ kf b hs o f p = true := by
  cases st with
  | Try => exact ⟨_, _, _, _, _, rfl, h⟩
  | _ => exact (Bool.false_ne_true h).elim
noncomputable def tryP (pb : List Stmt → Bool) (ph : List ExceptHandler → Bool) (pf : List Stmt → Bool) : Stmt → Bool := stIsTry fun b hs o f _ => pb b && (ph hs && (nilP o && pf f))
theorem tryP_ok {pb : List Stmt → Bool} {ph : List ExceptHandler → Bool} {pf : List Stmt → Bool} {st : Stmt} (h : tryP pb ph pf st = true) : ∃ b hs f p, st = .Try b hs [] f p ∧ pb b = true ∧ ph hs = true ∧ pf f = true := by
  obtain ⟨b, hs, o, f, p, rfl, hq1⟩ := stIsTry_ok h
  obtain rfl := nilP_ok (and_l (and_r (and_r hq1)))
  exact ⟨_, _, _, _, rfl, and_l hq1, and_l (and_r hq1), and_r (and_r (and_r hq1))⟩
noncomputable def handP (t : Str) (pb : List Stmt → Bool) : ExceptHandler → Bool
  | .ExceptHandler tn nm b _ => someP (isNm t) tn && (nm.isNone && pb b)
theorem handP_ok {t : Str} {pb : List Stmt → Bool} {x : ExceptHandler} (h : handP t pb x = true) : ∃ tn b p, x = .ExceptHandler (some tn) none b p ∧ isNm t tn = true ∧ pb b = true := by
  cases x with
  | ExceptHandler tn nm b p =>
    have h1 := and_l h
    have h2 := and_r h
    clear h
    obtain rfl := none_ok (and_l h2)
    obtain ⟨tn, rfl, h3⟩ := someP_ok h1
    exact ⟨_, _, _, rfl, h3, and_r h2⟩
noncomputable def isTrue1 : Expr → Bool := onConstant fun c _ _ => constOk (.bool true) c
theorem isTrue1_ok {e : Expr} (h : isTrue1 e = true) : ∃ kk p, e = .Constant (.bool true) kk p := by
  obtain ⟨c, kk, p, rfl, hq1⟩ := onConstant_ok (kf := fun c _ _ => constOk (.bool true) c) h
  cases c with
  | bool j => obtain rfl : true = j := beq_iff_eq.mp hq1; exact ⟨_, _, rfl⟩
  | _ => exact (Bool.false_ne_true hq1).elim
noncomputable def everP (pb : List Stmt → Bool) : Stmt → Bool := stIsWhile fun c b o _ => isTrue1 c && (pb b && nilP o)
theorem everP_ok {pb : List Stmt → Bool} {st : Stmt} (h : everP pb st = true) : ∃ kk q b p, st = .While (.Constant (.bool true) kk q) b [] p ∧ pb b = true := by
  obtain ⟨c, b, o, p, rfl, hq1⟩ := stIsWhile_ok h
  have h1 := and_l hq1
  have h2 := and_r hq1
  clear hq1
  obtain ⟨_, _, rfl⟩ := isTrue1_ok h1
  obtain rfl := nilP_ok (and_r h2)
  exact ⟨_, _, _, _, rfl, and_l h2⟩
noncomputable def isBoth : Stmt → Bool := stIsAssign fun ts e _ => hdP (isNm "i") (hdP (isNm "j") nilP) ts && isInt 0 e
theorem isBoth_ok {st : Stmt} (h : isBoth st = true) : ∃ ti tj kk p pos, st = .Assign [ti, tj] (.Constant (.int 0) kk p) pos ∧ isNm "i" ti = true ∧ isNm "j" tj = true := by
  obtain ⟨ts, e, p, rfl, hq1⟩ := stIsAssign_ok h
  have h3 := and_r hq1
  obtain ⟨_, _, rfl, h1, h2⟩ := hdP_ok (and_l hq1)
  clear hq1
  obtain ⟨_, rfl, h4⟩ := one_ok h2
  obtain ⟨_, _, rfl⟩ := isInt_ok h3
  exact ⟨_, _, _, _, _, rfl, h1, h4⟩
section
variable (GT : List (Str × PV))
noncomputable def isTb (tb : List Stmt) : Bool :=
  hdP (isGet "e" "expected" "i") (hdP (isGet "a" "actual" "j") (hdP (ifP (chkE GT Γs gns (.cmp .Lt (.var 6) (.var 7)))
    (hdP (chkS GT Γs gns (.app 4 (.var 6))) (hdP (isInc "i") (hdP (isWhile "expected" "i" "e") nilP)))
    (hdP (ifP (chkE GT Γs gns (.cmp .Gt (.var 6) (.var 7)))
      (hdP (chkS GT Γs gns (.app 5 (.var 7))) (hdP (isInc "j") (hdP (isWhile "actual" "j" "a") nilP)))
      (hdP (isInc "i") (hdP (tryP (hdP (isWhile "expected" "i" "e") nilP) nilP (hdP (isInc "j") (hdP (isWhile "actual" "j" "a") nilP))) nilP))) nilP)) nilP)) tb
noncomputable def isSld (body : List Stmt) : Bool :=
  hdP isBoth (hdP (chkS GT Γs gns (.own 4 (.list .nil))) (hdP (chkS GT Γs gns (.own 5 (.list .nil))) (hdP
    (everP (hdP (tryP (isTb GT) (hdP (handP "IndexError" (hdP (isExt "missing" "expected" "i") (hdP (isExt "unexpected" "actual" "j") (hdP (stIsBreak fun _ => true) nilP)))) nilP) nilP) nilP))
    (hdP (chkS GT Γs gns (.ret (.tup (.cons (.var 4) (.cons (.var 5) .nil))))) nilP)))) body
end
noncomputable def fs (xs ys : List PV) (i j : Nat) (ms us : List PV) (a b : Slot) : Frame := [.val (.list xs), .val (.list ys), .val (.int i), .val (.int j), .own ms, .own us, a, b]
end Mine
end
section
namespace Mine

section
variable {prog : Program} {w : World} {A : Around} {E : Value → Shared → Prop} {s : Shared}
variable {H : Heap} {Γ : Cx} {gn : List Str} {env : Env} {fo : Addr → Prop} {base : Heap} {φ : Frame} {ow : Addr → Option Nat} {outer : Out}
theorem get_x {io ii iv : Nat} {xo xi xv : Str} {st : Stmt} {xs : List PV} {k : Int} {ctx : Value} {Q : Flow → Shared → Prop} (hst : isGet xv xo xi st = true) (EO : EnvOk Γ gn env) (F : FR H Γ env fo base φ ow s.heap) (O : OutOk outer ow s.heap) (hh : Held A s.heap ctx)
    (hxo : Γ[io]? = some (xo, .loc)) (hso : φ[io]? = some (.val (.list xs))) (hxi : Γ[ii]? = some (xi, .loc)) (hsi : φ[ii]? = some (.val (.int k))) (hxv : Γ[iv]? = some (xv, .loc)) (h0 : 0 ≤ k) (hk : k < 65536)
    (hQ : ∀ x h' tk, xs[k.toNat]? = some x → FR H Γ env fo base (φ.set iv (.val x)) ow h' → OutOk outer ow h' → Q .next { s with heap := h', toks := tk })
    (hE : (xs.length : Int) ≤ k → ∀ ow' h' tk e, FR H Γ env fo base φ ow' h' → OutOk outer ow' h' → Ex ow' h' e none ctx → E (.ref e) { s with heap := h', toks := tk }) : wpAny (model prog w) A (exec st env) Q E s := by
  obtain ⟨p1, p2, p3, p4, p5, rfl⟩ := isGet_ok hst
  refine wpAny_Assign_Name (item_x EO F O hh hxo hso hxi hsi h0 hk (fun v x hx vx => ?_) hE)
  exact store_val EO F hxv (by decide) vx fun h' tk F' l => hQ x h' tk hx F' (O.le l)
end

section
structure Inv {α : Type} (emb : α → PV) (lt : α → α → Bool) (xs ys : List α) (R : List PV × List PV) (i j : Nat) (ms us : List PV) : Prop where
  li : i ≤ xs.length
  lj : j ≤ ys.length
  lm : ms.length ≤ i
  lu : us.length ≤ j
  r1 : ms ++ (sldP lt (xs.drop i) (ys.drop j)).1.map emb = R.1
  r2 : us ++ (sldP lt (xs.drop i) (ys.drop j)).2.map emb = R.2
end
section
variable {α : Type} {emb : α → PV} {lt : α → α → Bool} {xs ys : List α} {R : List PV × List PV} {i j : Nat} {ms us : List PV} {x y : α}
theorem drop_at {l : List α} {k : Nat} {z : α} (h : l[k]? = some z) : l.drop k = z :: l.drop (k + 1) := by
  obtain ⟨hk, e⟩ := List.getElem?_eq_some_iff.mp h
  rw [List.drop_eq_getElem_cons hk, e]
theorem at_lt {l : List α} {k : Nat} {z : α} (h : l[k]? = some z) : k < l.length := (List.getElem?_eq_some_iff.mp h).1
theorem Inv.less (I : Inv emb lt xs ys R i j ms us) (hx : xs[i]? = some x) (hy : ys[j]? = some y) (h : lt x y = true) : Inv emb lt xs ys R (i + 1) j (ms ++ [emb x]) us := by
  have r1 := I.r1; have r2 := I.r2
  rw [drop_at hx, drop_at hy] at r1 r2
  unfold sldP at r1 r2
  simp only [h, if_true] at r1 r2
  have h1 := at_lt hx; have h2 := I.lj; have h3 := I.lm; have h4 := I.lu
  exact ⟨h1, h2, by simp; omega, h4, by rw [drop_at hy]; simpa using r1, by rw [drop_at hy]; simpa using r2⟩
theorem Inv.more (I : Inv emb lt xs ys R i j ms us) (hx : xs[i]? = some x) (hy : ys[j]? = some y) (h : lt x y = false) (h' : lt y x = true) : Inv emb lt xs ys R i (j + 1) ms (us ++ [emb y]) := by
  have r1 := I.r1; have r2 := I.r2
  rw [drop_at hx, drop_at hy] at r1 r2
  unfold sldP at r1 r2
  simp only [h, h', Bool.false_eq_true, if_false, if_true] at r1 r2
  have h1 := at_lt hy; have h2 := I.li; have h3 := I.lm; have h4 := I.lu
  exact ⟨h2, h1, h3, by simp; lia, by rw [drop_at hx]; simpa using r1, by rw [drop_at hx]; simpa using r2⟩
theorem Inv.same (I : Inv emb lt xs ys R i j ms us) (hx : xs[i]? = some x) (hy : ys[j]? = some y) (h : lt x y = false) (h' : lt y x = false) : Inv emb lt xs ys R (i + 1) (j + 1) ms us := by
  have r1 := I.r1; have r2 := I.r2
  rw [drop_at hx, drop_at hy] at r1 r2
  unfold sldP at r1 r2
  simp only [h, h', Bool.false_eq_true, if_false] at r1 r2
  have h1 := at_lt hx; have h2 := at_lt hy; have h3 := I.lm; have h4 := I.lu
  exact ⟨h1, h2, by lia, by lia, r1, r2⟩
theorem Inv.done (I : Inv emb lt xs ys R i j ms us) (h : i = xs.length ∨ j = ys.length) : ms ++ (xs.map emb).drop i = R.1 ∧ us ++ (ys.map emb).drop j = R.2 := by
  have r1 := I.r1; have r2 := I.r2
  rw [← List.map_drop, ← List.map_drop]
  rcases h with rfl | rfl
  · rw [List.drop_length] at r1 r2 ⊢
    simpa [sldP] using And.intro r1 r2
  · rw [List.drop_length] at r1 r2 ⊢
    simpa [sldP_nil] using And.intro r1 r2
end

section
variable {prog : Program} {w : World} {A : Around} {E : Value → Shared → Prop} {s : Shared}
variable {H : Heap} {env : Env} {fo : Addr → Prop} {base : Heap} {ow : Addr → Option Nat} {outer : Out} {GT : List (Str × PV)} {n : Nat}
variable {α : Type} {emb : α → PV} {lt : α → α → Bool} {xs ys : List α} {R : List PV × List PV}

noncomputable abbrev FS (H : Heap) (env : Env) (fo : Addr → Prop) (base : Heap) (outer : Out) (emb : α → PV) (xs ys : List α) (i j : Nat) (ms us : List PV) (a b : Slot) (ow : Addr → Option Nat) (h : Heap) : Prop :=
  FR H Γs env fo base (fs (xs.map emb) (ys.map emb) i j ms us a b) ow h ∧ OutOk outer ow h

theorem tb_ok {tb : List Stmt} {i j : Nat} {ms us : List PV} {s6 s7 : Slot} {Q : Flow → Shared → Prop} (htb : isTb GT tb = true) (T : Tops prog w H GT n) (AO : AOk n A) (EO : EnvOk Γs gns env) (OK : OrdOk emb lt) (hx : Up lt xs) (hy : Up lt ys)
    (hz : xs.length + ys.length ≤ 1000) (hfr : A.frames = some (env :: outer.map (·.1))) (hf : env.frame = some env.locals) (I : Inv emb lt xs ys R i j ms us) (F : FS H env fo base outer emb xs ys i j ms us s6 s7 ow s.heap)
    (hN : ∀ i' j' ms' us' s6' s7' ow' h' tk, i + j < i' + j' → Inv emb lt xs ys R i' j' ms' us' → FS H env fo base outer emb xs ys i' j' ms' us' s6' s7' ow' h' → Q .next { s with heap := h', toks := tk })
    (hX : ∀ i' j' ms' us' s6' s7' ow' h' tk e fl ctx, Inv emb lt xs ys R i' j' ms' us' → (i' = xs.length ∨ j' = ys.length) → FS H env fo base outer emb xs ys i' j' ms' us' s6' s7' ow' h' →
      Ex ow' h' e fl ctx → (fl = none ∨ fl = some (rawInt env.locals)) → E (.ref e) { s with heap := h', toks := tk }) :
    wpAny (model prog w) A (execs tb env) Q E s := by
  have hu : A.units + 16 < cLine := by have := AO.un; lia
  have hn : Held A s.heap .none := .inl ⟨AO.hh, rfl⟩
  have hi := I.li
  have hj := I.lj
  have hm := I.lm
  have hu' := I.lu
  have itm : ∀ {l : List α} {k : Nat} {p : PV}, (l.map emb)[((k : Nat) : Int).toNat]? = some p → ∃ z, l[k]? = some z ∧ p = emb z := fun {l k p} e => by
    rw [Int.toNat_natCast, List.getElem?_map] at e
    cases q : l[k]? with
    | none => rw [q] at e; cases e
    | some z => rw [q] at e; cases e; exact ⟨z, rfl, rfl⟩
  · replace htb := hdP_ok htb; obtain ⟨a1, _, rfl, b1, htb⟩ := htb
    replace htb := hdP_ok htb; obtain ⟨a2, _, rfl, b2, htb⟩ := htb
    replace htb := one_ok htb; obtain ⟨_, rfl, htb⟩ := htb
    replace htb := ifP_ok htb; obtain ⟨c1, _, _, q1, rfl, b3, ha, htb⟩ := htb
    replace ha := hdP_ok ha; obtain ⟨m1, _, rfl, b4, ha⟩ := ha
    replace ha := hdP_ok ha; obtain ⟨i1, _, rfl, b5, ha⟩ := ha
    replace ha := one_ok ha; obtain ⟨w1, rfl, b6⟩ := ha
    replace htb := one_ok htb; obtain ⟨_, rfl, htb⟩ := htb
    replace htb := ifP_ok htb; obtain ⟨c2, _, _, q2, rfl, b7, ha, htb⟩ := htb
    replace ha := hdP_ok ha; obtain ⟨m2, _, rfl, b8, ha⟩ := ha
    replace ha := hdP_ok ha; obtain ⟨i2, _, rfl, b9, ha⟩ := ha
    replace ha := one_ok ha; obtain ⟨w2, rfl, b10⟩ := ha
    replace htb := hdP_ok htb; obtain ⟨i3, _, rfl, b11, htb⟩ := htb
    replace htb := one_ok htb; obtain ⟨_, rfl, htb⟩ := htb
    replace htb := tryP_ok htb; obtain ⟨_, _, _, q3, rfl, ha, he, htb⟩ := htb
    replace ha := one_ok ha; obtain ⟨w3, rfl, b12⟩ := ha
    obtain rfl := nilP_ok he
    replace htb := hdP_ok htb; obtain ⟨i4, _, rfl, b13, ha⟩ := htb
    replace ha := one_ok ha; obtain ⟨w4, rfl, b14⟩ := ha
    obtain ⟨F, O⟩ := F
    refine wpAny_execs_cons (get_x (io := 0) (ii := 2) (iv := 6) b1 EO F O hn rfl rfl rfl rfl rfl (by lia) (by lia) (fun p1 h1 tk1 e1 F1 O1 => ?_) fun hle ow1 h1 tk1 e F1 O1 x1 => ?_)
    rotate_left
    · exact hX i j ms us s6 s7 ow1 h1 tk1 e none _ I (.inl (by simp at hle; lia)) ⟨F1, O1⟩ x1 (.inl rfl)
    obtain ⟨x, ex, rfl⟩ := itm e1
    refine wpAny_execs_cons (get_x (io := 1) (ii := 3) (iv := 7) b2 EO F1 O1 (.inl ⟨AO.hh, rfl⟩) rfl rfl rfl rfl rfl (by lia) (by lia) (fun p2 h2 tk2 e2 F2 O2 => ?_) fun hle ow2 h2 tk2 e F2 O2 x2 => ?_)
    rotate_left
    · exact hX i j ms us (.val (emb x)) s7 ow2 h2 tk2 e none _ I (.inr (by simp at hle; lia)) ⟨F2, O2⟩ x2 (.inl rfl)
    obtain ⟨y, ey, rfl⟩ := itm e2
    have hxl := at_lt ex
    have hyl := at_lt ey
    refine wpAny_execs_cons (wpAny_If ?_)
    refine (sndE T (.cmp .Lt (.var 6) (.var 7))).2 _ _ (fun b φ' => b = lt x y ∧ φ' = fs (xs.map emb) (ys.map emb) i j ms us (.val (emb x)) (.val (emb y))) Γs gns env fo base ow A _ _ _ b3 ?_ EO AO F2 ?_
    · simp only [↓evT_cmp, ↓evT_call, ↓evT_const, ↓evT_var, ↓evT_glob, ↓evT_bin, ↓evT_ife, ↓evT_lenv, ↓evT_meth, ↓evT_sub, ↓evT_subv, ↓evT_slc, ↓evT_list, ↓evT_tup, ↓evT_comp, ↓evE_const, ↓evE_var, ↓evE_glob, ↓evE_bin, ↓evE_cmp, ↓evE_ife, ↓evE_call, ↓evE_lenv, ↓evE_meth, ↓evE_sub, ↓evE_subv, ↓evE_slc, ↓evE_list, ↓evE_tup, ↓evE_comp]
      exact OK.l x y _ ⟨rfl, rfl⟩
    rintro b φ3 ow3 h3 tk3 ⟨rfl, rfl⟩ F3 st3
    have O3 := O2.le st3.le
    cases hlt : lt x y with
    | true =>
      simp only [if_true]
      refine wpAny_execs_cons ((sndS T (.app 4 (.var 6))) m1 _ ⟨fun φ => φ = fs (xs.map emb) (ys.map emb) i j (ms ++ [emb x]) us (.val (emb x)) (.val (emb y)), fun _ => False, fun _ => False⟩ Γs gns env fo base ow3 A _ _ _ b4 ?_ EO AO F3 ?_)
      · simp only [↓evS_asg, ↓evS_own, ↓evS_swap, ↓evS_app, ↓evS_loop, ↓evS_enum, ↓evS_ife, ↓evS_ret, ↓evS_brk, ↓evS_ifX, fs]
        show evE GT _ (.var 6) _ _
        simp only [↓evE_const, ↓evE_var, ↓evE_glob, ↓evE_bin, ↓evE_cmp, ↓evE_ife, ↓evE_call, ↓evE_lenv, ↓evE_meth, ↓evE_sub, ↓evE_subv, ↓evE_slc, ↓evE_list, ↓evE_tup, ↓evE_comp]
        exact ⟨rfl, by lia, rfl⟩
      intro fl φ4 ow4 h4 tk4 hf4 F4 l4
      cases fl with
      | brk => exact hf4.elim
      | cont => exact hf4.elim
      | ret v => obtain ⟨_, h9, _⟩ := hf4; exact h9.elim
      | next =>
        obtain rfl := hf4
        refine wpAny_execs_cons (inc_ok (i := 2) b5 EO F4 rfl rfl fun h5 tk5 F5 l5 => ?_)
        have F5' : FR H Γs env fo base (fs (xs.map emb) (ys.map emb) (i + 1) j (ms ++ [emb x]) us (.val (emb x)) (.val (emb y))) ow4 h5 := F5
        have O5 := (O3.le l4).le l5
        have I5 := I.less ex ey hlt
        refine wpAny_execs_cons (while_x (io := 0) (ii := 2) (iv := 6) b6 EO F5' O5 (.inl ⟨AO.hh, rfl⟩) hfr hf hu rfl rfl rfl rfl rfl rfl (by lia) (by lia) (fun p hp => ?_) (fun _ => ?_) fun hle ow6 h6 tk6 e F6 O6 x6 => ?_)
        · obtain ⟨z, ez, rfl⟩ := itm (k := i + 1) hp
          exact OK.n z x (hx i x z ex ez)
        · exact wpAny_execs_nil (wpAny_execs_nil (hN (i + 1) j _ us _ _ ow4 h5 tk5 (by lia) I5 ⟨F5', O5⟩))
        · exact hX (i + 1) j _ us _ _ ow6 h6 tk6 e _ _ I5 (.inl (by simp at hle; lia)) ⟨F6, O6⟩ x6 (.inr rfl)
    | false =>
      simp only [Bool.false_eq_true, if_false]
      refine wpAny_execs_cons (wpAny_If ?_)
      refine (sndE T (.cmp .Gt (.var 6) (.var 7))).2 _ _ (fun b φ' => b = lt y x ∧ φ' = fs (xs.map emb) (ys.map emb) i j ms us (.val (emb x)) (.val (emb y))) Γs gns env fo base ow3 A _ _ _ b7 ?_ EO AO F3 ?_
      · simp only [↓evT_cmp, ↓evT_call, ↓evT_const, ↓evT_var, ↓evT_glob, ↓evT_bin, ↓evT_ife, ↓evT_lenv, ↓evT_meth, ↓evT_sub, ↓evT_subv, ↓evT_slc, ↓evT_list, ↓evT_tup, ↓evT_comp, ↓evE_const, ↓evE_var, ↓evE_glob, ↓evE_bin, ↓evE_cmp, ↓evE_ife, ↓evE_call, ↓evE_lenv, ↓evE_meth, ↓evE_sub, ↓evE_subv, ↓evE_slc, ↓evE_list, ↓evE_tup, ↓evE_comp]
        exact OK.g x y _ (by first | exact ⟨rfl, rfl⟩ | exact ⟨rfl, trivial⟩)
      rintro b φ4 ow4 h4 tk4 ⟨rfl, rfl⟩ F4 st4
      have O4 := O3.le st4.le
      cases hgt : lt y x with
      | true =>
        simp only [if_true]
        refine wpAny_execs_cons ((sndS T (.app 5 (.var 7))) m2 _ ⟨fun φ => φ = fs (xs.map emb) (ys.map emb) i j ms (us ++ [emb y]) (.val (emb x)) (.val (emb y)), fun _ => False, fun _ => False⟩ Γs gns env fo base ow4 A _ _ _ b8 ?_ EO AO F4 ?_)
        · simp only [↓evS_asg, ↓evS_own, ↓evS_swap, ↓evS_app, ↓evS_loop, ↓evS_enum, ↓evS_ife, ↓evS_ret, ↓evS_brk, ↓evS_ifX, fs]
          show evE GT _ (.var 7) _ _
          simp only [↓evE_const, ↓evE_var, ↓evE_glob, ↓evE_bin, ↓evE_cmp, ↓evE_ife, ↓evE_call, ↓evE_lenv, ↓evE_meth, ↓evE_sub, ↓evE_subv, ↓evE_slc, ↓evE_list, ↓evE_tup, ↓evE_comp]
          exact ⟨rfl, by lia, rfl⟩
        intro fl φ5 ow5 h5 tk5 hf5 F5 l5
        cases fl with
        | brk => exact hf5.elim
        | cont => exact hf5.elim
        | ret v => obtain ⟨_, h9, _⟩ := hf5; exact h9.elim
        | next =>
          obtain rfl := hf5
          refine wpAny_execs_cons (inc_ok (i := 3) b9 EO F5 rfl rfl fun h6 tk6 F6 l6 => ?_)
          have F6' : FR H Γs env fo base (fs (xs.map emb) (ys.map emb) i (j + 1) ms (us ++ [emb y]) (.val (emb x)) (.val (emb y))) ow5 h6 := F6
          have O6 := (O4.le l5).le l6
          have I6 := I.more ex ey hlt hgt
          refine wpAny_execs_cons (while_x (io := 1) (ii := 3) (iv := 7) b10 EO F6' O6 (.inl ⟨AO.hh, rfl⟩) hfr hf hu rfl rfl rfl rfl rfl rfl (by lia) (by lia) (fun p hp => ?_) (fun _ => ?_) fun hle ow7 h7 tk7 e F7 O7 x7 => ?_)
          · obtain ⟨z, ez, rfl⟩ := itm (k := j + 1) hp
            exact OK.n z y (hy j y z ey ez)
          · exact wpAny_execs_nil (wpAny_execs_nil (wpAny_execs_nil (hN i (j + 1) ms _ _ _ ow5 h6 tk6 (by lia) I6 ⟨F6', O6⟩)))
          · exact hX i (j + 1) ms _ _ _ ow7 h7 tk7 e _ _ I6 (.inr (by simp at hle; lia)) ⟨F7, O7⟩ x7 (.inr rfl)
      | false =>
        simp only [Bool.false_eq_true, if_false]
        have I5 := I.same ex ey hlt hgt
        have hk : env.scope.kind ≠ .module := by rw [EO.fn]; decide
        refine wpAny_execs_cons (inc_ok (i := 2) b11 EO F4 rfl rfl fun h5 tk5 F5 l5 => ?_)
        have F5' : FR H Γs env fo base (fs (xs.map emb) (ys.map emb) (i + 1) j ms us (.val (emb x)) (.val (emb y))) ow4 h5 := F5
        have O5 := O4.le l5
        refine wpAny_execs_cons (wpAny_Try_finally ?_)
        refine wpAny_execs_cons (while_x (io := 0) (ii := 2) (iv := 6) b12 EO F5' O5 (.inl ⟨AO.hh, rfl⟩) hfr hf hu rfl rfl rfl rfl rfl rfl (by lia) (by lia) (fun p hp => ?_) (fun _ => ?_) fun hle ow6 h6 tk6 e F6 O6 x6 => ?_)
        · obtain ⟨z, ez, rfl⟩ := itm (k := i + 1) hp
          exact OK.n z x (hx i x z ex ez)
        · refine wpAny_execs_nil (wpAny_execs_nil ?_)
          refine wpAny_execs_cons (inc_ok (i := 3) b13 EO F5' rfl rfl fun h6 tk6 F6 l6 => ?_)
          have F6' : FR H Γs env fo base (fs (xs.map emb) (ys.map emb) (i + 1) (j + 1) ms us (.val (emb x)) (.val (emb y))) ow4 h6 := F6
          have O6 := O5.le l6
          refine wpAny_execs_cons (while_x (io := 1) (ii := 3) (iv := 7) b14 EO F6' O6 (.inl ⟨AO.hh, rfl⟩) hfr hf hu rfl rfl rfl rfl rfl rfl (by lia) (by lia) (fun p hp => ?_) (fun _ => ?_) fun hle ow7 h7 tk7 e F7 O7 x7 => ?_)
          · obtain ⟨z, ez, rfl⟩ := itm (k := j + 1) hp
            exact OK.n z y (hy j y z ey ez)
          · exact wpAny_execs_nil (wpAny_execs_nil (wpAny_execs_nil (wpAny_execs_nil (hN (i + 1) (j + 1) ms us _ _ ow4 h6 tk6 (by lia) I5 ⟨F6', O6⟩))))
          · refine note_again hf x7 ?_
            exact came_back hf F7 O7 x7 fun h8 F8 O8 x8 => hX (i + 1) (j + 1) ms us _ _ ow7 h8 tk7 e _ _ I5 (.inr (by simp at hle; lia)) ⟨F8, O8⟩ x8 (.inr rfl)
        · have hdone : i + 1 = xs.length := by simp at hle; lia
          refine note_again hf x6 ⟨ref_ne_byPass e, note_again hf x6 (flight_ok F6 O6 x6 fun h7 F7 O7 x7 => ?_)⟩
          refine wpAny_execs_cons (inc_ok (i := 3) b13 EO F7 rfl rfl fun h8 tk8 F8 l8 => ?_)
          have F8' : FR H Γs env fo base (fs (xs.map emb) (ys.map emb) (i + 1) (j + 1) ms us (.val (emb x)) (.val (emb y))) ow6 h8 := F8
          have O8 := O7.le l8
          have x8 := x7.le l8
          have hh8 : Held (A.mark (some (.ref e))) h8 (.ref e) := by
            obtain ⟨ob, vs, a0, k1, k2, k3, k4, k5, _⟩ := x8.obj
            exact .inr ⟨e, ob, vs, rfl, rfl, k1, k3, k5⟩
          refine wpAny_execs_cons (while_x (A := A.mark (some (.ref e))) (io := 1) (ii := 3) (iv := 7) b14 EO F8' O8 hh8 hfr hf hu rfl rfl rfl rfl rfl rfl (by lia) (by lia) (fun p hp => ?_) (fun _ => ?_) fun hle ow9 h9 tk9 e2 F9 O9 x9 => ?_)
          · obtain ⟨z, ez, rfl⟩ := itm (k := j + 1) hp
            exact OK.n z y (hy j y z ey ez)
          · refine wpAny_execs_nil ?_
            exact pass_on hf F8' O8 x8 fun h9 F9 O9 x9 => hX (i + 1) (j + 1) ms us _ _ ow6 h9 tk8 e _ _ I5 (.inl hdone) ⟨F9, O9⟩ x9 (.inr rfl)
          · refine note_again hf x9 ?_
            exact came_back hf F9 O9 x9 fun h10 F10 O10 x10 => hX (i + 1) (j + 1) ms us _ _ ow9 h10 tk9 e2 _ _ I5 (.inl hdone) ⟨F10, O10⟩ x10 (.inr rfl)
end
end Mine
end
section
namespace Mine

section
variable {prog : Program} {w : World} {A : Around} {E : Value → Shared → Prop} {s : Shared}
variable {H : Heap} {env : Env} {fo : Addr → Prop} {base : Heap} {ow : Addr → Option Nat} {outer : Out} {GT : List (Str × PV)} {n : Nat}
variable {α : Type} {emb : α → PV} {lt : α → α → Bool} {xs ys : List α} {R : List PV × List PV}

theorem both_ok {φ : Frame} {ti tj : Expr} {kk : Nat} {p pos : Pos} {Q : Flow → Shared → Prop} (h1 : isNm "i" ti = true) (h2 : isNm "j" tj = true) (EO : EnvOk Γs gns env) (F : FR H Γs env fo base φ ow s.heap)
    (hQ : ∀ h' tk, FR H Γs env fo base ((φ.set 2 (.val (.int 0))).set 3 (.val (.int 0))) ow h' → Le ow s.heap ow h' → Q .next { s with heap := h', toks := tk }) :
    wpAny (model prog w) A (exec (.Assign [ti, tj] (.Constant (.int 0) kk p) pos) env) Q E s := by
  obtain ⟨p1, rfl⟩ := isNm_ok h1
  obtain ⟨p2, rfl⟩ := isNm_ok h2
  rw [exec_Assign]
  refine wpAny_bind (wpAny_standAt ?_)
  show wpAny _ A (do let v ← eval (.Constant (.int 0) kk p) env; assignStores env v none [assign (.Name "i" p1) env, assign (.Name "j" p2) env]) Q E s
  refine wpAny_bind (wpAny_Constant_int ?_)
  show wpAny _ A (assignAll _ [assign (.Name "i" p1) env, assign (.Name "j" p2) env] >>= fun _ => pure .next) Q E _
  refine wpAny_bind ?_
  show wpAny _ A (holding [_] (assign (.Name "i" p1) env _) >>= fun _ => assign (.Name "j" p2) env _) _ E _
  refine wpAny_bind (wpAny_holding (wpAny_assign_Name ?_))
  refine store_val (i := 2) (pv := .int 0) EO F rfl (by decide) (by unfold VR; exact ⟨_, rfl⟩) fun h3 tk3 F3 l3 => ?_
  refine wpAny_assign_Name ?_
  refine store_val (i := 3) (pv := .int 0) EO F3 rfl (by decide) (by unfold VR; exact ⟨_, rfl⟩) fun h4 tk4 F4 l4 => ?_
  exact wpAny_pure (hQ h4 tk4 F4 (l3.trans l4))

theorem ar_less {i j i' j' a b : Nat} (h : i + j < i' + j') (hi : i' ≤ a) (hj : j' ≤ b) : a + b - (i' + j') < a + b - (i + j) := Nat.sub_lt_sub_left (Nat.lt_of_lt_of_le h (Nat.add_le_add hi hj)) h
inductive SldInv (H : Heap) (env : Env) (fo : Addr → Prop) (base : Heap) (outer : Out) (emb : α → PV) (lt : α → α → Bool) (xs ys : List α) (R : List PV × List PV) (s : Shared) : Nat → Shared → Prop
  | mk (i j : Nat) (ms us : List PV) (a b : Slot) (ow' : Addr → Option Nat) (h' : Heap) (tk : Nat) (I : Inv emb lt xs ys R i j ms us) (F : FS H env fo base outer emb xs ys i j ms us a b ow' h') :
    SldInv H env fo base outer emb lt xs ys R s (xs.length + ys.length - (i + j)) { s with heap := h', toks := tk }

theorem sld_body {body : List Stmt} {k : Nat} {Q : Flow → Shared → Prop} (hb : isSld GT body = true) (T : Tops prog w H GT n) (hg : GT[k]? = some (("IndexError" : Str), PV.raw (.type "IndexError"))) (AO : AOk n A) (EO : EnvOk Γs gns env) (OK : OrdOk emb lt) (hx : Up lt xs) (hy : Up lt ys)
    (hz : xs.length + ys.length ≤ 1000) (hfr : A.frames = some (env :: outer.map (·.1))) (hf : env.frame = some env.locals) (F : FR H Γs env fo base (φ0 Γs [.list (xs.map emb), .list (ys.map emb)]) ow s.heap) (O : OutOk outer ow s.heap)
    (hQ : ∀ v φ' ow' h' tk, FR H Γs env fo base φ' ow' h' → OutOk outer ow' h' → VR (Fz ow' h') (.tup [.list ((sldP lt xs ys).1.map emb), .list ((sldP lt xs ys).2.map emb)]) v → Q (.ret v) { s with heap := h', toks := tk }) :
    wpAny (model prog w) A (execs body env) Q E s := by
  · replace hb := hdP_ok hb; obtain ⟨_, _, rfl, ha, hb⟩ := hb
    replace ha := isBoth_ok ha; obtain ⟨ti, tj, k1, q1, q2, rfl, c1, c2⟩ := ha
    replace hb := hdP_ok hb; obtain ⟨s3, _, rfl, c3, hb⟩ := hb
    replace hb := hdP_ok hb; obtain ⟨s4, _, rfl, c4, hb⟩ := hb
    replace hb := hdP_ok hb; obtain ⟨_, _, rfl, ha, hb⟩ := hb
    replace hb := one_ok hb; obtain ⟨ret, rfl, c9⟩ := hb
    replace ha := everP_ok ha; obtain ⟨k2, q3, _, q7, rfl, ha⟩ := ha
    replace ha := one_ok ha; obtain ⟨_, rfl, ha⟩ := ha
    replace ha := tryP_ok ha; obtain ⟨tb, _, _, q6, rfl, c8, ha, he⟩ := ha
    obtain rfl := nilP_ok he
    replace ha := one_ok ha; obtain ⟨_, rfl, ha⟩ := ha
    replace ha := handP_ok ha; obtain ⟨tn, _, q5, rfl, c5, ha⟩ := ha
    replace ha := hdP_ok ha; obtain ⟨x1, _, rfl, c6, ha⟩ := ha
    replace ha := hdP_ok ha; obtain ⟨x2, _, rfl, c7, ha⟩ := ha
    replace ha := one_ok ha; obtain ⟨_, rfl, ha⟩ := ha
    obtain ⟨q4, rfl, _⟩ := stIsBreak_ok ha
    refine wpAny_execs_cons (both_ok c1 c2 EO F fun h1 tk1 F1 l1 => ?_)
    have O1 := O.le l1
    refine wpAny_execs_cons ((sndS T (.own 4 (.list .nil))) s3 _ ⟨fun φ => φ = [.val (.list (xs.map emb)), .val (.list (ys.map emb)), .val (.int 0), .val (.int 0), .own [], .unb, .unb, .unb], fun _ => False, fun _ => False⟩ Γs gns env fo base ow A _ _ _ c3 ?_ EO AO F1 ?_)
    · simp only [↓evS_asg, ↓evS_own, ↓evS_swap, ↓evS_app, ↓evS_loop, ↓evS_enum, ↓evS_ife, ↓evS_ret, ↓evS_brk, ↓evS_ifX, ↓evE_const, ↓evE_var, ↓evE_glob, ↓evE_bin, ↓evE_cmp, ↓evE_ife, ↓evE_call, ↓evE_lenv, ↓evE_meth, ↓evE_sub, ↓evE_subv, ↓evE_slc, ↓evE_list, ↓evE_tup, ↓evE_comp, ↓evEs_nil, ↓evEs_cons]
      exact ⟨by simp, [], rfl, rfl⟩
    intro fl φ2 ow2 h2 tk2 hf2 F2 l2
    have O2 := O1.le l2
    cases fl with
    | brk => exact hf2.elim
    | cont => exact hf2.elim
    | ret v => obtain ⟨_, h9, _⟩ := hf2; exact h9.elim
    | next =>
    obtain rfl := hf2
    refine wpAny_execs_cons ((sndS T (.own 5 (.list .nil))) s4 _ ⟨fun φ => φ = fs (xs.map emb) (ys.map emb) 0 0 [] [] .unb .unb, fun _ => False, fun _ => False⟩ Γs gns env fo base ow2 A _ _ _ c4 ?_ EO AO F2 ?_)
    · simp only [↓evS_asg, ↓evS_own, ↓evS_swap, ↓evS_app, ↓evS_loop, ↓evS_enum, ↓evS_ife, ↓evS_ret, ↓evS_brk, ↓evS_ifX, ↓evE_const, ↓evE_var, ↓evE_glob, ↓evE_bin, ↓evE_cmp, ↓evE_ife, ↓evE_call, ↓evE_lenv, ↓evE_meth, ↓evE_sub, ↓evE_subv, ↓evE_slc, ↓evE_list, ↓evE_tup, ↓evE_comp, ↓evEs_nil, ↓evEs_cons]
      exact ⟨by simp, [], rfl, rfl⟩
    intro fl φ3 ow3 h3 tk3 hf3 F3 l3
    have O3 := O2.le l3
    cases fl with
    | brk => exact hf3.elim
    | cont => exact hf3.elim
    | ret v => obtain ⟨_, h9, _⟩ := hf3; exact h9.elim
    | next =>
    obtain rfl := hf3
    refine wpAny_execs_cons (wpAny_While ?_)
    refine codeAny_whileLoop (SldInv H env fo base outer emb lt xs ys ((sldP lt xs ys).1.map emb, (sldP lt xs ys).2.map emb) s) ?_ _
      ⟨0, 0, [], [], .unb, .unb, ow3, h3, tk3, ⟨Nat.zero_le _, Nat.zero_le _, Nat.le_refl _, Nat.le_refl _, rfl, rfl⟩, F3, O3⟩
    rintro m _ ⟨i, j, ms, us, s6, s7, ow4, h4, tk4, I, F4⟩
    refine wpAny_isTrue_value (wpAny_Constant_bool (wpAny_truthy_bool ?_)) rfl
    simp only [if_true]
    refine wpAny_execs_cons (wpAny_Try_except (tb_ok c8 T AO EO OK hx hy hz hfr hf I F4 (fun i' j' ms' us' s6' s7' ow' h' tk hlt I' F' => ?_) fun i' j' ms' us' s6' s7' ow' h' tk e fl ctx I' hd F' x' hfl => ?_))
    · exact wpAny_execs_nil (wpAny_execs_nil ⟨_, ar_less hlt I'.li I'.lj, i', j', ms', us', s6', s7', ow', h', tk, I', F'⟩)
    · have li := I'.li
      have lj := I'.lj
      have lm := I'.lm
      have lu := I'.lu
      refine catch_ok T.glob hg c5 EO (List.mem_singleton.mpr rfl) F'.1 F'.2 hfr hf x' hfl fun ow5 h5 E' F5 O5 => ?_
      refine wpAny_execs_cons (ext_ok (im := 4) (io := 0) (ii := 2) c6 EO F5 rfl rfl rfl rfl rfl rfl (by lia) (by lia) (by simp; lia) fun h6 tk6 F6 l6 => ?_)
      have F6' : FR H Γs env fo base (fs (xs.map emb) (ys.map emb) i' j' (ms' ++ (xs.map emb).drop i') us' s6' s7') ow5 h6 := F6
      refine wpAny_execs_cons (ext_ok (im := 5) (io := 1) (ii := 3) c7 EO F6' rfl rfl rfl rfl rfl rfl (by lia) (by lia) (by simp; lia) fun h7 tk7 F7 l7 => ?_)
      have F7' : FR H Γs env fo base (fs (xs.map emb) (ys.map emb) i' j' (ms' ++ (xs.map emb).drop i') (us' ++ (ys.map emb).drop j') s6' s7') ow5 h7 := F7
      have O7 := (O5.le l6).le l7
      obtain ⟨d1, d2⟩ := I'.done hd
      dsimp only at d1 d2
      rw [d1, d2] at F7'
      have z1 : ((sldP lt xs ys).1.map emb).length ≤ 65536 := by rw [← d1]; simp; lia
      have z2 : ((sldP lt xs ys).2.map emb).length ≤ 65536 := by rw [← d2]; simp; lia
      refine wpAny_execs_cons (wpAny_Break ?_)
      refine wpAny_execs_cons ((sndS T (.ret (.tup (.cons (.var 4) (.cons (.var 5) .nil))))) ret _ ⟨fun _ => False, fun pv => pv = .tup [.list ((sldP lt xs ys).1.map emb), .list ((sldP lt xs ys).2.map emb)], fun _ => False⟩ Γs gns env fo base ow5 A _ _ _ c9 ?_ EO AO F7' ?_)
      · simp only [↓evS_asg, ↓evS_own, ↓evS_swap, ↓evS_app, ↓evS_loop, ↓evS_enum, ↓evS_ife, ↓evS_ret, ↓evS_brk, ↓evS_ifX, ↓evE_const, ↓evE_var, ↓evE_glob, ↓evE_bin, ↓evE_cmp, ↓evE_ife, ↓evE_call, ↓evE_lenv, ↓evE_meth, ↓evE_sub, ↓evE_subv, ↓evE_slc, ↓evE_list, ↓evE_tup, ↓evE_comp, ↓evEs_nil, ↓evEs_cons, fs]
        exact ⟨z1, z2, by simp, rfl⟩
      intro fl φ8 ow8 h8 tk8 hf8 F8 l8
      cases fl with
      | brk => exact hf8.elim
      | cont => exact hf8.elim
      | next => exact hf8.elim
      | ret v =>
        obtain ⟨pv, rfl, vr⟩ := hf8
        exact hQ v φ8 ow8 h8 tk8 F8 (O7.le l8) vr
end
end Mine
end
section
namespace Mine

section
variable {H : Heap} {Γ : Cx} {env : Env} {fo : Addr → Prop} {base : Heap} {φ : Frame} {ow : Addr → Option Nat} {h : Heap}
theorem FR.hide (F : FR H Γ env fo base φ ow h) {L : Addr} (hL : ow L = some 0) (hnf : ∀ (i : Nat) (x : Str), Γ[i]? ≠ some (x, Kd.fre)) :
    FR H Γ env (fun a => fo a ∧ a ≠ L) (hideAll base [L]) φ (fun a => if a = L then some 2 else ow a) h := by
  have ne : ∀ b t, ow b = some t → t ≠ 0 → b ≠ L := fun b t e ht q => by subst q; rw [hL] at e; cases e; exact ht rfl
  have up : ∀ b t, ow b = some t → t ≠ 0 → (if b = L then some 2 else ow b) = some t := fun b t e ht => by rw [if_neg (ne b t e ht)]; exact e
  have l : Le0 ow h (fun a => if a = L then some 2 else ow a) h := ⟨fun a o f => ⟨by
    have : a ≠ L := fun q => by subst q; have h9 := f.1; rw [hL] at h9; cases h9
    show (if a = L then some 2 else ow a) = none
    rw [if_neg this]; exact f.1, f.2⟩⟩
  refine ⟨fun b o e => hideAll_get _ (F.top b o e) fun q => ?_, fun a e => ?_, fun b o e => F.keep b o (of_hideAll _ e), fun a t e => ?_, fun a e => ?_, fun a e => ?_, F.len, ?_, up _ _ F.nso (by decide), fun i x e => ?_, fun i x e => ?_⟩
  · rw [List.mem_singleton] at q
    subst q
    have := F.hi b (by rw [hL]; simp)
    rw [e] at this; cases this
  · refine F.hi a fun q => ?_
    by_cases ha : a = L
    · subst ha; rw [hL] at q; cases q
    · simp only [if_neg ha] at e; exact e q
  · by_cases ha : a = L
    · subst ha
      exact ⟨hideAll_none _ (List.mem_singleton.mpr rfl), F.ex (by rw [hL]; simp)⟩
    · simp only [if_neg ha] at e
      obtain ⟨e1, e2⟩ := F.own a t e
      refine ⟨?_, e2⟩
      cases q : (hideAll base [L]).get? a with
      | none => rfl
      | some o => have := of_hideAll _ q; rw [e1] at this; cases this
  · simp only [if_neg e.2]; exact F.for1 a e.1
  · by_cases ha : a = L
    · subst ha; simp at e
    · simp only [if_neg ha] at e
      obtain ⟨o, ho⟩ := Option.isSome_iff_exists.mp (F.for2 a e)
      rw [hideAll_get _ ho (by simpa using ha)]; rfl
  · obtain ⟨m, hm, hs⟩ := F.ns
    exact ⟨m, hm, fun i x e => (hs i x e).mono l fun a o e1 e2 => ⟨up a _ e1 (by lia), e2⟩⟩
  · obtain ⟨c, v, e1, e2, e3, e4⟩ := F.cel i x e
    exact ⟨c, v, e1, e2, up c _ e3 (by lia), e4.mono l⟩
  · exact absurd e (hnf i x)
end

section
variable {prog : Program} {w : World} {H : Heap} {GT : List (Str × PV)} {n : Nat}
variable {α : Type} {emb : α → PV} {lt : α → α → Bool} {xs ys : List α}

theorem sld_specX {body : List Stmt} {k : Nat} {a : Addr} {o : Obj} {fd : FuncData} {A : Around} {env : Env} (T : Tops prog w H GT n) (hlim : H.NoLimit) (KF : FnAt H a Γs gns 2 body o fd) (hb : isSld GT body = true)
    (hg : GT[k]? = some (("IndexError" : Str), PV.raw (.type "IndexError"))) (OK : OrdOk emb lt) (hx : Up lt xs) (hy : Up lt ys) (hz : xs.length + ys.length ≤ 1000)
    (AO : AOk (n + 1) A) (hfr : A.frames = some [env]) (hf : env.frame = some env.locals) :
    SpecX prog w H A env (.ref a) [.list (xs.map emb), .list (ys.map emb)] (.tup [.list ((sldP lt xs ys).1.map emb), .list ((sldP lt xs ys).2.map emb)]) := by
  refine ⟨⟨a, o, fd, rfl, KF.at', KF.data⟩, ?_⟩
  intro Γ gn fo base φ ow s vals Q E EO F hv hQ
  have N := F.now
  have hvl := hv.length
  have hnp := KF.few
  have hnL := F.nso
  obtain ⟨mL, ⟨oL, esL, epL, hoL, hdL, hkL, hfL⟩, hslL⟩ := F.ns
  refine wpAny_call (codeAny_call_cells (by have := AO.dep; lia) (N.top _ _ KF.at') KF.data (hlim.keeps N.top) (KF.crec.keeps N.top) KF.body (KF.bind vals (by simpa using hvl)) KF.clo ?_ (fun s₁ X => ?_) KF.co KF.ge KF.sc.fn)
  · intro x hx
    have hm : x.1 ∈ Γs.map (·.1) := List.mem_of_mem_take (List.of_mem_zip (a := x.1) (b := x.2) hx).1
    obtain ⟨⟨y, kd⟩, hy, e⟩ := List.mem_map.mp hm
    simp only at e
    subst e
    obtain ⟨k1, k2, _⟩ := KF.sc.kinds _ hy
    cases kd with
    | loc => exact .inl k1
    | fre => exact absurd rfl k2
    | cel =>
      refine .inr ⟨k1, ?_⟩
      have := cellsFrom_own fd.scope.names (s.heap.push { cls := .type "frame", data := .dict #[] }) [] (x := x.1) (mem_lookup k1)
      rw [Heap.size_push] at this
      obtain ⟨c, e2, _⟩ := this
      rw [e2]; rfl
  · have F1 := FR.call KF N hv (by rfl) X
    have hk1 := X.toInCall.keep
    obtain ⟨h1, tk1, rfl⟩ := X.toInCall.same
    have hnf : ∀ (i : Nat) (x : Str), Γs[i]? ≠ some (x, Kd.fre) := fun i x e => (KF.sc.kinds _ (List.mem_of_getElem? e)).2.1 rfl
    have hL0 : owNew ow s.heap.objs.size Γs (callEnvC fd s.heap.objs.size a).cells env.locals = some 0 := owNew_old (by rw [hnL]; simp)
    have F2 := F1.hide hL0 hnf
    have O2 : OutOk [(env, esL, epL)] (fun b => if b = env.locals then some 2 else owNew ow s.heap.objs.size Γs (callEnvC fd s.heap.objs.size a).cells b) h1 := by
      intro y hy
      rw [List.mem_singleton] at hy
      subst hy
      exact ⟨by rw [EO.fn]; decide, env.locals, oL, hf, by simp, hk1 _ _ hoL, hdL⟩
    refine sld_body (A := A.deeper (callEnvC fd s.heap.objs.size a)) (outer := [(env, esL, epL)]) hb T hg (AO.deep _) (envOk_call KF _) OK hx hy hz (Around.frames_deeper hfr) rfl F2 O2 ?_
    intro v φ3 ow3 h3 tk3 F3 O3 vr
    obtain ⟨_, L', o3, f1, f2, f3, f4⟩ := O3 _ (List.mem_singleton.mpr rfl)
    rw [hf] at f1; cases f1
    have kb : ∀ b o, ow b ≠ some (0 + 1) → s.heap.get? b = some o → h3.get? b = some o := fun b o e q => F3.keep b o (hideAll_get _ q fun z => by rw [List.mem_singleton] at z; subst z; exact e hnL)
    have l3 : Le ow s.heap ow h3 := Le.turn kb (by lia)
    have F4 : FR H Γ env fo base φ ow h3 := by
      refine F.turn (t := 0) kb (fun b e q => ?_) rfl (fun _ _ => rfl) ⟨mL, ⟨o3, esL, epL, f3, f4, hkL, hfL⟩, fun i x e => (hslL i x e).mono l3.toLe0 fun b o e1 e2 => ⟨e1, kb b o (by rw [e1]; intro q; cases q) e2⟩⟩ (fun i x hi _ => by lia) fun i x _ hi => by lia
      by_cases hb : b = env.locals
      · subst hb; rw [f3]; rfl
      · obtain ⟨o', ho'⟩ := Option.isSome_iff_exists.mp q
        rw [F3.keep b o' (hideAll_get _ ho' (by simpa using hb))]; rfl
    refine hQ v h3 tk3 F4 l3 (VR.mono (fun b o f => ⟨?_, f.2⟩) _ _ vr)
    cases q : ow b with
    | none => rfl
    | some t =>
      have h9 := f.1
      by_cases hb : b = env.locals
      · subst hb; rw [f2] at h9; cases h9
      · have := F3.for1 b ⟨by rw [q]; simp, hb⟩
        rw [this] at h9; cases h9
end
end Mine
end
section
open Builtin Builtin.Str
namespace Mine

theorem glued_join (sep : Str) (ts : List Str) : Txt.join sep ts = Str.join sep ts := StrLaws.glued_eq_join sep ts
theorem join_asc {sep : Str} (hs : asc sep) : ∀ (ts : List Str), (∀ y ∈ ts, asc y) → asc (Str.join sep ts)
  | [], _ => by intro c hc; simp [Str.join, Str.empty] at hc
  | [x], h => h x (List.mem_singleton.mpr rfl)
  | x :: y :: r, h => by
    show asc (x ++ sep ++ Str.join sep (y :: r))
    exact asc_append (asc_append (h x List.mem_cons_self) hs) (join_asc hs (y :: r) fun z hz => h z (List.mem_cons_of_mem _ hz))

theorem strs_of {P : Addr → Obj → Prop} : ∀ {ts : List Str} {vs : List Value}, VRs P (ts.map PV.str) vs → ∃ l : List (Str × Tok), vs = strValues l ∧ l.map (·.1) = ts
  | [], vs, h => by
    simp only [List.map_nil] at h
    unfold VRs at h; subst h
    exact ⟨[], rfl, rfl⟩
  | x :: ts, vs, h => by
    simp only [List.map_cons] at h
    unfold VRs at h
    obtain ⟨v, r, rfl, h1, h2⟩ := h
    obtain ⟨l, rfl, rfl⟩ := strs_of h2
    unfold VR at h1
    obtain ⟨t, rfl, _⟩ := h1
    exact ⟨(x, t) :: l, rfl, rfl⟩
theorem vrs_strs {P : Addr → Obj → Prop} : ∀ (l : List (Str × Tok)), (∀ y ∈ l.map (·.1), y.length ≤ sizeLine ∧ asc y) → VRs P ((l.map (·.1)).map PV.str) (strValues l)
  | [], _ => VRs.nil'
  | (x, t) :: l, h => by
    refine VRs.cons' ?_ (vrs_strs l fun y hy => h y (List.mem_cons_of_mem _ hy))
    unfold VR
    obtain ⟨h1, h2⟩ := h x List.mem_cons_self
    exact ⟨t, rfl, h1, h2⟩

section
variable {prog : Program} {w : World} {H : Heap} {n : Nat}
theorem join_fits {sep : Str} {ts : List Str} (h1 : ∀ y ∈ ts, y.length ≤ 1000) (h2 : ts.length ≤ 1000) (h3 : sep.length ≤ 10) : JoinOk sep ts = true := by
  unfold JoinOk
  rw [Bool.not_eq_true']
  refine StrLaws.joinFits h1 ?_
  have e1 : ts.length * 1000 ≤ 1000 * 1000 := Nat.mul_le_mul h2 (Nat.le_refl _)
  have e2 : ts.length * sep.length ≤ 1000 * 10 := Nat.mul_le_mul h2 h3
  exact Nat.le_trans (Nat.add_le_add e1 e2) (by decide)
theorem join_spec {sep : Str} {ts : List Str} (h1 : ∀ y ∈ ts, y.length ≤ 1000) (h2 : ts.length ≤ 1000) (h3 : sep.length ≤ 10) (ha : ∀ y ∈ ts, asc y) (hs : asc sep) :
    Spec prog w H n (.builtin "str.join") [.str sep, .list (ts.map PV.str)] (.str (Str.join sep ts)) := by
  refine ⟨trivial, fun A s ow vs Q E hA hN hv hQ => ?_⟩
  unfold VRs at hv
  obtain ⟨v1, r, rfl, r1, hv⟩ := hv
  unfold VRs at hv
  obtain ⟨v2, r', rfl, r2, hv⟩ := hv
  unfold VRs at hv; subst hv
  unfold VR at r1 r2
  obtain ⟨t, rfl, _⟩ := r1
  obtain ⟨a, us, k, rfl, fz, lz, hs2⟩ := r2
  obtain ⟨l, rfl, rfl⟩ := strs_of hs2
  have ok := join_fits h1 h2 h3
  refine SC.join (l := l) ⟨_, fz.2, rfl, k, rfl⟩ rfl ok fun t' tk => ?_
  refine hQ _ _ s.heap tk rfl (fun _ _ e => e) ?_
  unfold VR
  rw [glued_join]
  exact ⟨t', rfl, by rw [← glued_join]; exact joinOk_length ok, join_asc hs _ ha⟩

theorem split_spec {x y : Str} (hy : (y.length == 0) = false) (h1 : x.length ≤ 1000) (hp : ∀ z ∈ Txt.split x y, z.length ≤ 1000 ∧ asc z) (hn : (Txt.split x y).length ≤ 1000)
    (hn2 : (partsBetween x (occurrences x y 0 x.length (x.length + 1)) y.length).length ≤ 1000) :
    Spec prog w H n (.builtin "str.split") [.str x, .str y] (.list ((Txt.split x y).map PV.str)) := by
  refine ⟨trivial, fun A s ow vs Q E hA hN hv hQ => ?_⟩
  have z : sizeLine = 16777216 := rfl
  unfold VRs at hv
  obtain ⟨v1, r, rfl, r1, hv⟩ := hv
  unfold VRs at hv
  obtain ⟨v2, r', rfl, r2, hv⟩ := hv
  unfold VRs at hv; subst hv
  unfold VR at r1 r2
  obtain ⟨t, rfl, _⟩ := r1
  obtain ⟨u, rfl, _⟩ := r2
  have fin : ∀ (l : List (Str × Tok)) (tk : Nat) (kk : Nat), l.map (·.1) = Txt.split x y → Q (.ref s.heap.objs.size) { s with toks := tk, heap := s.heap.push (listObj (strValues l) kk) } := by
    intro l tk kk hl
    refine hQ _ _ _ tk rfl (push_keep _ _) ?_
    have hr := vrs_strs (P := Fz ow (s.heap.push (listObj (strValues l) kk))) l fun z hz => by
      obtain ⟨k1, k2⟩ := hp z (hl ▸ hz)
      exact ⟨by lia, k2⟩
    rw [hl] at hr
    exact vr_listObj (Heap.get?_push_size _ rfl) (hN.fresh _ (get_none_size _)) hr (by simp; lia)
  cases h3 : (decide (x.length < y.length) || decide (strKind x < strKind y))
  · cases hf : (occurrences x y 0 x.length (x.length + 1)).isEmpty
    · refine call_meets PySem.F.slot_str_split (typeIs_str _ _ _) PySem.F.entry_str_split (PySem.F.args_str_split_2 _ _) (meets_str_split_sep x y t u h3 hy hf (by lia) (by lia)) ?_
      show wants Q E _ { s with toks := _, heap := s.heap.push { cls := .type "list", data := .seq (strsFrom s.toks (partsBetween x (occurrences x y 0 x.length (x.length + 1)) y.length)).toArray } }
      rw [strsFrom_eq]
      exact fin (numbered s.toks _) _ 0 ((numbered_texts _ _).trans ((if_neg (ne_true_of_eq_false h3)).trans (if_neg (ne_true_of_eq_false hf))).symm)
    · exact call_meets PySem.F.slot_str_split (typeIs_str _ _ _) PySem.F.entry_str_split (PySem.F.args_str_split_2 _ _) (meets_str_split_not_found x y t u h3 hy hf)
        (fin [(x, t)] s.toks 0 ((if_neg (ne_true_of_eq_false h3)).trans (if_pos hf)).symm)
  · exact call_meets PySem.F.slot_str_split (typeIs_str _ _ _) PySem.F.entry_str_split (PySem.F.args_str_split_2 _ _) (meets_str_split_cannot_occur x y t u h3)
      (fin [(x, t)] s.toks 0 (if_pos h3).symm)
end
end Mine
end
section
namespace Mine
open PySem.Sre

/-! the two patterns' machine -/
theorem runFor_done {m : M} (h : m.outcome.isSome = true) : ∀ n, m.runFor n = m
  | 0 => rfl
  | n + 1 => by show (if m.outcome.isSome then m else _) = m; rw [if_pos h]
theorem runFor_add (a b : Nat) : ∀ m : M, m.runFor (a + b) = (m.runFor a).runFor b := by
  induction a with
  | zero => intro m; rw [Nat.zero_add]; rfl
  | succ a ih =>
    intro m
    rw [Nat.succ_add]
    show (if m.outcome.isSome then m else _) = (if m.outcome.isSome then m else _ : M).runFor b
    by_cases h : m.outcome.isSome = true
    · rw [if_pos h, if_pos h, runFor_done h]
    · rw [if_neg h, if_neg h, ih]

noncomputable def Ends (n : Nat) (m : M) (P : M → Prop) : Prop := ∃ k, k ≤ n ∧ (m.runFor k).outcome.isSome = true ∧ P (m.runFor k)
theorem Ends.step {n : Nat} {m : M} {P : M → Prop} (h0 : m.outcome = none) (h : Ends n m.step P) : Ends (n + 1) m P := by
  obtain ⟨k, hk, h1, h2⟩ := h
  have e : m.runFor (k + 1) = m.step.runFor k := by
    show (if m.outcome.isSome then m else _) = _
    rw [if_neg (by rw [h0]; simp)]
  exact ⟨k + 1, by lia, by rw [e]; exact h1, by rw [e]; exact h2⟩
theorem Ends.now {n : Nat} {m : M} {P : M → Prop} (h : m.outcome.isSome = true) (hp : P m) : Ends n m P := ⟨0, Nat.zero_le _, h, hp⟩
theorem Ends.mono {n n' : Nat} {m : M} {P : M → Prop} (h : Ends n m P) (hn : n ≤ n') : Ends n' m P := let ⟨k, a, b⟩ := h; ⟨k, by lia, b⟩

noncomputable abbrev code1 : Array Nat := #[14, 4, 0, 1, 1, 6, 1, 16, 46, 1]
noncomputable abbrev code2 : Array Nat := #[14, 9, 4, 1, 2, 16, 10, 16, 13, 0, 7, 7, 16, 13, 16, 10, 15, 18, 5, 16, 10, 15, 13, 11, 16, 13, 5, 5, 0, 16, 10, 1, 15, 2, 0, 1]

noncomputable def st1 (t : Array Nat) (lim s : Nat) (first must : Bool) (seen : Sre.Seen) : M :=
  { code := code1, text := t, lim, start := s, lastStart := lim, mustAdvance := must, pc := 5, pos := s, handed := s, outermost := first, marks := #[],
    frames := [{ wait := .nextStart, pc := 5, pos := s, outermost := first }], weight := 1, seen }

noncomputable def Found (s : Nat) (m : M) : Prop := (∃ x, m.outcome = some x ∧ (match x with | .matched => True | _ => False)) ∧ m.start = s ∧ m.handed = s + 1
noncomputable def NotFound (m : M) : Prop := ∃ x, m.outcome = some x ∧ (match x with | .failed => True | _ => False)

theorem at1 (t : Array Nat) (lim s : Nat) (first must : Bool) (seen : Sre.Seen) : (st1 t lim s first must seen).step =
    if (s == 0 || t.getD (s - 1) 0 == 10) = true then { st1 t lim s first must ((seen.add 6).add 44) with pc := 7 } else (st1 t lim s first must ((seen.add 6).add 44)).say false := rfl
theorem lit1 (t : Array Nat) (lim s : Nat) (first must : Bool) (seen : Sre.Seen) : ({ st1 t lim s first must seen with pc := 7 } : M).step =
    if s ≥ lim then ({ st1 t lim s first must (seen.add 16) with pc := 7 } : M).say false else
      if (t.getD s 0 == 46) = true then { st1 t lim s first must (seen.add 16) with pc := 9, pos := s + 1 } else ({ st1 t lim s first must (seen.add 16) with pc := 7 } : M).say false := by
  show (if s ≥ lim then _ else match (Except.ok (t.getD s 0 == 46, seen.add 16) : Except String (Bool × Sre.Seen)) with | .error why => _ | .ok (false, seen) => _ | .ok (true, seen) => _) = _
  split
  · rfl
  · cases h : (t.getD s 0 == 46) <;> rfl
theorem suc1 (t : Array Nat) (lim s : Nat) (first must : Bool) (seen : Sre.Seen) : ({ st1 t lim s first must seen with pc := 9, pos := s + 1 } : M).step = ({ st1 t lim s first must (seen.add 1) with pc := 9, pos := s + 1, handed := s + 1 } : M).say true := by
  show (if (first && ((false && (s + 1 != lim)) || (must && (s + 1 == s)))) = true then _ else _) = _
  have : (s + 1 == s) = false := by simp
  rw [this]
  cases first <;> cases must <;> rfl
theorem yes1 (t : Array Nat) (lim s : Nat) (first must : Bool) (seen : Sre.Seen) : Ends 2 (({ st1 t lim s first must seen with pc := 9, pos := s + 1, handed := s + 1 } : M).say true) (Found s) := by
  refine .step rfl (.step rfl (.now rfl ⟨⟨_, rfl, ?_⟩, rfl, rfl⟩))
  trivial
theorem no1 (t : Array Nat) (lim s p : Nat) (first must : Bool) (seen : Sre.Seen) : (({ st1 t lim s first must seen with pc := p } : M).say false).step =
    if s < lim then st1 t lim (s + 1) false false seen else ({ st1 t lim s first must seen with frames := [], weight := 0 } : M).say false := rfl
theorem over1 (m : M) (ha : m.answer = some false) (hf : m.frames = []) (ho : m.outcome = none) : Ends 1 m NotFound := by
  have e : m.step = { m with outcome := some .failed } := by
    obtain ⟨_, _, _, _, _, _, _, _, _, _, _, _, _, _, _, _, _, _, _, _⟩ := m
    simp only at ha hf ho
    subst ha hf ho
    rfl
  refine .step ho (.now (by rw [e]; rfl) ⟨.failed, by rw [e], trivial⟩)

noncomputable def nextD (P : Nat → Bool) : Nat → Nat → Option Nat
  | _, 0 => none
  | s, d + 1 => if P s then some s else nextD P (s + 1) d
noncomputable def Told (r : Option Nat) (m : M) : Prop := match r with | some s => Found s m | none => NotFound m
noncomputable def dotAt (t : Array Nat) (s : Nat) : Bool := (s == 0 || t.getD (s - 1) 0 == 10) && t.getD s 0 == 46

theorem search1 (t : Array Nat) (lim : Nat) : ∀ (d s : Nat) (first must : Bool) (seen : Sre.Seen), s + d = lim → Ends (3 * d + 6) (st1 t lim s first must seen) (Told (nextD (dotAt t) s d))
  | 0, s, first, must, seen, h => by
    have hs : s = lim := by lia
    have fin : ∀ p seen', Ends 3 (({ st1 t lim s first must seen' with pc := p } : M).say false) NotFound := fun p seen' => by
      refine .step rfl ?_
      rw [no1, if_neg (by lia)]
      exact (over1 _ rfl rfl rfl).mono (by lia)
    refine .step rfl ?_
    rw [at1]
    split
    · refine .step rfl ?_
      rw [lit1, if_pos (by lia)]
      exact (fin 7 _).mono (by lia)
    · exact (fin 5 _).mono (by lia)
  | d + 1, s, first, must, seen, h => by
    have go : ∀ p seen', dotAt t s = false → Ends (3 * d + 7) (({ st1 t lim s first must seen' with pc := p } : M).say false) (Told (nextD (dotAt t) s (d + 1))) := fun p seen' hd => by
      refine .step rfl ?_
      rw [no1, if_pos (by lia)]
      unfold nextD
      rw [hd]
      exact search1 t lim d (s + 1) false false seen' (by lia)
    refine Ends.mono (n := 3 * d + 9) ?_ (by lia)
    refine .step rfl ?_
    rw [at1]
    split
    · rename_i h1
      refine .step rfl ?_
      rw [lit1, if_neg (by lia)]
      split
      · rename_i h2
        have hd : dotAt t s = true := by unfold dotAt; rw [h1, h2]; rfl
        unfold nextD
        rw [hd]
        refine Ends.mono (n := 3) (.step rfl ?_) (by lia)
        rw [suc1]
        exact yes1 ..
      · rename_i h2
        exact go 7 _ (by unfold dotAt; rw [Bool.eq_false_iff.mpr h2]; simp)
    · rename_i h1
      exact (go 5 _ (by unfold dotAt; rw [Bool.eq_false_iff.mpr h1]; rfl)).mono (by lia)

theorem forSearch1 (t : Array Nat) (s : Nat) (hs : s ≤ t.size) : Ends (3 * (t.size - s) + 6) (forSearch code1 t 0 s t.size false) (Told (nextD (dotAt t) s (t.size - s))) := by
  by_cases h : s = t.size
  · have e : forSearch code1 t 0 s t.size false = { code := code1, text := t, lim := t.size, start := s, pc := 5, pos := s, handed := s, marks := #[], seen := ({} : Sre.Seen).add 14, answer := some false } := by
      show (if (decide (s > t.size) || decide (t.size - s < 1)) = true then _ else _) = _
      rw [if_pos (by simp; lia)]
      rfl
    rw [e, show t.size - s = 0 by lia]
    exact (over1 _ rfl rfl rfl).mono (by lia)
  · have e : forSearch code1 t 0 s t.size false = st1 t t.size s true false (({} : Sre.Seen).add 14) := by
      show (if (decide (s > t.size) || decide (t.size - s < 1)) = true then _ else _) = _
      rw [if_neg (by simp; lia)]
      rfl
    rw [e]
    exact search1 t t.size (t.size - s) s true false _ (by lia)

/-! the second one -/
noncomputable def st2 (t : Array Nat) (lim s : Nat) (first : Bool) (seen : Sre.Seen) : M :=
  { code := code2, text := t, lim, start := s, lastStart := lim, mustAdvance := false, pc := 10, pos := s, handed := s, outermost := first, marks := #[],
    frames := [{ wait := .nextStart, pc := 10, pos := s, outermost := first }], weight := 1, seen }
noncomputable def nlAt (t : Array Nat) (s : Nat) : Bool := t.getD s 0 == 10

theorem adm2 (m : M) (t : Array Nat) (lim : Nat) (hc : m.code = code2) (ht : m.text = t) (hl : m.lim = lim) (h13 : ∀ i, t.getD i 0 ≠ 13) : ∀ (d s fuel : Nat) (seen : Sre.Seen), s + d = lim → d < fuel →
    ∃ seen', M.admitted m fuel s seen = .ok (nextD (nlAt t) s d, seen') := by
  intro d
  induction d with
  | zero =>
    intro s fuel seen h hf
    cases fuel with
    | zero => lia
    | succ fuel =>
      refine ⟨seen, ?_⟩
      unfold M.admitted
      rw [if_pos (by lia)]
      rfl
  | succ d ih =>
    intro s fuel seen h hf
    cases fuel with
    | zero => lia
    | succ fuel =>
      have e : inSet m.code (m.text.getD s 0) m.code.size 5 true seen = if (t.getD s 0 == 10) = true then .ok (true, seen.add 16) else .ok (false, ((seen.add 16).add 16).add 0) := by
        rw [hc, ht]
        have h2 : (t.getD s 0 == 13) = false := by simpa using h13 s
        show (if (t.getD s 0 == 10) = true then _ else if (t.getD s 0 == 13) = true then _ else _) = _
        rw [h2]
        rfl
      unfold M.admitted
      rw [if_neg (by lia), e]
      unfold nextD nlAt
      by_cases hq : (t.getD s 0 == 10) = true
      · rw [if_pos hq, if_pos hq]
        exact ⟨_, rfl⟩
      · rw [if_neg hq, if_neg hq]
        exact ih (s + 1) fuel _ (by lia) (by lia)

noncomputable abbrev fr2 (s p : Nat) : Sre.Frame := { wait := .nextBranch, pc := p, pos := s, outermost := true, kept := { lastmark := -1, lastindex := -1, whole := false, marks := #[] } }
noncomputable abbrev fr0 (s : Nat) : Sre.Frame := { wait := .nextStart, pc := 10, pos := s, outermost := true }
noncomputable def b2 (t : Array Nat) (lim s pc pos handed p : Nat) (seen : Sre.Seen) : M :=
  { code := code2, text := t, lim, start := s, lastStart := lim, mustAdvance := false, pc, pos, handed, outermost := true, marks := #[], frames := [fr2 s p, fr0 s], weight := 2, seen }
theorem b2_1 (t : Array Nat) (lim s : Nat) (seen : Sre.Seen) : (st2 t lim s true seen).step = b2 t lim s 12 s s 11 (seen.add 7) := rfl
theorem b2_2 (t : Array Nat) (lim s : Nat) (seen : Sre.Seen) (hs : s < lim) (h : t.getD s 0 = 10) : (b2 t lim s 12 s s 11 seen).step = (b2 t lim s 12 s s 11 (seen.add 16)).say false := by
  show (if s ≥ lim then _ else match (Except.ok (t.getD s 0 == 13, seen.add 16) : Except String (Bool × Sre.Seen)) with | .error why => _ | .ok (false, seen) => _ | .ok (true, seen) => _) = _
  rw [if_neg (by lia), h]
  rfl
theorem b2_3 (t : Array Nat) (lim s : Nat) (seen : Sre.Seen) : ((b2 t lim s 12 s s 11 seen).say false).step = b2 t lim s 19 s s 18 seen := rfl
theorem b2_4 (t : Array Nat) (lim s : Nat) (seen : Sre.Seen) (hs : s < lim) (h : t.getD s 0 = 10) : (b2 t lim s 19 s s 18 seen).step = b2 t lim s 21 (s + 1) s 18 (seen.add 16) := by
  show (if s ≥ lim then _ else match (Except.ok (t.getD s 0 == 10, seen.add 16) : Except String (Bool × Sre.Seen)) with | .error why => _ | .ok (false, seen) => _ | .ok (true, seen) => _) = _
  rw [if_neg (by lia), h]
  rfl
theorem b2_5 (t : Array Nat) (lim s : Nat) (seen : Sre.Seen) : (b2 t lim s 21 (s + 1) s 18 seen).step = b2 t lim s 35 (s + 1) s 18 (seen.add 15) := rfl
theorem b2_6 (t : Array Nat) (lim s : Nat) (seen : Sre.Seen) : (b2 t lim s 35 (s + 1) s 18 seen).step = (b2 t lim s 35 (s + 1) (s + 1) 18 (seen.add 1)).say true := rfl
theorem run2 (t : Array Nat) (lim s : Nat) (seen : Sre.Seen) (hs : s < lim) (h : t.getD s 0 = 10) : Ends 16 (st2 t lim s true seen) (Found s) := by
  refine Ends.mono (n := 9) ?_ (by lia)
  refine .step rfl ?_
  rw [b2_1]
  refine .step rfl ?_
  rw [b2_2 _ _ _ _ hs h]
  refine .step rfl ?_
  rw [b2_3]
  refine .step rfl ?_
  rw [b2_4 _ _ _ _ hs h]
  refine .step rfl ?_
  rw [b2_5]
  refine .step rfl ?_
  rw [b2_6]
  refine .step rfl (.step rfl (.step rfl (.now rfl ⟨⟨_, rfl, ?_⟩, rfl, rfl⟩)))
  trivial
theorem nextD_some {P : Nat → Bool} : ∀ {d s r : Nat}, nextD P s d = some r → P r = true ∧ s ≤ r ∧ r < s + d
  | 0, _, _, h => by simp [nextD] at h
  | d + 1, s, r, h => by
    unfold nextD at h
    split at h
    · cases h; exact ⟨by assumption, Nat.le_refl _, by lia⟩
    · obtain ⟨h1, h2, h3⟩ := nextD_some h
      exact ⟨h1, by lia, by lia⟩
theorem forSearch2 (t : Array Nat) (s : Nat) (hs : s ≤ t.size) (h13 : ∀ i, t.getD i 0 ≠ 13) : Ends 16 (forSearch code2 t 0 s t.size false) (Told (nextD (nlAt t) s (t.size - s))) := by
  by_cases h : s = t.size
  · have e : forSearch code2 t 0 s t.size false = { code := code2, text := t, lim := t.size, start := s, pc := 10, pos := s, handed := s, marks := #[], seen := ({} : Sre.Seen).add 14, answer := some false } := by
      show (if (decide (s > t.size) || decide (t.size - s < 1)) = true then _ else _) = _
      rw [if_pos (by simp; lia)]
      rfl
    rw [e, show t.size - s = 0 by lia]
    exact (over1 _ rfl rfl rfl).mono (by lia)
  · let m0 : M := { code := code2, text := t, lim := t.size, start := s, lastStart := t.size, pc := 10, pos := s, handed := s, marks := #[], seen := ({} : Sre.Seen).add 14 }
    have e : forSearch code2 t 0 s t.size false = m0.attemptFrom s true := by
      show (if (decide (s > t.size) || decide (t.size - s < 1)) = true then _ else _) = _
      rw [if_neg (by simp; lia)]
      rfl
    obtain ⟨seen', ha⟩ := adm2 m0 t t.size rfl rfl rfl h13 (t.size - s) s (t.size + 1 - s) m0.seen (by lia) (by lia)
    rw [e]
    show Ends 16 (match M.admitted m0 (t.size + 1 - s) s m0.seen with | .ok (some s, seen) => _ | .ok (none, seen) => _ | .error why => _) _
    rw [ha]
    cases q : nextD (nlAt t) s (t.size - s) with
    | none => exact (over1 _ rfl rfl rfl).mono (by lia)
    | some r =>
      obtain ⟨h1, h2, h3⟩ := nextD_some q
      exact run2 t t.size r seen' (by lia) (by simpa [nlAt] using h1)
end Mine
end
section
open Builtin Builtin.Re
namespace Mine
open PySem.Sre

section
variable {prog : Program} {w : World} {A : Around} {E : Value → Shared → Prop} {s : Shared}

theorem drive_ok {P : M → Prop} {Q : M → Shared → Prop} : ∀ (turns : Nat) (m : M), Ends (4 * turns) m P → (m.outcome = none ∨ 0 < turns) → (∀ m', m'.outcome.isSome = true → P m' → Q m' s) → wpAny (model prog w) A (reDrive turns m) Q E s := by
  intro turns
  induction turns with
  | zero =>
    rintro m ⟨k, hk, h1, h2⟩ h0 hQ
    have : k = 0 := by lia
    subst this
    rcases h0 with h0 | h0
    · have : m.runFor 0 = m := rfl
      rw [this, h0] at h1; cases h1
    · lia
  | succ turns ih =>
    rintro m ⟨k, hk, h1, h2⟩ _ hQ
    show wpAny _ A (if (m.runFor reTurnSteps).outcome.isSome then pure (m.runFor reTurnSteps) else do rule "sre.turn"; reDrive turns (m.runFor reTurnSteps)) Q E s
    have e4 : reTurnSteps = 4 := rfl
    rw [e4]
    by_cases h : (m.runFor 4).outcome.isSome = true
    · rw [if_pos h]
      refine wpAny_pure (hQ _ h ?_)
      have : m.runFor k = m.runFor 4 := by
        rcases Nat.le_total k 4 with q | q
        · obtain ⟨j, hj⟩ := Nat.exists_eq_add_of_le q
          rw [hj, runFor_add, runFor_done h1]
        · obtain ⟨j, hj⟩ := Nat.exists_eq_add_of_le q
          rw [hj, runFor_add, runFor_done h]
      rw [← this]; exact h2
    · rw [if_neg h]
      have q : 4 < k := by
        rcases Nat.lt_or_ge 4 k with q | q
        · exact q
        · obtain ⟨j, hj⟩ := Nat.exists_eq_add_of_le q
          rw [hj, runFor_add, runFor_done h1] at h
          exact absurd h1 h
      obtain ⟨j, hj⟩ := Nat.exists_eq_add_of_le (Nat.le_of_lt q)
      rw [hj, runFor_add] at h1 h2
      have hn : (m.runFor 4).outcome = none := by
        cases z : (m.runFor 4).outcome with
        | none => rfl
        | some _ => rw [z] at h; simp at h
      exact wpAny_bind (wpAny_rule (ih _ ⟨j, by lia, h1, h2⟩ (.inl hn) hQ))

theorem rules_ok (seen : Sre.Seen) {Q : PUnit → Shared → Prop} : ∀ (l : List Nat), Q ⟨⟩ s → wpAny (model prog w) A (forIn l PUnit.unit (fun i _ => if seen.has i = true then rule (Sre.names.getD i "") >>= fun _ => pure (ForInStep.yield PUnit.unit) else pure (ForInStep.yield PUnit.unit))) Q E s
  | [], h => wpAny_pure h
  | i :: l, h => by
    rw [List.forIn_cons]
    refine wpAny_bind ?_
    by_cases hc : seen.has i = true
    · rw [if_pos hc]
      exact wpAny_bind (wpAny_rule (wpAny_pure (rules_ok seen l h)))
    · rw [if_neg hc]
      exact wpAny_pure (rules_ok seen l h)

theorem runToEnd_ok {m : M} {r : Option Nat} {n : Nat} {Q : Option M → Shared → Prop} (hn : n ≤ 65536) (h : Ends n m (Told r)) (hs : ∀ p, r = some p → ∀ m', m'.start = p → m'.handed = p + 1 → Q (some m') s) (h0 : r = none → Q none s) :
    wpAny (model prog w) A (reRunToEnd m) Q E s := by
  unfold reRunToEnd
  refine wpAny_bind (drive_ok (2 ^ 64) m (h.mono (Nat.le_trans hn (by decide))) (.inr (by decide)) fun m' h1 h2 => ?_)
  refine wpAny_bind (rules_ok m'.seen _ ?_)
  cases r with
  | none =>
    obtain ⟨x, e, hx⟩ := h2
    rw [e]
    cases x with
    | failed => exact wpAny_pure (h0 rfl)
    | matched => exact hx.elim
    | stuck _ => exact hx.elim
  | some p =>
    obtain ⟨⟨x, e, hx⟩, h3, h4⟩ := h2
    rw [e]
    cases x with
    | matched => exact wpAny_pure (hs p rfl m' h3 h4)
    | failed => exact hx.elim
    | stuck _ => exact hx.elim

structure PatAt (h : Heap) (p : Addr) (code : Array Nat) : Prop where
  obj : ∃ o fs c oc items k, h.get? p = some o ∧ o.cls = .type "re.Pattern" ∧ o.dict = none ∧ o.data = .fields fs ∧ fs.getD 6 .none = .int 0 0 ∧ fs.getD 2 .none = .int 0 0 ∧ fs.getD 5 .none = .ref c ∧ h.get? c = some oc ∧ oc.cls = .type "tuple" ∧ oc.data = .seq items k ∧ (items.map reRawOf).map (·.toNat) = code
theorem PatAt.keeps {h h' : Heap} {p : Addr} {code : Array Nat} (x : PatAt h p code) (k : ∀ b o, h.get? b = some o → h'.get? b = some o) : PatAt h' p code := by
  obtain ⟨o, fs, c, oc, items, kk, a1, a2, a3, a4, a5, a6, a7, a8, r⟩ := x.obj
  exact ⟨o, fs, c, oc, items, kk, k _ _ a1, a2, a3, a4, a5, a6, a7, k _ _ a8, r⟩

theorem target_ok {p : Addr} {code : Array Nat} {x : Str} {t : Tok} {Q : ReTarget → Shared → Prop} (h : PatAt s.heap p code)
    (hQ : Q { pattern := .ref p, string := .str x t, code, text := x.cps, kind := 0, groups := 0, pos := 0, lim := x.cps.size } s) : wpAny (model prog w) A (reWholeTarget (.ref p) (.str x t)) Q E s := by
  obtain ⟨o, fs, c, oc, items, k, h1, _, _, h2, h3, h4, h5, h6, _, h7, h8⟩ := h.obj
  unfold reWholeTarget
  refine wpAny_bind (wpAny_fieldsOf h1 h2 ?_)
  simp only [h3, h4, h5]
  show wpAny _ A (reRawItems (.ref c) >>= fun r => pure _) Q E s
  unfold reRawItems
  refine wpAny_bind (wpAny_bind (wpAny_seqItems h6 h7 (wpAny_pure (wpAny_pure ?_))))
  show Q { pattern := .ref p, string := .str x t, code := (items.map reRawOf).map (·.toNat), text := x.cps, kind := 0, groups := 0, pos := 0, lim := x.cps.size } s
  rw [h8]
  exact hQ
end
end Mine
end
section
open Builtin Builtin.Re
namespace Mine
open PySem.Sre

noncomputable def subL (P : Nat → Bool) (rp : List Nat) : Nat → List Nat → List Nat
  | _, [] => []
  | p, c :: r => (if P p then rp else [c]) ++ subL P rp (p + 1) r
theorem subL_cons (P : Nat → Bool) (rp : List Nat) (p c : Nat) (r : List Nat) : subL P rp p (c :: r) = (if P p then rp else [c]) ++ subL P rp (p + 1) r := rfl
theorem subL_none {P : Nat → Bool} {rp : List Nat} : ∀ {l : List Nat} {p : Nat}, nextD P p l.length = none → subL P rp p l = l
  | [], _, _ => rfl
  | c :: r, p, h => by
    rw [List.length_cons] at h
    unfold nextD at h
    split at h
    · cases h
    · rename_i hp
      rw [subL_cons, if_neg hp, subL_none h]; rfl
theorem subL_some {P : Nat → Bool} {rp : List Nat} : ∀ {l : List Nat} {p q : Nat}, nextD P p l.length = some q → subL P rp p l = l.take (q - p) ++ rp ++ subL P rp (q + 1) (l.drop (q + 1 - p))
  | [], _, _, h => by simp [nextD] at h
  | c :: r, p, q, h => by
    rw [List.length_cons] at h
    unfold nextD at h
    split at h
    · rename_i hp
      cases h
      rw [subL_cons, if_pos hp, Nat.sub_self, show p + 1 - p = 1 by lia]
      rfl
    · rename_i hp
      have hq := (nextD_some h).2.1
      rw [subL_cons, if_neg hp, subL_some h, show q - p = q - (p + 1) + 1 by lia, show q + 1 - p = q + 1 - (p + 1) + 1 by lia]
      simp

theorem join_cps : ∀ ts : List Str, (Str.join Str.empty ts).cps.toList = ts.flatMap (·.cps.toList)
  | [] => rfl
  | [x] => by simp [Str.join]
  | x :: y :: r => by
    show ((x ++ Str.empty) ++ Str.join Str.empty (y :: r)).cps.toList = _
    rw [Str.cps_append, Array.toList_append, join_cps (y :: r), Str.append_empty]
    simp

theorem entry_sub_loop : entryFor table "re.Pattern.sub.loop" = some Builtin.«re.Pattern.sub.loop» := entryFor_of_tree (by kernel_rfl)
theorem entry_sub : entryFor table "re.Pattern.sub" = some Builtin.«re.Pattern.sub» := entryFor_of_tree (by kernel_rfl)
theorem plain_sub_loop : plainId "re.Pattern.sub.loop" = true := by decide +kernel

noncomputable def Finds (code : Array Nat) (P : Nat → Bool) (t : Array Nat) : Prop := ∀ s, s ≤ t.size → Ends (3 * (t.size - s) + 20) (forSearch code t 0 s t.size false) (Told (nextD P s (t.size - s)))
theorem finds1 (t : Array Nat) : Finds code1 (dotAt t) t := fun s hs => (forSearch1 t s hs).mono (by lia)
theorem finds2 (t : Array Nat) (h13 : ∀ i, t.getD i 0 ≠ 13) : Finds code2 (nlAt t) t := fun s hs => (forSearch2 t s hs h13).mono (by lia)

section
variable {prog : Program} {w : World} {A : Around} {s : Shared} {R : Result → Shared → Prop}

theorem slice_sem {E : Value → Shared → Prop} {x : Str} {a b : Nat} {Q : Value → Shared → Prop} (hx : x.length ≤ 1000) (hQ : Q (.str ⟨x.cps.extract a b⟩ s.toks) { s with toks := s.toks + 1 }) : wpAny (model prog w) A (reSlice x.cps 0 a b) Q E s := by
  show wpAny _ A (mkStr ⟨x.cps.extract a b⟩) Q E s
  refine wpAny_mkStr hQ ?_
  show (x.cps.extract a b).size ≤ _
  rw [Array.size_extract]
  exact Nat.le_trans (Nat.sub_le _ _) (Nat.le_trans (Nat.min_le_right _ _) (Nat.le_trans hx (Nat.le_of_ble_eq_true rfl)))

noncomputable def SubOut (P : Nat → Bool) (x r : Str) (L : Addr) (R : Result → Shared → Prop) (s : Shared) (l : List (Str × Tok)) (q : Nat) : Prop :=
  ∀ h' tk out t', (∀ b o, b ≠ L → s.heap.get? b = some o → h'.get? b = some o) → out.cps.toList = (l.map (·.1)).flatMap (·.cps.toList) ++ subL P r.cps.toList q (x.cps.toList.drop q) → out.length ≤ sizeLine → R (.ok (.ret (.str out t'))) { s with heap := h', toks := tk }
noncomputable def subCode (p L : Addr) (x r : Str) (t u : Tok) (q : Nat) (n : Int) (b : Bool) : Code := .builtin "re.Pattern.sub.loop" ⟨[.ref p, .str x t, .str r u, rawInt 0, rawInt 0, rawInt n, rawInt q, rawInt q, .bool b, .ref L, .bool false], []⟩
noncomputable def Longs (l : List (Str × Tok)) : Prop := ∀ y ∈ l.map (·.1), y.length ≤ 1000
theorem Longs.push {l : List (Str × Tok)} {y : Str} {v : Tok} (h : Longs l) (hy : y.length ≤ 1000) : Longs (l ++ [(y, v)]) := by
  intro z hz
  simp only [List.map_append, List.map_cons, List.map_nil, List.mem_append, List.mem_singleton] at hz
  rcases hz with hz | rfl
  · exact h z hz
  · exact hy
noncomputable def But (L : Addr) (h h' : Heap) : Prop := ∀ b o, b ≠ L → h.get? b = some o → h'.get? b = some o
theorem But.trans {L : Addr} {h h' h'' : Heap} (a : But L h h') (b : But L h' h'') : But L h h'' := fun x o n q => b x o n (a x o n q)
noncomputable def ListIs (h : Heap) (L : Addr) (l : List (Str × Tok)) : Prop := ∃ k, h.get? L = some (listObj (strValues l) k)
theorem PatAt.but {h h' : Heap} {p L : Addr} {code : Array Nat} {l : List (Str × Tok)} (x : PatAt h p code) (hL : ListIs h L l) (k : But L h h') : PatAt h' p code := by
  obtain ⟨kk, hL⟩ := hL
  obtain ⟨o, fs, c, oc, items, k0, a1, a2, a3, a4, a5, a6, a7, a8, a9, r⟩ := x.obj
  have hp : p ≠ L := fun z => by subst z; rw [hL] at a1; cases a1; exact absurd (Value.type.inj a2) (by decide)
  have hc : c ≠ L := fun z => by subst z; rw [hL] at a8; cases a8; exact absurd (Value.type.inj a9) (by decide)
  exact ⟨o, fs, c, oc, items, k0, k _ _ hp a1, a2, a3, a4, a5, a6, a7, k _ _ hc a8, a9, r⟩
theorem push_str {A : Around} {E : Value → Shared → Prop} {L : Addr} {l : List (Str × Tok)} {y : Str} {v : Tok} {Q : Unit → Shared → Prop} (ho : ListIs s.heap L l) (hz : l.length ≤ 4000)
    (hq : ∀ h2, But L s.heap h2 → ListIs h2 L (l ++ [(y, v)]) → Q () { s with heap := h2 }) : wpAny (model prog w) A (updateSeq L fun x => x.push (.str y v)) Q E s := by
  obtain ⟨k, ho⟩ := ho
  have hzl : (strValues l).length = l.length := List.length_map _
  have hzz : l.length + 1 ≤ sizeLine := Nat.le_trans (Nat.succ_le_succ hz) (Nat.le_of_ble_eq_true rfl)
  refine wpAny_updateSeq ho rfl ?_ (by simp; lia) (by simp; lia)
  obtain ⟨k2, hk2⟩ := mapSeq_list (strValues l) k (fun x => x.push (.str y v))
  refine hq _ (fun b o hb q => (Heap.get?_update_other _ _ (Ne.symm hb)).trans q) ⟨k2, ?_⟩
  rw [Heap.get?_update_self _ ho (by rw [hk2]; rfl), hk2]
  simp [strValues]
theorem codeAny_entry {id : String} {args : Args} {b : Builtin} (hb : entryFor table id = some b)
    (h : ∀ A' Q E, (∀ f s', R (.ok f) s' → Q (.done f) s') → (∀ c' s', Code.quiet c' = true → codeAny (model prog w) A c' R s' → Q (.again c') s') → wpAny (model prog w) A' (b args) Q E s) : codeAny (model prog w) A (.builtin id args) R s :=
  codeAny_builtin hb (h _ _ _ (fun _ _ h => h) fun _ _ a b => ⟨a, b⟩)
theorem sub_mid {A : Around} {E : Value → Shared → Prop} {Q : Fin → Shared → Prop} {L : Addr} {x : Str} {q m : Nat} {l : List (Str × Tok)} {T : Sem Fin} (hx : x.length ≤ 1000) (hL : ListIs s.heap L l) (hl : Longs l) (hz : l.length ≤ 4000)
    (hT : ∀ h' tk l', But L s.heap h' → ListIs h' L l' → (l'.map (·.1)).flatMap (·.cps.toList) = (l.map (·.1)).flatMap (·.cps.toList) ++ (x.cps.toList.drop q).take (m - q) → Longs l' → l'.length ≤ l.length + 1 → wpAny (model prog w) A T Q E { s with heap := h', toks := tk }) :
    wpAny (model prog w) A (if q < m then (do let v ← reSlice x.cps 0 q m; updateSeq L (fun x => x.push v); T) else T) Q E s := by
  by_cases h : q < m
  · rw [if_pos h]
    refine wpAny_bind (slice_sem hx ?_)
    refine wpAny_bind (push_str hL hz fun h3 kb hL3 => ?_)
    refine hT h3 _ _ kb hL3 (by simp) (hl.push ?_) (by simp)
    show (x.cps.extract _ _).size ≤ _
    rw [Array.size_extract]
    exact Nat.le_trans (Nat.sub_le _ _) (Nat.le_trans (Nat.min_le_right _ _) hx)
  · rw [if_neg h]
    refine hT s.heap s.toks l (fun _ _ _ e => e) hL ?_ hl (Nat.le_succ _)
    rw [Nat.sub_eq_zero_of_le (Nat.le_of_not_lt h)]; simp
theorem sub_join {A : Around} {E : Value → Shared → Prop} {Q : Fin → Shared → Prop} {L : Addr} {x : Str} {l : List (Str × Tok)} (hx : x.length ≤ 1000) (hL : ListIs s.heap L l) (hl : Longs l) (hz : l.length ≤ 4000)
    (hT : ∀ tk out t', out.cps.toList = (l.map (·.1)).flatMap (·.cps.toList) → out.length ≤ sizeLine → Q (.done (.ret (.str out t'))) { s with toks := tk }) :
    wpAny (model prog w) A (do let joiner ← reSlice x.cps 0 0 0
                               let o ← seqItems? (.ref L)
                               if (o.getD #[]).isEmpty = true then (do let text ← pure joiner; ret text) else do
                                 let text ← call (.builtin "str.join") [joiner, .ref L]
                                 ret text) Q E s := by
  have hj : (⟨x.cps.extract 0 0⟩ : Str) = Str.empty := Str.ext' (by simp [Str.empty])
  obtain ⟨k, hL⟩ := hL
  refine wpAny_bind (slice_sem hx ?_)
  rw [hj]
  refine wpAny_bind (wpAny_seqItems hL rfl ?_)
  cases l with
  | nil => exact wpAny_bind (wpAny_pure (wpAny_pure (hT _ Str.empty _ rfl (Nat.zero_le _))))
  | cons y l =>
    show wpAny _ _ (do let text ← call (.builtin "str.join") [Value.str Str.empty _, .ref L]; ret text) _ _ _
    have ok : JoinOk Str.empty ((y :: l).map (·.1)) = true := by
      unfold JoinOk
      rw [Bool.not_eq_true']
      refine StrLaws.joinFits hl ?_
      have e1 : ((y :: l).map (·.1)).length * 1000 ≤ 4000 * 1000 := Nat.mul_le_mul (by simpa using hz) (Nat.le_refl _)
      have e2 : ((y :: l).map (·.1)).length * Str.empty.length = 0 := Nat.mul_zero _
      rw [e2, Nat.add_zero]
      exact Nat.le_trans e1 (Nat.le_of_ble_eq_true rfl)
    exact wpAny_bind (SC.join (l := y :: l) ⟨_, hL, rfl, k, rfl⟩ rfl ok fun t' tk' => wpAny_pure (hT tk' _ t' ((congrArg (fun z : Str => z.cps.toList) (glued_join _ _)).trans (join_cps _)) (joinOk_length ok)))

theorem sub_loop {code : Array Nat} {P : Nat → Bool} {p L : Addr} {x r : Str} {t u : Tok} (hx : x.length ≤ 1000) (hr : r.length ≤ 10) (hF : Finds code P x.cps) : ∀ (d q : Nat) (n : Int) (s : Shared) (l : List (Str × Tok)) (b : Bool),
    q + d = x.length → b = false → PatAt s.heap p code → ListIs s.heap L l → Longs l → l.length ≤ 2 * q → SubOut P x r L R s l q → codeAny (model prog w) A (subCode p L x r t u q n b) R s := by
  intro d
  induction d using Nat.strongRecOn with
  | ind d ih =>
    intro q n s l b hd hb hP hL hl hll hR
    subst hb
    have hq : q ≤ x.cps.size := Nat.le.intro hd
    have hz : l.length + 1 ≤ 4000 := Nat.le_trans (Nat.succ_le_succ (Nat.le_trans hll (Nat.mul_le_mul_left 2 (Nat.le_trans hq hx)))) (by decide)
    have hxl : (x.cps.toList.drop q).length = x.cps.size - q := List.length_drop
    refine codeAny_entry entry_sub_loop fun A' Q' E' hq1 hq2 => ?_
    unfold Builtin.«re.Pattern.sub.loop»
    refine wpAny_bind (target_ok hP ?_)
    show wpAny _ _ (reNextFound { pattern := .ref p, string := .str x t, code, text := x.cps, kind := 0, groups := 0, pos := 0, lim := x.cps.size } q false >>= _) _ _ s
    refine wpAny_bind (runToEnd_ok (n := 3 * (x.cps.size - q) + 20) (Nat.le_trans (Nat.add_le_add_right (Nat.mul_le_mul_left 3 (Nat.le_trans (Nat.sub_le _ _) hx)) 20) (by decide)) (hF q hq) (fun m e m' h1 h2 => ?_) fun e => ?_)
    · have hm := nextD_some e
      rw [← hxl] at e
      have es := subL_some (rp := r.cps.toList) e
      rw [List.drop_drop, show q + (m + 1 - q) = m + 1 from Nat.add_sub_of_le (Nat.le_succ_of_le hm.2.1)] at es
      show wpAny _ _ (if q < m'.start then (do let v ← reSlice x.cps 0 q m'.start; updateSeq L (fun x => x.push v); _) else _) _ _ s
      refine sub_mid (q := q) (m := m'.start) hx hL hl (Nat.le_of_succ_le hz) fun h' tk l' kb hL' hcat hl' hlen => ?_
      show wpAny _ _ (if (Value.str r u != Value.none) = true then _ else _) _ _ _
      rw [if_pos (by simp)]
      show wpAny _ _ (updateSeq L (fun x => x.push (.str r u)) >>= fun _ => again (subCode p L x r t u m'.handed (n + 1) (m'.handed == m'.start))) _ _ _
      rw [h2]
      refine wpAny_bind (push_str hL' (Nat.le_trans hlen hz) fun h3 kb3 hL3 => ?_)
      refine wpAny_pure (hq2 _ _ (Code.quiet_builtin _ (by decide +kernel)) ?_)
      have hlt : m + 1 ≤ x.length := by show _ ≤ x.cps.size; lia
      refine ih (x.length - (m + 1)) ?_ (m + 1) (n + 1) { s with heap := h3, toks := tk } (l' ++ [(r, u)]) _ (Nat.add_sub_of_le hlt) ?_ (hP.but hL (kb.trans kb3)) hL3 (hl'.push (Nat.le_trans hr (by decide))) ?_ ?_
      · lia
      · rw [h1]; simp
      · rw [List.length_append]; show _ + 1 ≤ _; lia
      · intro h4 tk4 out t' kb4 ho hoz
        refine hR h4 tk4 out t' ((kb.trans kb3).trans kb4) ?_ hoz
        rw [ho, es, List.map_append, List.flatMap_append, hcat, h1]
        simp
    · rw [← hxl] at e
      have es := subL_none (rp := r.cps.toList) e
      show wpAny _ _ (if q < x.cps.size then (do let v ← reSlice x.cps 0 q x.cps.size; updateSeq L (fun x => x.push v); _) else _) _ _ s
      refine sub_mid (q := q) (m := x.cps.size) hx hL hl (Nat.le_of_succ_le hz) fun h' tk l' kb hL' hcat hl' hlen => ?_
      refine sub_join hx hL' hl' (Nat.le_trans hlen hz) fun tk' out t' ho hoz => hq1 _ _ (hR h' tk' out t' kb ?_ hoz)
      rw [ho, hcat, es, ← hxl, List.take_length]
end
end Mine
end
section
open Builtin Builtin.Re
namespace Mine

theorem owner_pat : Manifest.owners.lookup (String.ofList ['n', 'r', 'e', 't', 't', 'a', 'P', '.', 'e', 'r'].reverse) = some Manifest.sig_re_Pattern := by kernel_rfl
theorem args_sub (a b c : Value) : argsOk "re.Pattern.sub" ⟨[a, b, c], []⟩ := by
  unfold argsOk; rw [signature?_of (id := "re.Pattern.sub") (n := ['b', 'u', 's']) (o := ['n', 'r', 'e', 't', 't', 'a', 'P', '.', 'e', 'r']) (by kernel_rfl) owner_pat]; kernel_rfl
theorem str_nocall : typeLookup (.type "str") "__call__" = pure none := by rw [typeLookup_type, builtinLookup_eq_fast]; kernel_rfl

theorem named_sub (a b : Value) : reNamed "re.Pattern.sub" "sub" ["repl", "string", "count"] 2 [a, b] [] = pure [some a, some b, none] := by rfl
section
variable {prog : Program} {w : World} {H : Heap} {n : Nat}

theorem sub_spec {code : Array Nat} {P : Nat → Bool} {p : Addr} {r x : Str} (hP : PatAt H p code) (hF : Finds code P x.cps) (hx : x.length ≤ 1000) (hr : r.length ≤ 10) (h92 : r.cps.contains 92 = false) (hra : asc r) (hxa : asc x)
    {out : Str} (ho : out.cps.toList = subL P r.cps.toList 0 x.cps.toList) :
    Spec prog w H n (.builtin "re.Pattern.sub") [.raw (.ref p), .str r, .str x] (.str out) := by
  refine ⟨fun _ => ?_, fun A s ow vs Q E hA hN hv hQ => ?_⟩
  · obtain ⟨o, fs, c, oc, items, kk, a1, a2, a3, _⟩ := hP.obj
    exact ⟨p, o, rfl, a1, a2, a3⟩
  have z : sizeLine = 16777216 := rfl
  unfold VRs at hv
  obtain ⟨v0, r0, rfl, e0, hv⟩ := hv
  unfold VRs at hv
  obtain ⟨v1, r1, rfl, e1, hv⟩ := hv
  unfold VRs at hv
  obtain ⟨v2, r2, rfl, e2, hv⟩ := hv
  unfold VRs at hv; subst hv
  unfold VR at e0 e1 e2
  subst e0
  obtain ⟨u, rfl, _⟩ := e1
  obtain ⟨t, rfl, _⟩ := e2
  have hPs : PatAt s.heap p code := hP.keeps hN.top
  obtain ⟨o, fs, c, oc, items, kk, a1, a2, _⟩ := id hPs.obj
  refine wpAny_call (codeAny_call_builtin slot_pat_sub.plain entry_sub (slot_pat_sub.check _ _ _ _ _ _ _ _ ⟨o, a1, a2⟩ (args_sub _ _ _) ?_))
  unfold Builtin.«re.Pattern.sub» reSubstitute
  show wpAny _ _ (reNamed "re.Pattern.sub" "sub" ["repl", "string", "count"] 2 [.str r u, .str x t] [] >>= _) _ _ s
  rw [named_sub]
  refine wpAny_bind (wpAny_pure ?_)
  show wpAny _ _ ((pure 0 : Sem Int) >>= _) _ _ s
  refine wpAny_bind (wpAny_pure ?_)
  show wpAny _ _ (specialOf (.str r u) "__call__" >>= _) _ _ s
  refine wpAny_bind (wpAny_specialOf (typeIs_str _ _ _) str_nocall ?_)
  show wpAny _ _ (if (!r.cps.contains 92) = true then (do let q ← pure (Value.str r u, 0); _) else _) _ _ s
  rw [if_pos (by rw [h92]; rfl)]
  show wpAny _ _ (holding [Value.str r u] (reWholeTarget (.ref p) (.str x t)) >>= _) _ _ s
  refine wpAny_bind (wpAny_holding (target_ok hPs ?_))
  show wpAny _ _ (newList [] >>= fun l => again (.builtin "re.Pattern.sub.loop" ⟨[.ref p, .str x t, .str r u, rawInt 0, rawInt 0, rawInt 0, rawInt 0, rawInt 0, .bool false, l, .bool false], []⟩)) _ _ s
  refine wpAny_bind (wpAny_newList ?_ (by show 0 ≤ _; lia))
  refine wpAny_pure ⟨Code.quiet_builtin _ (by decide +kernel), ?_⟩
  refine sub_loop (l := []) hx hr hF x.length 0 0 _ false (by lia) rfl (hPs.keeps (push_keep _ _)) ⟨0, Heap.get?_push_size _ rfl⟩ (fun y hy => by simp at hy) (by simp) fun h' tk out' t' kb he hz => ?_
  have hoo : out' = out := Str.ext' (by
    have : out'.cps.toList = out.cps.toList := by rw [he, ho]; simp
    exact Array.toList_inj.mp this)
  subst hoo
  refine hQ _ _ h' tk rfl (fun b o' q => kb b o' (fun z => by subst z; rw [get_none_size] at q; cases q) (push_keep _ _ _ _ q)) ?_
  unfold VR
  refine ⟨t', rfl, hz, fun ch hch => ?_⟩
  rw [ho] at hch
  have gen : ∀ (l : List Nat) (q : Nat), (∀ c ∈ l, c < 128) → ch ∈ subL P r.cps.toList q l → ch < 128 := by
    intro l
    induction l with
    | nil => intro q _ h; cases h
    | cons c l ih =>
      intro q hl h
      rw [subL_cons] at h
      rcases List.mem_append.mp h with h | h
      · split at h
        · exact hra _ h
        · rw [List.mem_singleton] at h; subst h; exact hl _ List.mem_cons_self
      · exact ih _ (fun c hc => hl c (List.mem_cons_of_mem _ hc)) h
  exact gen _ 0 hxa hch
end
end Mine
end
section
namespace Mine

structure Ad where
  fm : Addr
  ifmt : Addr
  qd : Addr
  twc : Addr
  sld : Addr
  r1 : Addr
  r2 : Addr
noncomputable def ent (b : Int) (c : Str) : PV := .tup [.int b, .str c]
noncomputable def tabR : List (List PV) := [[ent 40960 "l", ent 49152 "s", ent 32768 "-", ent 24576 "b", ent 16384 "d", ent 8192 "c", ent 4096 "p"], [ent 256 "r"], [ent 128 "w"], [ent 2112 "s", ent 2048 "S", ent 64 "x"],
  [ent 32 "r"], [ent 16 "w"], [ent 1032 "s", ent 1024 "S", ent 8 "x"], [ent 4 "r"], [ent 2 "w"], [ent 513 "t", ent 512 "T", ent 1 "x"]]
noncomputable def gt (a : Ad) (ex : List (Str × PV)) : List (Str × PV) 
  := ([("len", .raw (.builtin "len")), ("sum", .raw (.builtin "sum")), ("max", .raw (.builtin "max")), ("range", .raw (.type "range")), ("list", .raw (.type "list")), ("enumerate", .raw (.type "enumerate")),
  ("filemode", .raw (.ref a.fm)), ("S_IFREG", .int 32768), ("S_IFMT", .raw (.ref a.ifmt)), ("quotedata", .raw (.ref a.qd)), ("three_way_cmp", .raw (.ref a.twc)), ("sorted_list_difference", .raw (.ref a.sld)),
  ("_filemode_table", .tup (tabR.map .tup)), ("_twin_re_1", .raw (.ref a.r1)), ("_twin_re_2", .raw (.ref a.r2)), ("CRLF", .str "\r\n"), ("sorted", .raw (.builtin "sorted")), ("IndexError", .raw (.type "IndexError"))] : List (Str × PV)) ++ ex

noncomputable def ΓTwc : Cx := [("x", .loc), ("y", .loc)]
noncomputable def gnTwc : List Str := []
noncomputable def bTwc : Bs := (.cons (.ret (.bin .Sub (.cmp .Gt (.var 0) (.var 1)) (.cmp .Lt (.var 0) (.var 1))))
  .nil)

noncomputable def ΓQd : Cx := [("data", .loc)]
noncomputable def gnQd : List Str := ["_twin_re_1", "_twin_re_2", "CRLF"]
noncomputable def bQd : Bs := (.cons (.ret (.meth (.glob 13) "sub" (.cons (.const (.str "..")) (.cons (.meth (.glob 14) "sub" (.cons (.glob 15) (.cons (.var 0) .nil))) .nil))))
  .nil)

noncomputable def ΓIfmt : Cx := [("mode", .loc)]
noncomputable def gnIfmt : List Str := []
noncomputable def bIfmt : Bs := (.cons (.ret (.bin .BitAnd (.var 0) (.const (.int 61440))))
  .nil)

noncomputable def ΓFm : Cx := [("mode", .loc), ("perm", .loc), ("index", .loc), ("table", .loc), ("bit", .loc), ("char", .loc)]
noncomputable def gnFm : List Str := ["enumerate", "_filemode_table", "S_IFMT"]
noncomputable def bFm : Bs := (.cons (.own 1 (.list .nil))
  (.cons (.enum 5 (.many [2, 3]) (.glob 12)
    (.cons (.loop (.many [4, 5]) (.var 3)
      (.cons (.ife (.cmp .Eq (.var 2) (.const (.int 0)))
        (.cons (.ife (.cmp .Eq (.call (.glob 8) (.cons (.var 0) .nil)) (.var 4))
          (.cons (.app 1 (.var 5))
          (.cons .brk
          .nil))
          .nil)
        .nil)
        (.cons (.ife (.cmp .Eq (.bin .BitAnd (.var 0) (.var 4)) (.var 4))
          (.cons (.app 1 (.var 5))
          (.cons .brk
          .nil))
          .nil)
        .nil))
      .nil)
      (.cons (.ife (.cmp .Eq (.var 2) (.const (.int 0)))
        (.cons (.app 1 (.const (.str "?")))
        .nil)
        (.cons (.app 1 (.const (.str "-")))
        .nil))
      .nil))
    .nil)
    .nil)
  (.cons (.ret (.meth (.const (.str "")) "join" (.cons (.var 1) .nil)))
  .nil)))

section
variable {a : Ad} {ex : List (Str × PV)} {SP SX : Value → List PV → PV → Prop}

noncomputable def twc (x y : Str) : Int := b2i (decide (y.cps.toList < x.cps.toList)) - b2i (decide (x.cps.toList < y.cps.toList))
theorem ev_twc (x y : Str) : evB (gt a ex) SP SX bTwc (φ0 ΓTwc [.str x, .str y]) ⟨fun _ => False, fun pv => pv = .int (twc x y), fun _ => False⟩ := by
  show evB (gt a ex) SP SX bTwc [.val (.str x), .val (.str y)] _
  simp only [bTwc, ↓evB_nil_, ↓evB_cons, ↓evS_asg, ↓evS_own, ↓evS_swap, ↓evS_app, ↓evS_loop, ↓evS_enum, ↓evS_ife, ↓evS_ret, ↓evS_brk, ↓evS_ifX, ↓evE_const, ↓evE_var, ↓evE_glob, ↓evE_bin, ↓evE_cmp, ↓evE_ife, ↓evE_call, ↓evE_lenv, ↓evE_meth, ↓evE_sub, ↓evE_subv, ↓evE_slc, ↓evE_list, ↓evE_tup, ↓evE_comp, List.getElem?_cons_zero, List.getElem?_cons_succ, ↓cmpop_Lt, ↓cmpop_Gt, ↓ltP_int, ↓ltP_str, ↓gtP_int, ↓gtP_str, intsP, ↓onInt_int, ↓onStr_str, ↓onLst_list, ↓binop_Add, ↓binop_Sub, ↓binop_Mult, ↓binop_Mod, ↓binop_BitAnd, ↓addP_int, ↓addP_str, ↓addP_list, ↓subP_int, ↓subP_bool, ↓mulP_str, ↓onBl_bool, twc]

theorem ev_ifmt (m : Int) : evB (gt a ex) SP SX bIfmt (φ0 ΓIfmt [.int m]) ⟨fun _ => False, fun pv => pv = .int (Builtin.bitAnd m 61440), fun _ => False⟩ := by
  show evB (gt a ex) SP SX bIfmt [.val (.int m)] _
  simp only [bIfmt, ↓evB_nil_, ↓evB_cons, ↓evS_asg, ↓evS_own, ↓evS_swap, ↓evS_app, ↓evS_loop, ↓evS_enum, ↓evS_ife, ↓evS_ret, ↓evS_brk, ↓evS_ifX, ↓evE_const, ↓evE_var, ↓evE_glob, ↓evE_bin, ↓evE_cmp, ↓evE_ife, ↓evE_call, ↓evE_lenv, ↓evE_meth, ↓evE_sub, ↓evE_subv, ↓evE_slc, ↓evE_list, ↓evE_tup, ↓evE_comp, List.getElem?_cons_zero, List.getElem?_cons_succ, ↓binop_Add, ↓binop_Sub, ↓binop_Mult, ↓binop_Mod, ↓binop_BitAnd, ↓addP_int, ↓addP_str, ↓addP_list, ↓subP_int, ↓subP_bool, ↓mulP_str, intsP, ↓onInt_int, ↓onStr_str, ↓onLst_list, ↓onBl_bool]

theorem ev_qd {x y z : Str} (h2 : SP (.builtin "re.Pattern.sub") [.raw (.ref a.r2), .str "\r\n", .str x] (.str y)) (h1 : SP (.builtin "re.Pattern.sub") [.raw (.ref a.r1), .str "..", .str y] (.str z)) :
    evB (gt a ex) SP SX bQd (φ0 ΓQd [.str x]) ⟨fun _ => False, fun pv => pv = .str z, fun _ => False⟩ := by
  show evB (gt a ex) SP SX bQd [.val (.str x)] _
  have g13 : (gt a ex)[13]? = some (("_twin_re_1" : Str), PV.raw (.ref a.r1)) := rfl
  have g14 : (gt a ex)[14]? = some (("_twin_re_2" : Str), PV.raw (.ref a.r2)) := rfl
  have g15 : (gt a ex)[15]? = some (("CRLF" : Str), PV.str "\r\n") := rfl
  simp only [bQd, ↓evB_nil_, ↓evB_cons, ↓evS_asg, ↓evS_own, ↓evS_swap, ↓evS_app, ↓evS_loop, ↓evS_enum, ↓evS_ife, ↓evS_ret, ↓evS_brk, ↓evS_ifX, ↓evE_const, ↓evE_var, ↓evE_glob, ↓evE_bin, ↓evE_cmp, ↓evE_ife, ↓evE_call, ↓evE_lenv, ↓evE_meth, ↓evE_sub, ↓evE_subv, ↓evE_slc, ↓evE_list, ↓evE_tup, ↓evE_comp, ↓evEs_nil, ↓evEs_cons, List.getElem?_cons_zero, g13, g14, g15, ↓methOk_raw, ↓methOk_list, ↓methOk_str, ↓meth_raw, ↓meth_list, ↓meth_str]
  exact ⟨⟨trivial, _, _, h1⟩, ⟨trivial, _, _, h2⟩, trivial, _, h2, trivial, _, h1, rfl⟩
end
end Mine
end
section
namespace Mine

theorem cmp_int {a b : Int} {K : Bool → Prop} (h : K (a == b)) : cmpop .Eq (.int a) (.int b) K := by
  refine ⟨.int a, .int b, rfl, rfl, Nat.le_trans (Nat.min_le_left _ _) (by show (0:Nat) ≤ 8 ; decide), ?_⟩
  have : PyData.eqv (.int a) (.int b) = (a == b) := rfl
  rw [this]; exact h

noncomputable def bIn : Bs := (.cons (.ife (.cmp .Eq (.var 2) (.const (.int 0)))
        (.cons (.ife (.cmp .Eq (.call (.glob 8) (.cons (.var 0) .nil)) (.var 4))
          (.cons (.app 1 (.var 5))
          (.cons .brk
          .nil))
          .nil)
        .nil)
        (.cons (.ife (.cmp .Eq (.bin .BitAnd (.var 0) (.var 4)) (.var 4))
          (.cons (.app 1 (.var 5))
          (.cons .brk
          .nil))
          .nil)
        .nil))
      .nil)
noncomputable def bEl : Bs := (.cons (.ife (.cmp .Eq (.var 2) (.const (.int 0)))
        (.cons (.app 1 (.const (.str "?")))
        .nil)
        (.cons (.app 1 (.const (.str "-")))
        .nil))
      .nil)
theorem bFm_eq : bFm = (.cons (.own 1 (.list .nil)) (.cons (.enum 5 (.many [2, 3]) (.glob 12) (.cons (.loop (.many [4, 5]) (.var 3) bIn bEl) .nil) .nil) (.cons (.ret (.meth (.const (.str "")) "join" (.cons (.var 1) .nil))) .nil))) := rfl

noncomputable def pick (m : Int) (rows : List (Int × Str)) : Str := match rows.find? fun r => Builtin.bitAnd m r.1 == r.1 with
  | some r => r.2
  | none => "-"
noncomputable def pick0 (rows : List (Int × Str)) : Str := match rows.find? fun r => (32768 : Int) == r.1 with
  | some r => r.2
  | none => "?"
noncomputable abbrev ff (m : Int) (p : List PV) (a b c d : Slot) : Frame := [.val (.int m), .own p, a, b, c, d]

theorem loopF_step {turn : PV → Frame → (Frame → Prop) → Prop} {v : PV} {vs : List PV} {φ : Frame} {done : Frame → Prop} (N : Frame → Prop) (h1 : ∀ nxt : Frame → Prop, (∀ ψ, N ψ → nxt ψ) → turn v φ nxt)
    (h2 : ∀ ψ, N ψ → loopF turn vs ψ done) : loopF turn (v :: vs) φ done := h1 _ h2
section
variable {a : Ad} {ex : List (Str × PV)} {SP SX : Value → List PV → PV → Prop}

theorem in_ok {m i : Int} {p : List PV} {s3 : Slot} {k : Ks} (hi : (i == 0) = false) (hp : p.length ≤ 1000) : ∀ (rows : List (Int × Str)) (s4 s5 : Slot),
    (∀ s4 s5, k.n (ff m (p ++ [.str (pick m rows)]) (.val (.int i)) s3 s4 s5)) →
    loopF (fun v φ nxt => asg (.many [4, 5]) v φ fun φ => evB (gt a ex) SP SX bIn φ ⟨nxt, k.r, k.n⟩) (rows.map fun r => ent r.1 r.2) (ff m p (.val (.int i)) s3 s4 s5) fun φ => evB (gt a ex) SP SX bEl φ k
  | [], s4, s5, h => by
    simp only [List.map_nil, loopF, bEl, ↓evB_nil_, ↓evB_cons, ↓evS_asg, ↓evS_own, ↓evS_swap, ↓evS_app, ↓evS_loop, ↓evS_enum, ↓evS_ife, ↓evS_ret, ↓evS_brk, ↓evS_ifX, ↓evT_cmp, ↓evT_call, ↓evT_const, ↓evT_var, ↓evT_glob, ↓evT_bin, ↓evT_ife, ↓evT_lenv, ↓evT_meth, ↓evT_sub, ↓evT_subv, ↓evT_slc, ↓evT_list, ↓evT_tup, ↓evT_comp, ↓evE_const, ↓evE_var, ↓evE_glob, ↓evE_bin, ↓evE_cmp, ↓evE_ife, ↓evE_call, ↓evE_lenv, ↓evE_meth, ↓evE_sub, ↓evE_subv, ↓evE_slc, ↓evE_list, ↓evE_tup, ↓evE_comp, List.getElem?_cons_zero, List.getElem?_cons_succ]
    refine cmp_int ?_
    rw [hi]
    refine ⟨nofun, fun _ => ?_⟩
    exact ⟨by trivial, by lia, h s4 s5⟩
  | (b, c) :: rows, s4, s5, h => by
    refine loopF_step (fun ψ => (Builtin.bitAnd m b == b) = false ∧ ∃ s4 s5, ψ = ff m p (.val (.int i)) s3 s4 s5) (fun nxt hn => ?_) ?_
    rotate_left
    · rintro ψ ⟨hc, s4, s5, rfl⟩
      have : pick m ((b, c) :: rows) = pick m rows := by simp [pick, hc]
      rw [this] at h
      exact in_ok hi hp rows _ _ h
    simp only [bIn, ↓evB_nil_, ↓evB_cons, ↓evS_asg, ↓evS_own, ↓evS_swap, ↓evS_app, ↓evS_loop, ↓evS_enum, ↓evS_ife, ↓evS_ret, ↓evS_brk, ↓evS_ifX, ↓evT_cmp, ↓evT_call, ↓evT_const, ↓evT_var, ↓evT_glob, ↓evT_bin, ↓evT_ife, ↓evT_lenv, ↓evT_meth, ↓evT_sub, ↓evT_subv, ↓evT_slc, ↓evT_list, ↓evT_tup, ↓evT_comp, ↓evE_const, ↓evE_var, ↓evE_glob, ↓evE_bin, ↓evE_cmp, ↓evE_ife, ↓evE_call, ↓evE_lenv, ↓evE_meth, ↓evE_sub, ↓evE_subv, ↓evE_slc, ↓evE_list, ↓evE_tup, ↓evE_comp, ↓asg_one, ↓asg_many, ent]
    refine ⟨[.int b, .str c], .inr rfl, rfl, ?_⟩
    simp only [↓setAll_cons, ↓setAll_nil, List.set_cons_zero, List.set_cons_succ, List.getElem?_cons_zero, List.getElem?_cons_succ]
    refine cmp_int ?_
    rw [hi]
    refine ⟨nofun, fun _ => ?_⟩
    simp only [↓binop_Add, ↓binop_Sub, ↓binop_Mult, ↓binop_Mod, ↓binop_BitAnd, ↓addP_int, ↓addP_str, ↓addP_list, ↓subP_int, ↓subP_bool, ↓mulP_str, intsP, ↓onInt_int, ↓onStr_str, ↓onLst_list, ↓onBl_bool]
    refine cmp_int ?_
    cases hc : (Builtin.bitAnd m b == b) with
    | true =>
      refine ⟨fun _ => ?_, nofun⟩
      have : pick m ((b, c) :: rows) = c := by simp [pick, List.find?_cons, hc]
      rw [this] at h
      exact ⟨by trivial, by lia, h _ _⟩
    | false =>
      refine ⟨nofun, fun _ => hn _ ⟨hc, _, _, rfl⟩⟩

theorem in0_ok {m : Int} {p : List PV} {s3 : Slot} {k : Ks} (hS : SP (.ref a.ifmt) [.int m] (.int 32768)) (hp : p.length ≤ 1000) : ∀ (rows : List (Int × Str)) (s4 s5 : Slot),
    (∀ s4 s5, k.n (ff m (p ++ [.str (pick0 rows)]) (.val (.int 0)) s3 s4 s5)) →
    loopF (fun v φ nxt => asg (.many [4, 5]) v φ fun φ => evB (gt a ex) SP SX bIn φ ⟨nxt, k.r, k.n⟩) (rows.map fun r => ent r.1 r.2) (ff m p (.val (.int 0)) s3 s4 s5) fun φ => evB (gt a ex) SP SX bEl φ k
  | [], s4, s5, h => by
    simp only [List.map_nil, loopF, bEl, ↓evB_nil_, ↓evB_cons, ↓evS_asg, ↓evS_own, ↓evS_swap, ↓evS_app, ↓evS_loop, ↓evS_enum, ↓evS_ife, ↓evS_ret, ↓evS_brk, ↓evS_ifX, ↓evT_cmp, ↓evT_call, ↓evT_const, ↓evT_var, ↓evT_glob, ↓evT_bin, ↓evT_ife, ↓evT_lenv, ↓evT_meth, ↓evT_sub, ↓evT_subv, ↓evT_slc, ↓evT_list, ↓evT_tup, ↓evT_comp, ↓evE_const, ↓evE_var, ↓evE_glob, ↓evE_bin, ↓evE_cmp, ↓evE_ife, ↓evE_call, ↓evE_lenv, ↓evE_meth, ↓evE_sub, ↓evE_subv, ↓evE_slc, ↓evE_list, ↓evE_tup, ↓evE_comp, List.getElem?_cons_zero, List.getElem?_cons_succ]
    refine cmp_int ⟨fun _ => ?_, nofun⟩
    exact ⟨by trivial, by lia, h s4 s5⟩
  | (b, c) :: rows, s4, s5, h => by
    have g8 : (gt a ex)[8]? = some (("S_IFMT" : Str), PV.raw (.ref a.ifmt)) := rfl
    refine loopF_step (fun ψ => ((32768 : Int) == b) = false ∧ ∃ s4 s5, ψ = ff m p (.val (.int 0)) s3 s4 s5) (fun nxt hn => ?_) ?_
    rotate_left
    · rintro ψ ⟨hc, s4, s5, rfl⟩
      have : pick0 ((b, c) :: rows) = pick0 rows := by simp [pick0, hc]
      rw [this] at h
      exact in0_ok hS hp rows _ _ h
    simp only [bIn, ↓evB_nil_, ↓evB_cons, ↓evS_asg, ↓evS_own, ↓evS_swap, ↓evS_app, ↓evS_loop, ↓evS_enum, ↓evS_ife, ↓evS_ret, ↓evS_brk, ↓evS_ifX, ↓evT_cmp, ↓evT_call, ↓evT_const, ↓evT_var, ↓evT_glob, ↓evT_bin, ↓evT_ife, ↓evT_lenv, ↓evT_meth, ↓evT_sub, ↓evT_subv, ↓evT_slc, ↓evT_list, ↓evT_tup, ↓evT_comp, ↓evE_const, ↓evE_var, ↓evE_glob, ↓evE_bin, ↓evE_cmp, ↓evE_ife, ↓evE_call, ↓evE_lenv, ↓evE_meth, ↓evE_sub, ↓evE_subv, ↓evE_slc, ↓evE_list, ↓evE_tup, ↓evE_comp, ↓evEs_nil, ↓evEs_cons, ↓asg_one, ↓asg_many, ent]
    refine ⟨[.int b, .str c], .inr rfl, rfl, ?_⟩
    simp only [↓setAll_cons, ↓setAll_nil, List.set_cons_zero, List.set_cons_succ, List.getElem?_cons_zero, List.getElem?_cons_succ, g8, ↓app_ref, ↓app_builtin, ↓app_type, ↓arg1_one, ↓lenOf_list, ↓lenOf_str, ↓listOf_list, ↓listOf_rng, maxP, max1, max2]
    refine cmp_int ⟨fun _ => ?_, nofun⟩
    refine ⟨_, hS, cmp_int ?_⟩
    cases hc : ((32768 : Int) == b) with
    | true =>
      refine ⟨fun _ => ?_, nofun⟩
      have : pick0 ((b, c) :: rows) = c := by simp [pick0, List.find?_cons, hc]
      rw [this] at h
      exact ⟨by trivial, by lia, h _ _⟩
    | false =>
      refine ⟨nofun, fun _ => hn _ ⟨hc, _, _, rfl⟩⟩
end
end Mine
end
section
namespace Mine

noncomputable def tabN : List (List (Int × Str)) := [[(256, "r")], [(128, "w")], [(2112, "s"), (2048, "S"), (64, "x")], [(32, "r")], [(16, "w")], [(1032, "s"), (1024, "S"), (8, "x")], [(4, "r")], [(2, "w")], [(513, "t"), (512, "T"), (1, "x")]]
noncomputable def tab0 : List (Int × Str) := [(40960, "l"), (49152, "s"), (32768, "-"), (24576, "b"), (16384, "d"), (8192, "c"), (4096, "p")]
noncomputable def rowP (r : List (Int × Str)) : PV := .tup (r.map fun r => ent r.1 r.2)
theorem tabR_eq : tabR.map PV.tup = (tab0 :: tabN).map rowP := rfl
noncomputable def sgn (k b : Nat) (c : Str) : Str := if k.testBit b then c else "-"
noncomputable def signs (k : Nat) : List Str := ["-", sgn k 8 "r", sgn k 7 "w", sgn k 6 "x", sgn k 5 "r", sgn k 4 "w", sgn k 3 "x", sgn k 2 "r", sgn k 1 "w", sgn k 0 "x"]
theorem picks : ∀ k < 512, (pick0 tab0 :: tabN.map (pick ((32768 + k : Nat) : Int))) = signs k := by decide +kernel
theorem ifmts : ∀ k < 512, Builtin.bitAnd ((32768 + k : Nat) : Int) 61440 = 32768 := by decide +kernel
noncomputable def fmode (k : Nat) : Str := Str.join Str.empty (signs k)

section
variable {a : Ad} {ex : List (Str × PV)} {SP SX : Value → List PV → PV → Prop}
theorem tabs_ok {m : Int} {kr : PV → Prop} {kn : Frame → Prop} {D : Frame → Prop} : ∀ (ts : List (List (Int × Str))) (i : Nat) (p : List PV) (s2 s3 s4 s5 : Slot), 0 < i → p.length + ts.length ≤ 1000 → (∀ s2 s3 s4 s5, D (ff m (p ++ ts.map fun t => .str (pick m t)) s2 s3 s4 s5)) →
    loopF (fun v φ nxt => asg (.many [2, 3]) v φ fun φ => evB (gt a ex) SP SX (.cons (.loop (.many [4, 5]) (.var 3) bIn bEl) .nil) φ ⟨nxt, kr, kn⟩) (((ts.map rowP).zipIdx i).map fun p => .tup [.int p.2, p.1]) (ff m p s2 s3 s4 s5) D
  | [], i, p, s2, s3, s4, s5, _, _, h => by
    have := h s2 s3 s4 s5
    simpa [loopF] using this
  | t :: ts, i, p, s2, s3, s4, s5, hi, hp, h => by
    refine loopF_step (fun ψ => ∃ s2 s3 s4 s5, ψ = ff m (p ++ [.str (pick m t)]) s2 s3 s4 s5) (fun nxt hn => ?_) ?_
    rotate_left
    · rintro ψ ⟨s2, s3, s4, s5, rfl⟩
      refine tabs_ok ts (i + 1) _ s2 s3 s4 s5 (by lia) (by simp at hp ⊢; lia) fun s2 s3 s4 s5 => ?_
      have := h s2 s3 s4 s5
      simpa using this
    simp only [↓evB_nil_, ↓evB_cons, ↓evS_asg, ↓evS_own, ↓evS_swap, ↓evS_app, ↓evS_loop, ↓evS_enum, ↓evS_ife, ↓evS_ret, ↓evS_brk, ↓evS_ifX, ↓evE_const, ↓evE_var, ↓evE_glob, ↓evE_bin, ↓evE_cmp, ↓evE_ife, ↓evE_call, ↓evE_lenv, ↓evE_meth, ↓evE_sub, ↓evE_subv, ↓evE_slc, ↓evE_list, ↓evE_tup, ↓evE_comp, ↓asg_one, ↓asg_many]
    refine ⟨[.int i, rowP t], .inr rfl, rfl, ?_⟩
    simp only [↓setAll_cons, ↓setAll_nil, List.set_cons_zero, List.set_cons_succ, List.getElem?_cons_zero, List.getElem?_cons_succ, rowP]
    have hne : ((i : Int) == 0) = false := by simp; lia
    exact ⟨_, rfl, in_ok (k := ⟨nxt, kr, kn⟩) hne (by simp at hp; lia) t s4 s5 fun s4 s5 => hn _ ⟨_, _, _, _, rfl⟩⟩

theorem ev_fm {k : Nat} (hk : k < 512) (hS : SP (.ref a.ifmt) [.int ((32768 + k : Nat) : Int)] (.int 32768)) (hJ : SP (.builtin "str.join") [.str "", .list ((signs k).map PV.str)] (.str (fmode k))) :
    evB (gt a ex) SP SX bFm (φ0 ΓFm [.int ((32768 + k : Nat) : Int)]) ⟨fun _ => False, fun pv => pv = .str (fmode k), fun _ => False⟩ := by
  have g5 : (gt a ex)[5]? = some (("enumerate" : Str), PV.raw (.type "enumerate")) := rfl
  have g12 : (gt a ex)[12]? = some (("_filemode_table" : Str), PV.tup (tabR.map .tup)) := rfl
  generalize hm : ((32768 + k : Nat) : Int) = m at hS
  show evB (gt a ex) SP SX bFm [.val (.int m), .unb, .unb, .unb, .unb, .unb] _
  rw [bFm_eq]
  rw [evB_cons, evS_own]
  simp only [↓evE_const, ↓evE_var, ↓evE_glob, ↓evE_bin, ↓evE_cmp, ↓evE_ife, ↓evE_call, ↓evE_lenv, ↓evE_meth, ↓evE_sub, ↓evE_subv, ↓evE_slc, ↓evE_list, ↓evE_tup, ↓evE_comp, ↓evEs_nil, ↓evEs_cons]
  refine ⟨by decide, [], rfl, ?_⟩
  rw [evB_cons, evS_enum]
  refine ⟨⟨_, g5⟩, ?_⟩
  simp only [↓evE_const, ↓evE_var, ↓evE_glob, ↓evE_bin, ↓evE_cmp, ↓evE_ife, ↓evE_call, ↓evE_lenv, ↓evE_meth, ↓evE_sub, ↓evE_subv, ↓evE_slc, ↓evE_list, ↓evE_tup, ↓evE_comp, g12]
  refine ⟨_, rfl, ?_⟩
  rw [tabR_eq]
  have fin : ∀ s2 s3 s4 s5, evB (gt a ex) SP SX .nil (ff m ([.str (pick0 tab0)] ++ tabN.map fun t => .str (pick m t)) s2 s3 s4 s5)
      ⟨fun φ => evB (gt a ex) SP SX (.cons (.ret (.meth (.const (.str "")) "join" (.cons (.var 1) .nil))) .nil) φ ⟨fun _ => False, fun pv => pv = .str (fmode k), fun _ => False⟩, fun pv => pv = .str (fmode k), fun _ => False⟩ := by
    intro s2 s3 s4 s5
    have hp : ([PV.str (pick0 tab0)] ++ tabN.map fun t => PV.str (pick m t)) = (signs k).map PV.str := by
      rw [← picks k hk, hm]; simp
    rw [hp]
    simp only [↓evB_nil_, ↓evB_cons, ↓evS_asg, ↓evS_own, ↓evS_swap, ↓evS_app, ↓evS_loop, ↓evS_enum, ↓evS_ife, ↓evS_ret, ↓evS_brk, ↓evS_ifX, ↓evE_const, ↓evE_var, ↓evE_glob, ↓evE_bin, ↓evE_cmp, ↓evE_ife, ↓evE_call, ↓evE_lenv, ↓evE_meth, ↓evE_sub, ↓evE_subv, ↓evE_slc, ↓evE_list, ↓evE_tup, ↓evE_comp, ↓evEs_nil, ↓evEs_cons, List.getElem?_cons_zero, List.getElem?_cons_succ, ↓methOk_raw, ↓methOk_list, ↓methOk_str, ↓meth_raw, ↓meth_list, ↓meth_str]
    refine ⟨.inl trivial, by simp [signs], .inl trivial, _, hJ, rfl⟩
  refine loopF_step (fun ψ => ∃ s2 s3 s4 s5, ψ = ff m [.str (pick0 tab0)] s2 s3 s4 s5) (fun nxt hn => ?_) ?_
  · simp only [↓evB_nil_, ↓evB_cons, ↓evS_asg, ↓evS_own, ↓evS_swap, ↓evS_app, ↓evS_loop, ↓evS_enum, ↓evS_ife, ↓evS_ret, ↓evS_brk, ↓evS_ifX, ↓evE_const, ↓evE_var, ↓evE_glob, ↓evE_bin, ↓evE_cmp, ↓evE_ife, ↓evE_call, ↓evE_lenv, ↓evE_meth, ↓evE_sub, ↓evE_subv, ↓evE_slc, ↓evE_list, ↓evE_tup, ↓evE_comp, ↓asg_one, ↓asg_many]
    refine ⟨[.int (0 : Nat), rowP tab0], .inr rfl, rfl, ?_⟩
    simp only [↓setAll_cons, ↓setAll_nil, List.set_cons_zero, List.set_cons_succ, List.getElem?_cons_zero, List.getElem?_cons_succ, rowP]
    exact ⟨_, rfl, in0_ok (k := ⟨nxt, _, _⟩) hS (by decide) tab0 _ _ fun s4 s5 => hn _ ⟨_, _, _, _, rfl⟩⟩
  · rintro ψ ⟨s2, s3, s4, s5, rfl⟩
    exact tabs_ok tabN 1 _ s2 s3 s4 s5 (by decide) (by decide) fin
end
end Mine
end
section
namespace Mine

/-! steps of the evaluator -/
section
variable {GT : List (Str × PV)} {SP SX : Value → List PV → PV → Prop}
theorem evB_step {s : S} {r : Bs} {φ : Frame} {k : Ks} (mid : Frame → Prop) (h1 : ∀ N : Frame → Prop, (∀ ψ, mid ψ → N ψ) → evS GT SP SX s φ ⟨N, k.r, k.b⟩) (h2 : ∀ ψ, mid ψ → evB GT SP SX r ψ k) : evB GT SP SX (.cons s r) φ k := by
  rw [evB_cons]
  exact h1 _ h2
theorem evB_nil {φ : Frame} {k : Ks} (h : k.n φ) : evB GT SP SX .nil φ k := by
  exact h
theorem loopF_all {turn : PV → Frame → (Frame → Prop) → Prop} {D : Frame → Prop} (I : Nat → Frame → Prop) : ∀ (items : List PV) (i : Nat) (φ : Frame), I i φ →
    (∀ (j : Nat) (v : PV) (φ : Frame) (N : Frame → Prop), items[j]? = some v → I (i + j) φ → (∀ ψ, I (i + j + 1) ψ → N ψ) → turn v φ N) → (∀ ψ, I (i + items.length) ψ → D ψ) → loopF turn items φ D
  | [], i, φ, hi, _, hd => hd φ hi
  | v :: vs, i, φ, hi, ht, hd => by
    refine loopF_step (I (i + 1)) (fun nxt hn => ht 0 v φ nxt rfl hi hn) fun ψ hψ => ?_
    refine loopF_all I vs (i + 1) ψ hψ (fun j v φ N hj hI hN => ht (j + 1) v φ N (by simpa using hj) (by rw [show i + (j + 1) = i + 1 + j by lia]; exact hI) (by rw [show i + (j + 1) + 1 = i + 1 + j + 1 by lia]; exact hN)) fun ψ h => hd ψ ?_
    rw [List.length_cons, show i + (vs.length + 1) = i + 1 + vs.length by lia]
    exact h
theorem loopI_map {turn : PV → Frame → List PV → (Frame → List PV → Prop) → Prop} {D : Frame → List PV → Prop} (I : Frame → Prop) (g : PV → List PV) : ∀ (items : List PV) (φ : Frame) (acc : List PV), I φ → acc.length + (items.flatMap g).length ≤ 65536 →
    (∀ v ∈ items, ∀ (φ : Frame) (acc : List PV) (N : Frame → List PV → Prop), I φ → acc.length + (g v).length ≤ 65536 → (∀ ψ, I ψ → N ψ (acc ++ g v)) → turn v φ acc N) → (∀ ψ, I ψ → D ψ (acc ++ items.flatMap g)) → loopI turn items φ acc D
  | [], φ, acc, hi, _, _, hd => by
    have := hd φ hi
    simpa [loopI] using this
  | v :: vs, φ, acc, hi, hz, ht, hd => by
    rw [List.flatMap_cons, List.length_append] at hz
    unfold loopI
    refine ht v List.mem_cons_self φ acc _ hi (by lia) fun ψ hψ => ?_
    refine loopI_map I g vs ψ _ hψ (by rw [List.length_append]; lia) (fun v hv => ht v (List.mem_cons_of_mem _ hv)) fun ψ h => ?_
    have := hd ψ h
    simpa using this
end

/-! dots -/
noncomputable def dots (n : Nat) : Str := ⟨Array.replicate n 46⟩
noncomputable def qdots (n : Nat) : Nat := if n = 0 then 0 else n + 1
theorem dots_len (n : Nat) : (dots n).length = n := by simp [dots, Str.length]
theorem mul_dots (p : Int) : Txt.mul "." p = dots p.toNat := by
  refine Str.ext' ?_
  rw [← Array.toList_inj, txt_mul_list]
  have : ("." : Str).cps.toList = [46] := by decide
  rw [this]
  simp [dots]
section
variable {prog : Program} {w : World} {K : Frag} {H : Heap} {GT : List (Str × PV)} {n : Nat} {a : Ad}
end
end Mine
end
section
namespace Mine

section
variable {a : Ad} {ex : List (Str × PV)} {SP SX : Value → List PV → PV → Prop}
theorem cut_lo {α : Type} (xs : List α) (i : Int) : cut xs (some i) none = xs.drop i.toNat := rfl
theorem cut_hi {α : Type} (xs : List α) (i : Int) : cut xs none (some i) = xs.take i.toNat := rfl

end
end Mine
end
section
namespace Mine

noncomputable def kk (v : Int) : Nat := (v % 512).toNat
theorem kk_lt (v : Int) : kk v < 512 := by unfold kk; lia
end Mine
end
section
namespace Mine

theorem flatMap_one {α β γ : Type} {f : α → β} {g : β → List γ} {h : α → γ} (e : ∀ v, g (f v) = [h v]) : ∀ l : List α, (l.map f).flatMap g = l.map h
  | [] => rfl
  | x :: r => by rw [List.map_cons, List.flatMap_cons, e, flatMap_one e r]; rfl
section
variable {a : Ad} {ex : List (Str × PV)} {SP SX : Value → List PV → PV → Prop}
noncomputable abbrev rowsOf (ns : List Int) : List PV := ns.map fun v => .str (fmode (kk v))

end
end Mine
end
section
namespace Mine

theorem isInts_map : ∀ l : List Int, isInts (l.map PV.int) = some l
  | [] => rfl
  | x :: r => by
    show (isInts (r.map PV.int)).map (x :: ·) = _
    rw [isInts_map r]; rfl
section
variable {a : Ad} {ex : List (Str × PV)} {SP SX : Value → List PV → PV → Prop}

end
end Mine
end
section
namespace Mine

section
variable {prog : Program} {w : World} {H : Heap} {GT : List (Str × PV)} {n : Nat}
end

structure DefOk (K : Frag) (GT : List (Str × PV)) (a : Addr) (Γ : Cx) (gn : List Str) (np : Nat) (b : Bs) : Prop where
  fn : fnChk K a Γ gn np = true
  bind : ∀ vals : List Value, vals.length = np → bindArgs (fdAt K a) ⟨vals, []⟩ = pure (((Γ.map (·.1)).take np).zip vals)
  body : chkB GT Γ gn b (bodyOf (fdAt K a)) = true
structure SldOk (K : Frag) (GT : List (Str × PV)) (a : Addr) : Prop where
  fn : fnChk K a Γs gns 2 = true
  bind : ∀ vals : List Value, vals.length = 2 → bindArgs (fdAt K a) ⟨vals, []⟩ = pure (((Γs.map (·.1)).take 2).zip vals)
  body : isSld GT (bodyOf (fdAt K a)) = true
noncomputable def onFields (o : Option Obj) (k : Array Value → Bool) : Bool := match o with
  | some ⟨.type t, none, .fields fs, _⟩ => t == "re.Pattern" && k fs
  | _ => false
theorem onFields_ok {o : Option Obj} {k : Array Value → Bool} (h : onFields o k = true) : ∃ fs sl, o = some ⟨.type "re.Pattern", none, .fields fs, sl⟩ ∧ k fs = true := by
  unfold onFields at h
  split at h
  · rename_i t fs sl
    have h1 := beq_iff_eq.mp (and_l h)
    subst h1
    exact ⟨fs, sl, rfl, and_r h⟩
  · cases h
noncomputable def patChk (K : Frag) (p : Addr) (code : Array Nat) : Bool := onFields (K.lookup p) fun fs => decide (fs.getD 6 .none = .int 0 0) && (decide (fs.getD 2 .none = .int 0 0) && (onRef (fs.getD 5 .none) fun c => onSeq (K.lookup c) fun vs => (vs.toArray.map Builtin.Re.reRawOf).map (·.toNat) == code))
theorem pat_at {K : Frag} {H : Heap} {p : Addr} {code : Array Nat} (KX : K.In H) (h : patChk K p code = true) : PatAt H p code := by
  obtain ⟨fs, sl, e, h1⟩ := onFields_ok h
  obtain ⟨c, e5, h2⟩ := onRef_ok (and_r (and_r h1))
  obtain ⟨vs, n, e2, _, h3⟩ := onSeq_ok h2
  exact ⟨_, fs, c, _, vs.toArray, n, KX _ _ e, rfl, rfl, rfl, of_decide_eq_true (and_l h1), of_decide_eq_true (and_l (and_r h1)), e5, KX _ _ e2, rfl, rfl, beq_iff_eq.mp h3⟩

section
variable {prog : Program} {w : World} {K : Frag} {H : Heap} {a : Ad} {ex : List (Str × PV)}
structure Lib (K : Frag) (a : Ad) (ex : List (Str × PV)) : Prop where
  glob : globChk K (gt a ex) = true
  fm : DefOk K (gt a ex) a.fm ΓFm gnFm 1 bFm
  ifmt : DefOk K (gt a ex) a.ifmt ΓIfmt gnIfmt 1 bIfmt
  qd : DefOk K (gt a ex) a.qd ΓQd gnQd 1 bQd
  twc : DefOk K (gt a ex) a.twc ΓTwc gnTwc 2 bTwc
  sld : SldOk K (gt a ex) a.sld
  r1 : patChk K a.r1 code1 = true
  r2 : patChk K a.r2 code2 = true

variable (KX : K.In H) (L : Lib K a ex) (G : GlobOk H (gt a ex)) (hlim : H.NoLimit)
include KX L G hlim
theorem lib_tops (n : Nat) : Tops prog w H (gt a ex) n := ⟨G, rfl, rfl, rfl⟩
theorem spec_twc (n : Nat) (x y : Str) : Spec prog w H (n + 1) (.ref a.twc) [.str x, .str y] (.int (twc x y)) :=
  def_spec (lib_tops KX L G hlim n) hlim KX L.twc.fn L.twc.bind L.twc.body rfl fun _ => ev_twc x y
theorem spec_ifmt (n k : Nat) (hk : k < 512) : Spec prog w H (n + 1) (.ref a.ifmt) [.int ((32768 + k : Nat) : Int)] (.int 32768) := by
  rw [← ifmts k hk]
  exact def_spec (lib_tops KX L G hlim n) hlim KX L.ifmt.fn L.ifmt.bind L.ifmt.body rfl fun _ => ev_ifmt _
theorem signs_len : ∀ k, ∀ y ∈ signs k, y.length ≤ 1000 ∧ asc y := by
  intro k y hy
  have hd : ("-" : Str).length ≤ 1000 ∧ asc "-" := ⟨by decide +kernel, fun c hc => by revert c; decide⟩
  have gen : ∀ b, ∀ c ∈ [("r" : Str), "w", "x"], (sgn k b c).length ≤ 1000 ∧ asc (sgn k b c) := by
    intro b c hc
    unfold sgn
    split
    · simp only [List.mem_cons, List.mem_nil_iff, or_false] at hc
      rcases hc with rfl | rfl | rfl <;> exact ⟨by decide +kernel, fun c hc => by revert c; decide⟩
    · exact hd
  simp only [signs, List.mem_cons, List.mem_nil_iff, or_false] at hy
  rcases hy with rfl | rfl | rfl | rfl | rfl | rfl | rfl | rfl | rfl | rfl
  · exact hd
  all_goals (apply gen; simp)
theorem spec_fm (n k : Nat) (hk : k < 512) : Spec prog w H (n + 2) (.ref a.fm) [.int ((32768 + k : Nat) : Int)] (.str (fmode k)) := by
  have h1 := signs_len KX L G hlim k
  refine def_spec (lib_tops KX L G hlim (n + 1)) hlim KX L.fm.fn L.fm.bind L.fm.body rfl fun _ => ev_fm hk (spec_ifmt KX L G hlim n k hk) ?_
  exact join_spec (fun y hy => (h1 y hy).1) (by simp [signs]) (by decide +kernel) (fun y hy => (h1 y hy).2) (fun c hc => by revert c; decide)
end
end Mine
end
section
namespace Mine

theorem caller_ok : AOk 8 callerA := ⟨rfl, by decide, by decide⟩
section
variable {prog : Program} {w : World} {K : Frag} {H : Heap} {a : Ad} {ex : List (Str × PV)}
end
end Mine
end
section
namespace Mine

theorem well_ints {P : Params} {h : Heap} {l : Addr} : ∀ {ns : List Int} {vs : List Value}, WellAll P h vs (ofPys (ns.map PyData.int)) → VRs (fun a o => h.get? a = some o) (ns.map PV.int) vs
  | [], vs, w => by
    cases w
    exact VRs.nil'
  | n :: ns, vs, w => by
    cases w with
    | cons w1 w2 =>
      refine VRs.cons' ?_ (well_ints (l := l) w2)
      cases w1
      unfold VR; exact ⟨_, rfl⟩
theorem well_list {P : Params} {h : Heap} {l : Addr} {ns : List Int} (hz : ns.length ≤ 1000) (w : Well P h (.ref l) (ofPy (.list (ns.map PyData.int)))) : VR (Fz (fun _ => none) h) (.list (ns.map PV.int)) (.ref l) := by
  unfold ofPy at w
  cases w with
  | list ho wa =>
    have r := well_ints (l := l) wa
    have z : sizeLine = 16777216 := rfl
    have hl := r.length
    unfold VR
    exact ⟨l, _, 0, rfl, ⟨rfl, ho⟩, by simp at hl; lia, VRs.mono (fun a o e => ⟨rfl, e⟩) _ _ r⟩
theorem glob_name {K : Frag} {H : Heap} {p : Program} {loose : List Str} {mean : ExcName → Option Value} {mg mb : Str → Option Value} {x : Str} {v : Value} (KX : K.In H) (T : Top p loose mean mg mb H) (h0 : isDictAt K mainGlobals = true)
    (h : nsFind (entriesOf K mainGlobals) x = some v) : mg x = some v := by
  obtain ⟨o, es, ep, ho, hd, _, hf⟩ := T.g
  unfold isDictAt at h0
  split at h0
  · rename_i c d es' n sl q
    have := KX _ _ q
    rw [ho] at this
    cases this
    simp only at hd
    cases hd
    unfold entriesOf at h
    rw [q] at h
    rw [← hf]; exact h
  · cases h0
end Mine
end
section
namespace Mine

/-! passes over an order, and how many greater ones stand ahead of each -/
section
variable (r : Nat → Nat)
noncomputable def bub1 (x : Nat) : List Nat → List Nat
  | [] => [x]
  | y :: l => if r y < r x then y :: bub1 x l else x :: bub1 y l
noncomputable def bub : List Nat → List Nat
  | [] => []
  | x :: l => bub1 r x l
noncomputable def ahead (k : Nat) : List Nat → Nat
  | [] => 0
  | a :: l => if a = k then 0 else (decide (r k < r a)).toNat + ahead k l
noncomputable def gtIn (k : Nat) (P : List Nat) : Nat := P.countP fun p => decide (r k < r p)
theorem gtIn_zero {k : Nat} {P : List Nat} (h : ∀ p ∈ P, r p ≤ r k) : gtIn r k P = 0 :=
  List.countP_eq_zero.mpr fun p hp => by simpa using h p hp
theorem gtIn_cons (k p : Nat) (P : List Nat) : gtIn r k (p :: P) = gtIn r k P + (decide (r k < r p)).toNat := by
  unfold gtIn
  rw [List.countP_cons]
  cases decide (r k < r p) <;> rfl
theorem ahead_self (k : Nat) (l : List Nat) : ahead r k (k :: l) = 0 := if_pos rfl
theorem ahead_ne {k a : Nat} (l : List Nat) (h : a ≠ k) : ahead r k (a :: l) = (decide (r k < r a)).toNat + ahead r k l := if_neg h
theorem bub1_perm : ∀ (l : List Nat) (x : Nat), (bub1 r x l).Perm (x :: l)
  | [], x => .refl _
  | y :: l, x => by
    unfold bub1
    split
    · exact ((bub1_perm l x).cons y).trans (.swap x y l)
    · exact (bub1_perm l y).cons x
theorem toNat_le {p q : Prop} [Decidable p] [Decidable q] (h : p → q) : (decide p).toNat ≤ (decide q).toNat := by
  by_cases hp : p
  · rw [decide_eq_true hp, decide_eq_true (h hp)]; exact Nat.le_refl _
  · rw [decide_eq_false hp]; exact Nat.zero_le _
theorem ar1 {g a t y A : Nat} (h : g + a = g + (t + A) - 1) (hy : y ≤ t) : g + (y + a) = g + (t + (y + A)) - 1 := by lia
theorem bub1_ahead : ∀ (l : List Nat) (x : Nat) (P : List Nat), (x :: l).Nodup → (∀ p ∈ P, r p ≤ r x) → ∀ k ∈ x :: l, gtIn r k P + ahead r k (bub1 r x l) = gtIn r k P + ahead r k (x :: l) - 1
  | [], x, P, _, hP, k, hk => by
    obtain rfl := List.mem_singleton.mp hk
    show gtIn r k P + ahead r k [k] = _
    rw [gtIn_zero r hP, ahead_self]
  | y :: l, x, P, hn, hP, k, hk => by
    obtain ⟨hx, hn2⟩ := List.nodup_cons.mp hn
    obtain ⟨hy, hn3⟩ := List.nodup_cons.mp hn2
    have hxy : x ≠ y := fun e => hx (e ▸ List.mem_cons_self)
    have hxl : (x :: l).Nodup := List.nodup_cons.mpr ⟨fun q => hx (List.mem_cons_of_mem _ q), hn3⟩
    unfold bub1
    split
    · rename_i hr
      have ih := bub1_ahead l x P hxl hP
      by_cases hky : k = y
      · subst hky
        rw [ahead_self, ahead_ne r _ hxy, ahead_self, decide_eq_true hr]
        show _ = gtIn r k P + (1 + 0) - 1
        lia
      · have ihk := ih k (by
          rcases List.mem_cons.mp hk with e | hk
          · exact e ▸ List.mem_cons_self
          · exact List.mem_cons_of_mem _ ((List.mem_cons.mp hk).resolve_left hky))
        rw [ahead_ne r _ (Ne.symm hky)]
        by_cases hkx : k = x
        · subst hkx
          rw [ahead_self] at ihk ⊢
          rw [decide_eq_false (Nat.lt_asymm hr)]
          show gtIn r k P + (0 + _) = _
          lia
        · rw [ahead_ne r _ (Ne.symm hkx)] at ihk ⊢
          rw [ahead_ne r _ (Ne.symm hky)]
          exact ar1 ihk (toNat_le fun q => Nat.lt_trans q hr)
    · rename_i hr
      have ih := bub1_ahead l y (x :: P) hn2 fun p hp => by
        rcases List.mem_cons.mp hp with rfl | hp
        · lia
        · have := hP p hp
          lia
      by_cases hkx : k = x
      · subst hkx
        rw [ahead_self, ahead_self, gtIn_zero r hP]
      · have ihk := ih k ((List.mem_cons.mp hk).resolve_left hkx)
        rw [gtIn_cons] at ihk
        rw [ahead_ne r _ (Ne.symm hkx), ahead_ne r _ (Ne.symm hkx)]
        lia
theorem bub_perm : ∀ l, (bub r l).Perm l
  | [] => .refl _
  | x :: l => bub1_perm r l x
theorem bub_ahead {l : List Nat} (hn : l.Nodup) {k : Nat} (hk : k ∈ l) : ahead r k (bub r l) = ahead r k l - 1 := by
  cases l with
  | nil => cases hk
  | cons x l =>
    have := bub1_ahead r l x [] hn (fun p hp => absurd hp List.not_mem_nil) k hk
    show ahead r k (bub1 r x l) = _
    have e : gtIn r k [] = 0 := rfl
    rw [e] at this
    lia
noncomputable def Tie (a b : Nat) : Prop := r a = r b → a < b
theorem bub1_tie : ∀ (l : List Nat) (x : Nat), (x :: l).Pairwise (Tie r) → (bub1 r x l).Pairwise (Tie r)
  | [], x, h => h
  | y :: l, x, h => by
    obtain ⟨h1, h2⟩ := List.pairwise_cons.mp h
    obtain ⟨h3, h4⟩ := List.pairwise_cons.mp h2
    unfold bub1
    split
    · rename_i hr
      refine List.pairwise_cons.mpr ⟨fun b hb => ?_, bub1_tie l x (List.pairwise_cons.mpr ⟨fun b hb => h1 b (List.mem_cons_of_mem _ hb), h4⟩)⟩
      rcases List.mem_cons.mp ((bub1_perm r l x).mem_iff.mp hb) with rfl | hb
      · exact fun e => by lia
      · exact h3 b hb
    · refine List.pairwise_cons.mpr ⟨fun b hb => h1 b ((bub1_perm r l y).mem_iff.mp hb), bub1_tie l y h2⟩
theorem bub_tie : ∀ l, l.Pairwise (Tie r) → (bub r l).Pairwise (Tie r)
  | [], h => h
  | x :: l, h => bub1_tie r l x h
theorem ahead_le (k : Nat) : ∀ l, ahead r k l ≤ l.length
  | [] => Nat.le_refl _
  | a :: l => by
    unfold ahead
    split
    · exact Nat.zero_le _
    · have := ahead_le k l
      have := Bool.toNat_le (decide (r k < r a))
      rw [List.length_cons]; lia
theorem zero_sorted : ∀ l : List Nat, l.Nodup → (∀ k ∈ l, ahead r k l = 0) → l.Pairwise fun a b => r a ≤ r b
  | [], _, _ => .nil
  | x :: l, hn, h => by
    obtain ⟨hx, hn2⟩ := List.nodup_cons.mp hn
    have h2 : ∀ k ∈ l, (decide (r k < r x)).toNat + ahead r k l = 0 := fun k hk => by
      have := h k (List.mem_cons_of_mem _ hk)
      rwa [ahead_ne r l (fun (e : x = k) => hx (by rw [e]; exact hk))] at this
    refine List.pairwise_cons.mpr ⟨fun b hb => ?_, zero_sorted l hn2 fun k hk => ?_⟩
    · have := h2 b hb
      by_cases q : r b < r x
      · rw [decide_eq_true q] at this
        have e : true.toNat = 1 := rfl
        lia
      · lia
    · have := h2 k hk
      lia
theorem strict_uniq {R : Nat → Nat → Prop} (hR : ∀ a b, R a b → ¬ R b a) : ∀ {a b : List Nat}, a.Perm b → a.Pairwise R → b.Pairwise R → a = b
  | [], b, p, _, _ => p.nil_eq
  | x :: l, b, p, ha, hb => by
    cases b with
    | nil => exact absurd p.length_eq (by simp)
    | cons y t =>
      have hx : x ∈ y :: t := p.mem_iff.mp (.head _)
      have hy : y ∈ x :: l := p.mem_iff.mpr (.head _)
      have e : x = y := by
        rcases List.mem_cons.mp hx with h | h
        · exact h
        · rcases List.mem_cons.mp hy with h' | h'
          · exact h'.symm
          · exact absurd ((List.pairwise_cons.mp hb).1 x h) (hR _ _ ((List.pairwise_cons.mp ha).1 y h'))
      subst e
      rw [strict_uniq hR (List.Perm.cons_inv p) (List.pairwise_cons.mp ha).2 (List.pairwise_cons.mp hb).2]
end
end Mine
end
section
namespace Mine

theorem fm_step : ∀ k < 511, (fmode k).cps.toList < (fmode (k + 1)).cps.toList := by decide +kernel
theorem fm_lt {a : Nat} : ∀ {b : Nat}, a < b → b < 512 → (fmode a).cps.toList < (fmode b).cps.toList
  | 0, h, _ => absurd h (Nat.not_lt_zero _)
  | b + 1, h, hb => by
    have s := fm_step b (by lia)
    rcases Nat.lt_or_ge a b with q | q
    · exact List.lt_trans (fm_lt q (by lia)) s
    · obtain rfl : a = b := by lia
      exact s
theorem twc_gt {a b : Nat} (ha : a < 512) (hb : b < 512) : (twc (fmode a) (fmode b) == 1) = decide (b < a) := by
  unfold twc
  rcases Nat.lt_trichotomy a b with q | rfl | q
  · have h := fm_lt q hb
    rw [decide_eq_true h, decide_eq_false (List.lt_asymm h), decide_eq_false (Nat.lt_asymm q)]; rfl
  · rw [decide_eq_false (List.lt_irrefl _), decide_eq_false (Nat.lt_irrefl _)]; rfl
  · have h := fm_lt q ha
    rw [decide_eq_true h, decide_eq_false (List.lt_asymm h), decide_eq_true q]; rfl
noncomputable def nl (o : List Nat) : List PV := o.map fun (k : Nat) => PV.int k
noncomputable def sgL (rs : List Nat) : List PV := rs.map fun v => PV.str (fmode v)
noncomputable def rt (rs : List Nat) (k : Nat) : Nat := rs.getD k 0
theorem nl_at {o : List Nat} {i : Nat} {j : Int} {k : Nat} (hj : j = (i : Int)) (h : o[i]? = some k) : 0 ≤ j ∧ (nl o)[j.toNat]? = some (.int k) := by
  subst hj
  refine ⟨Int.natCast_nonneg _, ?_⟩
  rw [Int.toNat_natCast, nl, List.getElem?_map, h]; rfl
theorem sg_at {rs : List Nat} {k : Nat} (h : k < rs.length) : (sgL rs)[((k : Nat) : Int).toNat]? = some (.str (fmode (rt rs k))) := by
  rw [Int.toNat_natCast, sgL, List.getElem?_map, List.getElem?_eq_getElem h, rt, List.getD_eq_getElem?_getD, List.getElem?_eq_getElem h]; rfl
theorem rt_lt {rs : List Nat} (h : ∀ v ∈ rs, v < 512) (k : Nat) : rt rs k < 512 := by
  unfold rt
  rw [List.getD_eq_getElem?_getD]
  cases q : rs[k]? with
  | none => decide
  | some v => exact h v (List.mem_of_getElem? q)
theorem at_mid {α : Type} (d : List α) (c : α) (l : List α) : (d ++ c :: l)[d.length]? = some c := by
  rw [List.getElem?_append_right (Nat.le_refl _), Nat.sub_self]; rfl
theorem at_next {α : Type} (d : List α) (c y : α) (l : List α) : (d ++ c :: y :: l)[d.length + 1]? = some y := by
  rw [List.getElem?_append_right (Nat.le_add_right _ 1), Nat.add_sub_cancel_left]; rfl
theorem set_mid {α : Type} (d : List α) (c x : α) (l : List α) : (d ++ c :: l).set d.length x = d ++ x :: l := by
  rw [List.set_append_right _ _ (Nat.le_refl _), Nat.sub_self]; rfl
theorem set_next {α : Type} (d : List α) (c y x : α) (l : List α) : (d ++ c :: y :: l).set (d.length + 1) x = d ++ c :: x :: l := by
  rw [List.set_append_right _ _ (Nat.le_add_right _ 1), Nat.add_sub_cancel_left]; rfl

noncomputable def ΓPs : Cx := [("signs", .loc), ("order", .loc), ("place", .loc)]
noncomputable def gnPs : List Str := ["list", "range", "len", "three_way_cmp"]
noncomputable def bSwap : Bs := (.cons (.ife (.cmp .Eq (.call (.glob 10) (.cons (.sub (.var 0) (.subv 1 (.var 2))) (.cons (.sub (.var 0) (.subv 1 (.bin .Add (.var 2) (.const (.int 1))))) .nil))) (.const (.int 1)))
      (.cons (.swap 1 (.var 2) (.bin .Add (.var 2) (.const (.int 1))) (.tup (.cons (.subv 1 (.bin .Add (.var 2) (.const (.int 1)))) (.cons (.subv 1 (.var 2)) .nil))))
      .nil)
      .nil)
    .nil)
noncomputable def bPs : Bs := (.cons (.own 1 (.call (.glob 4) (.cons (.var 1) .nil)))
  (.cons (.loop (.one 2) (.call (.glob 3) (.cons (.bin .Sub (.lenv 0 1) (.const (.int 1))) .nil)) bSwap .nil)
  (.cons (.ret (.var 1))
  .nil)))
section
variable {a : Ad} {ex : List (Str × PV)} {SP SX : Value → List PV → PV → Prop}
noncomputable abbrev fP (rs : List Nat) (o : List Nat) (s2 : Slot) : Frame := [.val (.list (sgL rs)), .own (nl o), s2]
theorem swap_turn {rs : List Nat} {d : List Nat} {c y : Nat} {l : List Nat} {k : Ks} (hr : ∀ v ∈ rs, v < 512) (hc : c < rs.length) (hy : y < rs.length) (hz : d.length + l.length ≤ 1000)
    (ht : ∀ x y, SP (.ref a.twc) [.str x, .str y] (.int (twc x y)))
    (h1 : rt rs y < rt rs c → k.n (fP rs (d ++ y :: c :: l) (.val (.int d.length)))) (h2 : ¬ rt rs y < rt rs c → k.n (fP rs (d ++ c :: y :: l) (.val (.int d.length)))) :
    evB (gt a ex) SP SX bSwap (fP rs (d ++ c :: y :: l) (.val (.int d.length))) k := by
  have g10 : (gt a ex)[10]? = some (("three_way_cmp" : Str), PV.raw (.ref a.twc)) := rfl
  obtain ⟨p1, p2⟩ := nl_at (o := d ++ c :: y :: l) (j := (d.length : Int)) rfl (at_mid d c (y :: l))
  obtain ⟨q1, q2⟩ := nl_at (o := d ++ c :: y :: l) (j := (d.length : Int) + 1) rfl (at_next d c y l)
  have hl : (nl (d ++ c :: y :: l)).length ≤ 65536 := by simp [nl]; lia
  unfold bSwap
  simp only [↓evB_cons, ↓evB_nil_, ↓evS_ife, ↓evT_cmp, ↓evE_const, ↓evE_var, ↓evE_glob, ↓evE_call, ↓evE_sub, ↓evE_subv, ↓evE_bin, ↓evEs_nil, ↓evEs_cons, g10, ↓app_ref, ↓itemAt_list, ↓binop_Add, ↓addP_int, ↓onInt_int, List.getElem?_cons_zero, List.getElem?_cons_succ]
  refine ⟨trivial, hl, _, _, rfl, p1, p2, Int.natCast_nonneg _, _, sg_at hc, trivial, hl, _, _, rfl, q1, q2, Int.natCast_nonneg _, _, sg_at hy, _, ht _ _, ?_⟩
  refine cmp_int ?_
  rw [twc_gt (rt_lt hr c) (rt_lt hr y)]
  refine ⟨fun e => ?_, fun e => h2 (of_decide_eq_false e)⟩
  have hk := h1 (of_decide_eq_true e)
  simp only [↓evS_swap, ↓evE_tup, ↓evE_subv, ↓evE_bin, ↓evE_var, ↓evE_const, ↓evEs_nil, ↓evEs_cons, ↓binop_Add, ↓addP_int, ↓onInt_int, List.getElem?_cons_zero, List.getElem?_cons_succ, setO]
  refine ⟨trivial, hl, _, _, rfl, q1, q2, trivial, hl, _, _, rfl, p1, p2, by simp, _, _, rfl, trivial, _, rfl, p1, by simp [nl]; lia, hl, ?_⟩
  refine ⟨rfl, _, rfl, q1, by simp [nl]; lia, by rw [List.length_set]; exact hl, ?_⟩
  have e2 : ((nl (d ++ c :: y :: l)).set ((d.length : Nat) : Int).toNat (PV.int (y : Int))).set (((d.length : Nat) : Int) + 1).toNat (PV.int (c : Int)) = nl (d ++ y :: c :: l) := by
    have e3 : (((d.length : Nat) : Int) + 1).toNat = d.length + 1 := rfl
    rw [e3, Int.toNat_natCast]
    have n1 : d.length = (nl d).length := by simp [nl]
    have n2 : ∀ x z, nl (d ++ x :: z :: l) = nl d ++ PV.int (x : Int) :: PV.int (z : Int) :: nl l := fun x z => by simp [nl]
    rw [n2, n2, n1, set_mid, set_next]
  rw [e2]
  exact hk
theorem ev_ps {rs o : List Nat} (hr : ∀ v ∈ rs, v < 512) (ho : ∀ k ∈ o, k < rs.length) (h1 : 1 ≤ o.length) (hz : o.length ≤ 100) (ht : ∀ x y, SP (.ref a.twc) [.str x, .str y] (.int (twc x y))) :
    evB (gt a ex) SP SX bPs (φ0 ΓPs [.list (sgL rs), .list (nl o)]) ⟨fun _ => False, fun pv => pv = .list (nl (bub (rt rs) o)), fun _ => False⟩ := by
  have g0 : (gt a ex)[0]? = some (("len" : Str), PV.raw (.builtin "len")) := rfl
  have g3 : (gt a ex)[3]? = some (("range" : Str), PV.raw (.type "range")) := rfl
  have g4 : (gt a ex)[4]? = some (("list" : Str), PV.raw (.type "list")) := rfl
  have hl : (nl o).length = o.length := by simp [nl]
  show evB (gt a ex) SP SX bPs [.val (.list (sgL rs)), .val (.list (nl o)), .unb] _
  unfold bPs
  refine evB_step (fun ψ => ψ = fP rs o .unb) (fun N hN => ?_) ?_
  · simp only [↓evS_own, ↓evE_call, ↓evE_glob, ↓evE_var, ↓evEs_nil, ↓evEs_cons, g4, ↓app_type, if_true, ↓arg1_one, ↓listOf_list, List.getElem?_cons_zero, List.getElem?_cons_succ]
    exact ⟨by lia, _, rfl, hN _ rfl⟩
  rintro ψ rfl
  refine evB_step (fun ψ => ∃ s2, ψ = fP rs (bub (rt rs) o) s2) (fun N hN => ?_) ?_
  · simp only [↓evS_loop, ↓evE_call, ↓evE_glob, ↓evE_bin, ↓evE_lenv, ↓evE_const, ↓evEs_nil, ↓evEs_cons, g0, g3, ↓binop_Sub, ↓subP_int, ↓onInt_int, List.getElem?_cons_zero, List.getElem?_cons_succ]
    refine ⟨by lia, ?_⟩
    rw [hl]
    have en : ((o.length : Nat) : Int) - 1 = ((o.length - 1 : Nat) : Int) := by lia
    rw [en]
    rw [app_type, if_neg (by decide), if_pos rfl]
    refine ⟨by lia, by lia, _, rfl, ?_⟩
    refine loopF_all (fun p ψ => ∃ d c l s2, d.length = p ∧ p + 1 + l.length = o.length ∧ (∀ k ∈ d ++ c :: l, k < rs.length) ∧ d ++ bub1 (rt rs) c l = bub (rt rs) o ∧ ψ = fP rs (d ++ c :: l) s2) _ 0 _ ?_ ?_ ?_
    · cases o with
      | nil => simp at h1
      | cons x l => exact ⟨[], x, l, .unb, rfl, by simp; lia, ho, rfl, rfl⟩
    · rintro p v ψ N' hv ⟨d, c, l, s2, hd, hlen, hlt, he, rfl⟩ hN'
      rw [Nat.zero_add] at hd hlen hN'
      rw [Int.toNat_natCast] at hv
      have hp : p < o.length - 1 ∧ v = .int p := by
        rw [List.getElem?_map] at hv
        rcases Nat.lt_or_ge p (o.length - 1) with q | q
        · rw [List.getElem?_range q] at hv; cases hv; exact ⟨q, rfl⟩
        · rw [List.getElem?_eq_none (by simpa using q)] at hv; cases hv
      obtain ⟨hp, rfl⟩ := hp
      cases l with
      | nil => simp at hlen; lia
      | cons y l =>
        subst hd
        show evB (gt a ex) SP SX bSwap (fP rs (d ++ c :: y :: l) (.val (.int d.length))) _
        have hlen' : d.length + 1 + (l.length + 1) = o.length := hlen
        have mem : ∀ k, k ∈ d ++ [y] ++ c :: l → k ∈ d ++ c :: y :: l := fun k hk => by
          simp only [List.mem_append, List.mem_cons, List.mem_nil_iff, or_false] at hk ⊢
          rcases hk with (h | h) | h | h <;> simp [h]
        have asc : ∀ x z, d ++ [x] ++ z :: l = d ++ x :: z :: l := fun x z => by rw [List.append_assoc]; rfl
        refine swap_turn hr (hlt c (by simp)) (hlt y (by simp)) (by lia) ht (fun q => hN' _ ⟨d ++ [y], c, l, _, by simp, by lia, fun k hk => hlt k (mem k hk), ?_, by rw [asc]⟩) (fun q => hN' _ ⟨d ++ [c], y, l, _, by simp, by lia, fun k hk => hlt k (asc c y ▸ hk), ?_, by rw [asc]⟩)
        · rw [← he, bub1, if_pos q, List.append_assoc]; rfl
        · rw [← he, bub1, if_neg q, List.append_assoc]; rfl
    · rintro ψ ⟨d, c, l, s2, hd, hlen, hlt, he, rfl⟩
      rw [Nat.zero_add, List.length_map, List.length_range, Int.toNat_natCast] at hd hlen
      have : l = [] := List.eq_nil_of_length_eq_zero (by lia)
      subst this
      exact evB_nil (hN _ ⟨s2, by rw [← he]; rfl⟩)
  rintro ψ ⟨s2, rfl⟩
  have hb : (bub (rt rs) o).length = o.length := (bub_perm (rt rs) o).length_eq
  rw [evB_cons, evS_ret, evE_var]
  exact ⟨by simp [nl]; lia, rfl⟩
end
end Mine
end
section
namespace Mine

noncomputable def row (c k : Nat) : Str := dots c ++ ⟨#[97 + k]⟩
noncomputable def mailS (rs o : List Nat) (n : Nat) : List Str := (List.range n).map fun k => row (ahead (rt rs) k o) k
noncomputable def mailL (rs o : List Nat) (n : Nat) : List PV := (mailS rs o n).map PV.str
theorem ahead_cnt (r : Nat → Nat) (k : Nat) : ∀ o : List Nat, k ∈ o → ((o.take (o.idxOf k)).filter fun j => decide (r k < r j)).length = ahead r k o
  | [], h => by cases h
  | a :: l, h => by
    rw [List.idxOf_cons]
    by_cases e : a = k
    · subst e
      rw [beq_self_eq_true, ahead_self]; rfl
    · have : (a == k) = false := by simpa using e
      have ih := ahead_cnt r k l ((List.mem_cons.mp h).resolve_left (Ne.symm e))
      rw [this, ahead_ne r l e, ← ih]
      show (((a :: l).take (l.idxOf k + 1)).filter _).length = _
      rw [List.take_succ_cons, List.filter_cons]
      cases decide (r k < r a) with
      | true => rw [if_pos rfl, List.length_cons]; show _ = 1 + _; lia
      | false => rw [if_neg nofun]; show _ = 0 + _; lia
theorem idx_cast (k : Nat) : ∀ o : List Nat, (o.map fun (p : Nat) => (p : Int)).idxOf (k : Int) = o.idxOf k
  | [] => rfl
  | a :: l => by
    rw [List.map_cons, List.idxOf_cons, List.idxOf_cons, idx_cast k l]
    have : (((a : Nat) : Int) == (k : Int)) = (a == k) := by rw [Bool.eq_iff_iff, beq_iff_eq, beq_iff_eq]; lia
    rw [this]
noncomputable def rtL (rs : List Nat) : List PV := rs.map fun v => PV.int (v : Nat)
theorem rt_at {rs : List Nat} {k : Nat} (h : k < rs.length) : (rtL rs)[((k : Nat) : Int).toNat]? = some (.int (rt rs k : Nat)) := by
  rw [Int.toNat_natCast, rtL, List.getElem?_map, List.getElem?_eq_getElem h, rt, List.getD_eq_getElem?_getD, List.getElem?_eq_getElem h]; rfl
noncomputable def pickG (rs : List Nat) (k : Nat) : PV → List PV
  | .int j => if rt rs k < rt rs j.toNat then [.int j] else []
  | _ => []
theorem pickG_at (rs : List Nat) (k j : Nat) : pickG rs k (.int j) = if rt rs k < rt rs j then [.int j] else [] := rfl
theorem pickG_map (rs : List Nat) (k : Nat) : ∀ l : List Nat, (nl l).flatMap (pickG rs k) = nl (l.filter fun j => decide (rt rs k < rt rs j))
  | [] => rfl
  | x :: r => by
    have := pickG_map rs k r
    unfold nl at *
    rw [List.map_cons, List.flatMap_cons, this, pickG_at, List.filter_cons]
    by_cases q : rt rs k < rt rs x
    · rw [if_pos q, if_pos (decide_eq_true q)]; rfl
    · rw [if_neg q, if_neg (by simpa using q)]; rfl
theorem cmp_gtI {p q : Int} {K : Bool → Prop} (h : K (decide (p > q))) : cmpop .Gt (.int p) (.int q) K := h
noncomputable def ΓMl : Cx := [("rights", .cel), ("order", .loc), ("rows", .loc), ("k", .cel), ("greater", .loc)]
noncomputable def gnMl : List Str := ["range", "len"]
noncomputable def eGr : E := .comp ⟨[("j", .loc, 0), ("rights", .fre, 0), ("k", .fre, 3)], []⟩ (.var 0) (.one 0) (.slc (.var 1) .no (.yes (.meth (.var 1) "index" (.cons (.var 3) .nil)))) (.cons (.cmp .Gt (.sub (.var 1) (.var 0)) (.sub (.var 1) (.var 2))) .nil) .nil
noncomputable def bRow : Bs := (.cons (.asg (.one 4) eGr)
    (.cons (.app 2 (.bin .Add (.bin .Mult (.const (.str ".")) (.call (.glob 0) (.cons (.var 4) .nil))) (.sub (.const (.str "abcdef")) (.var 3))))
    .nil))
noncomputable def bMl : Bs := (.cons (.own 2 (.list .nil))
  (.cons (.loop (.one 3) (.call (.glob 3) (.cons (.call (.glob 0) (.cons (.var 1) .nil)) .nil)) bRow .nil)
  (.cons (.ret (.var 2))
  .nil)))
theorem nl_len (o : List Nat) : (nl o).length = o.length := by simp [nl]
theorem nl_map (o : List Nat) : nl o = (o.map fun (p : Nat) => (p : Int)).map PV.int := by rw [List.map_map]; rfl
theorem abc_at : ∀ k < 6, ("abcdef" : Str).cps.toList[k]? = some (97 + k) := by decide +kernel

section
variable {a : Ad} {ex : List (Str × PV)} {SP SX : Value → List PV → PV → Prop}
noncomputable abbrev fM (rs o : List Nat) (s2 s3 s4 : Slot) : Frame := [.val (.list (rtL rs)), .val (.list (nl o)), s2, s3, s4]
theorem gr_ev {rs o : List Nat} {k : Nat} {s2 s4 : Slot} {K : PV → Frame → Prop} (hk : k ∈ o) (ho : ∀ j ∈ o, j < rs.length) (hz : o.length ≤ 100)
    (hK : ∀ l, (nl l).length = ahead (rt rs) k o → K (.list (nl l)) (fM rs o s2 (.val (.int k)) s4)) : evE (gt a ex) SP eGr (fM rs o s2 (.val (.int k)) s4) K := by
  have hb : ∀ i ∈ (none : Option Int).toList ++ (some ((o.idxOf k : Nat) : Int)).toList, 0 ≤ i ∧ i < 2 ^ 62 := by
    intro i hi
    have h := List.idxOf_lt_length_of_mem hk
    simp only [Option.toList, List.nil_append, List.mem_singleton] at hi
    subst hi
    lia
  have ec : cut (nl o) none (some ((o.idxOf k : Nat) : Int)) = nl (o.take (o.idxOf k)) := by
    show (nl o).take _ = _
    rw [Int.toNat_natCast, nl, nl, List.map_take]
  have hg := pickG_map rs k (o.take (o.idxOf k))
  have hc : (nl ((o.take (o.idxOf k)).filter fun j => decide (rt rs k < rt rs j))).length = ahead (rt rs) k o := by rw [nl_len, ahead_cnt _ _ _ hk]
  have ha := ahead_le (rt rs) k o
  unfold eGr
  simp only [↓evE_comp, ↓evE_slc, ↓evE_meth, ↓evE_var, ↓evO_no, ↓evO_yes, ↓evEs_nil, ↓evEs_cons, List.getElem?_cons_zero, List.getElem?_cons_succ, ↓methOk_list, ↓meth_list, ↓sliceOf_list]
  refine ⟨trivial, trivial, _, by rw [nl_map]; exact isInts_map _, List.mem_map.mpr ⟨k, hk, rfl⟩, ?_⟩
  rw [idx_cast]
  refine ⟨_, rfl, hb, ?_⟩
  rw [ec]
  refine ⟨_, _, rfl, rfl, ?_⟩
  refine loopI_map (fun ψ => ∃ s, ψ = [s, .val (.list (rtL rs)), .val (.int k)]) (pickG rs k) _ _ [] ⟨_, rfl⟩ (by rw [hg, hc, List.length_nil]; lia) ?_ ?_
  · rintro v hv ψ acc N ⟨s, rfl⟩ hz' hN
    obtain ⟨j, hj, rfl⟩ := List.mem_map.mp hv
    have hj' := ho j (List.mem_of_mem_take hj)
    rw [pickG_at] at hz' hN
    have za : acc.length ≤ 65536 := by lia
    simp only [↓asg_one, ↓evTs_nil, ↓evTs_cons, ↓evT_cmp, ↓evE_sub, ↓evE_var, ↓evG_nil, ↓itemAt_list, List.set_cons_zero, List.getElem?_cons_zero, List.getElem?_cons_succ]
    refine ⟨Int.natCast_nonneg _, _, rt_at hj', Int.natCast_nonneg _, _, rt_at (ho k hk), ?_⟩
    refine cmp_gtI ?_
    have e : decide (((rt rs j : Nat) : Int) > ((rt rs k : Nat) : Int)) = decide (rt rs k < rt rs j) := decide_eq_decide.mpr Int.ofNat_lt
    rw [e]
    by_cases q : rt rs k < rt rs j
    · rw [if_pos q] at hN
      rw [decide_eq_true q]
      exact ⟨fun _ => ⟨fun _ => ⟨za, hN _ ⟨_, rfl⟩⟩, nofun⟩, nofun⟩
    · rw [if_neg q] at hN
      rw [decide_eq_false q]
      have := hN _ ⟨.val (.int j), rfl⟩
      rw [List.append_nil] at this
      exact ⟨nofun, fun _ => ⟨nofun, fun _ => this⟩⟩
  · rintro ψ _
    rw [List.nil_append, hg]
    exact ⟨by rw [hc]; lia, hK _ hc⟩
theorem ev_ml {rs o : List Nat} (ho : o.Perm (List.range rs.length)) (hz : rs.length ≤ 6) :
    evB (gt a ex) SP SX bMl (φ0 ΓMl [.list (rtL rs), .list (nl o)]) ⟨fun _ => False, fun pv => pv = .list (mailL rs o rs.length), fun _ => False⟩ := by
  have g0 : (gt a ex)[0]? = some (("len" : Str), PV.raw (.builtin "len")) := rfl
  have g3 : (gt a ex)[3]? = some (("range" : Str), PV.raw (.type "range")) := rfl
  have hlen : o.length = rs.length := by simpa using ho.length_eq
  have hlt : ∀ j ∈ o, j < rs.length := fun j hj => List.mem_range.mp (ho.mem_iff.mp hj)
  show evB (gt a ex) SP SX bMl (fM rs o .unb .unb .unb) _
  unfold bMl
  refine evB_step (fun ψ => ψ = fM rs o (.own (mailL rs o 0)) .unb .unb) (fun N hN => ?_) ?_
  · simp only [↓evS_own, ↓evE_list, ↓evEs_nil]
    exact ⟨by simp, _, rfl, hN _ rfl⟩
  rintro ψ rfl
  refine evB_step (fun ψ => ∃ s3 s4, ψ = fM rs o (.own (mailL rs o rs.length)) s3 s4) (fun N hN => ?_) ?_
  · simp only [↓evS_loop, ↓evE_call, ↓evE_glob, ↓evE_var, ↓evEs_nil, ↓evEs_cons, g0, g3, List.getElem?_cons_zero, List.getElem?_cons_succ]
    rw [app_len, nl_len, hlen]
    rw [app_type, if_neg (by decide), if_pos rfl]
    refine ⟨by lia, by lia, _, rfl, ?_⟩
    refine loopF_all (fun k ψ => ∃ s3 s4, ψ = fM rs o (.own (mailL rs o k)) s3 s4) _ 0 _ ⟨_, _, rfl⟩ ?_ ?_
    · rintro k v ψ N' hv ⟨s3, s4, rfl⟩ hN'
      rw [Nat.zero_add] at hN' ⊢
      rw [Int.toNat_natCast] at hv
      have hp : k < rs.length ∧ v = .int k := by
        rw [List.getElem?_map] at hv
        rcases Nat.lt_or_ge k rs.length with q | q
        · rw [List.getElem?_range q] at hv; cases hv; exact ⟨q, rfl⟩
        · rw [List.getElem?_eq_none (by simpa using q)] at hv; cases hv
      obtain ⟨hk, rfl⟩ := hp
      have hko : k ∈ o := ho.mem_iff.mpr (List.mem_range.mpr hk)
      have ha := ahead_le (rt rs) k o
      have hml : (mailL rs o k).length = k := by simp [mailL, mailS]
      show evB (gt a ex) SP SX bRow (fM rs o (.own (mailL rs o k)) (.val (.int k)) s4) _
      unfold bRow
      refine evB_step (fun ψ => ∃ l, (nl l).length = ahead (rt rs) k o ∧ ψ = fM rs o (.own (mailL rs o k)) (.val (.int k)) (.val (.list (nl l)))) (fun N'' hN'' => ?_) ?_
      · rw [evS_asg]
        exact gr_ev hko hlt (by lia) fun l hl => hN'' _ ⟨l, hl, rfl⟩
      rintro ψ ⟨l, hl, rfl⟩
      simp only [↓evB_cons, ↓evB_nil_, ↓evS_app, ↓evE_bin, ↓evE_const, ↓evE_call, ↓evE_glob, ↓evE_var, ↓evE_sub, ↓evEs_nil, ↓evEs_cons, g0, ↓binop_Mult, ↓binop_Add, ↓mulP_str, ↓onInt_int, ↓itemAt_str, List.getElem?_cons_zero, List.getElem?_cons_succ]
      rw [app_len, hl]
      have hd : ((ahead (rt rs) k o : Nat) : Int).toNat = ahead (rt rs) k o := Int.toNat_natCast _
      simp only [↓mulP_str, ↓onInt_int]
      rw [mul_dots, hd]
      refine ⟨by decide +kernel, by lia, by lia, Int.natCast_nonneg _, _, by rw [Int.toNat_natCast]; exact abc_at k (by lia), ?_⟩
      simp only [↓addP_str, ↓onStr_str]
      rw [dots_len]
      refine ⟨by show _ + 1 ≤ _; lia, trivial, by rw [hml]; lia, hN' _ ⟨.val (.int k), .val (.list (nl l)), ?_⟩⟩
      have : mailL rs o (k + 1) = mailL rs o k ++ [PV.str (row (ahead (rt rs) k o) k)] := by
        unfold mailL mailS
        rw [List.range_succ, List.map_append, List.map_append]; rfl
      rw [this]; rfl
    · rintro ψ ⟨s3, s4, rfl⟩
      rw [Nat.zero_add, List.length_map, List.length_range, Int.toNat_natCast]
      exact evB_nil (hN _ ⟨_, _, rfl⟩)
  rintro ψ ⟨s3, s4, rfl⟩
  rw [evB_cons, evS_ret, evE_var]
  exact ⟨by simp [mailL, mailS]; lia, rfl⟩
end
end Mine
end
section
open Builtin Builtin.Str
namespace Mine

/-! lines, glued and sent -/
noncomputable def glue (sep : List Nat) : List (List Nat) → List Nat
  | [] => []
  | x :: r => match r with
    | [] => x
    | _ :: _ => x ++ sep ++ glue sep r
theorem glue_two (sep x y : List Nat) (r : List (List Nat)) : glue sep (x :: y :: r) = x ++ sep ++ glue sep (y :: r) := rfl
theorem join_glue (sep : Str) : ∀ ts : List Str, (Str.join sep ts).cps.toList = glue sep.cps.toList (ts.map (·.cps.toList))
  | [] => rfl
  | [x] => rfl
  | x :: y :: r => by
    show (x ++ sep ++ Str.join sep (y :: r)).cps.toList = _
    have ih := join_glue sep (y :: r)
    rw [List.map_cons] at ih
    rw [List.map_cons, List.map_cons, glue_two, ← ih]
    exact Array.toList_append.trans (congrArg (· ++ _) Array.toList_append)
noncomputable def crlf (c : Nat) : List Nat := if c = 10 then [13, 10] else [c]
theorem subL_nl (t : Array Nat) : ∀ (l : List Nat) (p : Nat), (∀ i, t.getD (p + i) 0 = l.getD i 0) → subL (nlAt t) [13, 10] p l = l.flatMap crlf
  | [], _, _ => rfl
  | c :: r, p, h => by
    have h0 : t.getD p 0 = c := h 0
    have ih := subL_nl t r (p + 1) fun i => by
      have := h (i + 1)
      rw [Nat.add_assoc, Nat.add_comm 1 i, this]; rfl
    rw [subL_cons, ih, List.flatMap_cons]
    congr 1
    unfold nlAt crlf
    rw [h0]
    by_cases e : c = 10
    · subst e; rfl
    · have : (c == 10) = false := by simpa using e
      rw [this, if_neg e]; rfl
noncomputable def dbl (b : Bool) : List Nat → List Nat
  | [] => []
  | c :: r => (if b && c == 46 then [46, 46] else [c]) ++ dbl (c == 10) r
theorem subL_dot (t : Array Nat) : ∀ (l : List Nat) (p : Nat) (b : Bool), b = (p == 0 || t.getD (p - 1) 0 == 10) → (∀ i, t.getD (p + i) 0 = l.getD i 0) → subL (dotAt t) [46, 46] p l = dbl b l
  | [], _, _, _, _ => rfl
  | c :: r, p, b, hb, h => by
    have h0 : t.getD p 0 = c := h 0
    have ih := subL_dot t r (p + 1) (c == 10) (by rw [Nat.add_sub_cancel, h0]; rfl) fun i => by
      have := h (i + 1)
      rw [Nat.add_assoc, Nat.add_comm 1 i, this]; rfl
    rw [subL_cons, ih]
    show _ = (if b && c == 46 then [46, 46] else [c]) ++ _
    unfold dotAt
    rw [h0, ← hb]
theorem flat_plain : ∀ x : List Nat, 10 ∉ x → x.flatMap crlf = x
  | [], _ => rfl
  | c :: r, h => by
    rw [List.flatMap_cons, flat_plain r fun q => h (List.mem_cons_of_mem _ q)]
    unfold crlf
    rw [if_neg fun e : c = 10 => h (e ▸ List.mem_cons_self)]; rfl
theorem flat_glue : ∀ ls : List (List Nat), (∀ x ∈ ls, 10 ∉ x) → (glue [10] ls).flatMap crlf = glue [13, 10] ls
  | [], _ => rfl
  | [x], h => flat_plain x (h x List.mem_cons_self)
  | x :: y :: r, h => by
    rw [glue_two, glue_two, List.flatMap_append, List.flatMap_append, flat_plain x (h x List.mem_cons_self), flat_glue (y :: r) fun z hz => h z (List.mem_cons_of_mem _ hz)]; rfl
theorem dbl_end : ∀ (x : List Nat) (b : Bool) (r : List Nat), 10 ∉ x → dbl b (x ++ [13, 10] ++ r) = dbl b x ++ [13, 10] ++ dbl true r
  | [], b, r, _ => by
    show (if b && false then [46, 46] else [13]) ++ ((if false && false then [46, 46] else [10]) ++ dbl true r) = _
    rw [Bool.and_false]; rfl
  | c :: x, b, r, h => by
    have e : (c == 10) = false := by simpa using fun e : c = 10 => h (e ▸ List.mem_cons_self)
    show (if b && c == 46 then [46, 46] else [c]) ++ dbl (c == 10) (x ++ [13, 10] ++ r) = (if b && c == 46 then [46, 46] else [c]) ++ dbl (c == 10) x ++ [13, 10] ++ _
    rw [e, dbl_end x false r fun q => h (List.mem_cons_of_mem _ q)]
    simp only [List.append_assoc]
theorem dbl_glue : ∀ ls : List (List Nat), (∀ x ∈ ls, 10 ∉ x) → dbl true (glue [13, 10] ls) = glue [13, 10] (ls.map (dbl true))
  | [], _ => rfl
  | [x], _ => rfl
  | x :: y :: r, h => by
    rw [glue_two, dbl_end x true _ (h x List.mem_cons_self), dbl_glue (y :: r) fun z hz => h z (List.mem_cons_of_mem _ hz)]; rfl
theorem getD_list (t : Array Nat) (i : Nat) : t.getD i 0 = t.toList.getD i 0 := by
  rw [Array.getD_eq_getD_getElem?, List.getD_eq_getElem?_getD, Array.getElem?_toList]
theorem glue_uniq : ∀ (a b : List (List Nat)), a ≠ [] → b ≠ [] → (∀ x ∈ a, 13 ∉ x) → (∀ x ∈ b, 13 ∉ x) → glue [13, 10] a = glue [13, 10] b → a = b := by
  have cut : ∀ (x y : List Nat) (r s : List Nat), 13 ∉ x → 13 ∉ y → x ++ 13 :: r = y ++ 13 :: s → x = y ∧ r = s := by
    intro x
    induction x with
    | nil =>
      intro y r s _ hy e
      cases y with
      | nil => exact ⟨rfl, (List.cons.inj e).2⟩
      | cons c y => exact absurd ((List.cons.inj e).1 ▸ List.mem_cons_self) hy
    | cons c x ih =>
      intro y r s hx hy e
      cases y with
      | nil => exact absurd ((List.cons.inj e).1 ▸ List.mem_cons_self) hx
      | cons d y =>
        obtain ⟨e1, e2⟩ := List.cons.inj e
        obtain ⟨e3, e4⟩ := ih y r s (fun q => hx (List.mem_cons_of_mem _ q)) (fun q => hy (List.mem_cons_of_mem _ q)) e2
        exact ⟨by rw [e1, e3], e4⟩
  have two : ∀ x y r, glue [13, 10] (x :: y :: r) = x ++ 13 :: 10 :: glue [13, 10] (y :: r) := fun x y r => by rw [glue_two, List.append_assoc]; rfl
  have mem : ∀ x y r, 13 ∈ glue [13, 10] (x :: y :: r) := fun x y r => by rw [two]; exact List.mem_append_right _ List.mem_cons_self
  intro a
  induction a with
  | nil => exact fun b h => absurd rfl h
  | cons x a ih =>
    intro b _ hb ha hb2 e
    cases b with
    | nil => exact absurd rfl hb
    | cons y b =>
      cases a with
      | nil =>
        cases b with
        | nil => exact congrArg (fun z => [z]) e
        | cons z b =>
          have := mem y z b
          rw [← e] at this
          exact absurd this (ha x List.mem_cons_self)
      | cons u a =>
        cases b with
        | nil =>
          have := mem x u a
          rw [e] at this
          exact absurd this (hb2 y List.mem_cons_self)
        | cons z b =>
          rw [two, two] at e
          obtain ⟨e1, e2⟩ := cut x y _ _ (ha x List.mem_cons_self) (hb2 y List.mem_cons_self) e
          rw [e1, ih (z :: b) nofun nofun (fun w hw => ha w (List.mem_cons_of_mem _ hw)) (fun w hw => hb2 w (List.mem_cons_of_mem _ hw)) (List.cons.inj e2).2]
end Mine
end
section
open Builtin Builtin.Str
namespace Mine

noncomputable def follow : List Nat → Prop
  | [] => True
  | c :: r => (c = 13 → r.head? = some 10) ∧ follow r
theorem follow_plain : ∀ x : List Nat, 13 ∉ x → follow x
  | [], _ => trivial
  | c :: r, h => ⟨fun e => absurd (e ▸ List.mem_cons_self) h, follow_plain r fun q => h (List.mem_cons_of_mem _ q)⟩
theorem follow_app (r : List Nat) (hr : follow (13 :: 10 :: r)) : ∀ x : List Nat, 13 ∉ x → follow (x ++ 13 :: 10 :: r)
  | [], _ => hr
  | c :: x, h => ⟨fun e => absurd (e ▸ List.mem_cons_self) h, follow_app r hr x fun q => h (List.mem_cons_of_mem _ q)⟩
theorem follow_glue : ∀ ls : List (List Nat), (∀ x ∈ ls, 13 ∉ x) → follow (glue [13, 10] ls)
  | [], _ => trivial
  | [x], h => follow_plain x (h x List.mem_cons_self)
  | x :: y :: r, h => by
    rw [glue_two, List.append_assoc]
    refine follow_app _ ⟨fun _ => rfl, fun e => absurd e (by decide), follow_glue (y :: r) fun z hz => h z (List.mem_cons_of_mem _ hz)⟩ x (h x List.mem_cons_self)
theorem crlf_len : ("\r\n" : Str).length = 2 := by decide +kernel
theorem crlf_list : ("\r\n" : Str).cps.toList = [13, 10] := by decide +kernel
theorem sub_at {z : Str} {i : Nat} {l : List Nat} (h : z.cps.toList.drop i = l) : subAt z "\r\n" i = true ↔ l.take 2 = [13, 10] := by
  unfold subAt
  rw [beq_iff_eq, ← Array.toList_inj, crlf_len, crlf_list, Array.toList_extract, ← h]
  have : List.extract z.cps.toList i (i + 2) = (z.cps.toList.drop i).take 2 := by
    rw [List.extract_eq_drop_take, Nat.add_sub_cancel_left]
  rw [this]
theorem occ_run (z : Str) : ∀ (l : List Nat) (i : Nat) (st : Array Nat × Nat), z.cps.toList.drop i = l → i + l.length = z.length → follow l → st.1.size ≤ i → (st.2 ≤ i ∨ (st.2 = i + 1 ∧ l.head? ≠ some 13)) →
    (forIn (List.range' i (l.length + 1)) st (StrLaws.occBody z "\r\n" z.length (z.length + 1))).run.fst.size = st.1.size + l.count 13
  | [], i, st, _, hl, _, _, _ => by
    have e : i = z.length := hl
    rw [List.length_nil, List.range'_succ, List.forIn_cons]
    unfold StrLaws.occBody
    rw [crlf_len, if_neg (by rintro ⟨⟨_, q⟩, _⟩; lia)]
    rfl
  | c :: r, i, st, hd, hl, hf, hs, hfr => by
    have hl' : i + (r.length + 1) = z.length := hl
    have hd' : z.cps.toList.drop (i + 1) = r := by rw [← List.drop_drop, hd]; rfl
    have ih := fun st => occ_run z r (i + 1) st hd' (by lia) hf.2
    rw [List.length_cons, List.range'_succ, List.forIn_cons]
    by_cases e : c = 13
    · subst e
      obtain ⟨r', rfl⟩ : ∃ r', r = 10 :: r' := by
        have := hf.1 rfl
        cases r with
        | nil => cases this
        | cons d r' => exact ⟨r', by rw [Option.some.inj this]⟩
      have hle : st.2 ≤ i := hfr.resolve_right fun q => q.2 rfl
      have hlen : i + ((10 :: r').length + 1) = z.length := hl'
      rw [List.length_cons] at hlen
      have step : StrLaws.occBody z "\r\n" z.length (z.length + 1) i st = pure (ForInStep.yield (st.fst.push i, i + 2)) := by
        unfold StrLaws.occBody
        rw [crlf_len, if_pos ⟨⟨⟨by lia, hle⟩, by lia⟩, (sub_at hd).mpr rfl⟩]
      rw [step]
      refine (ih (st.fst.push i, i + 2) (by rw [Array.size_push]; lia) (.inr ⟨rfl, by simp⟩)).trans ?_
      rw [Array.size_push, List.count_cons_self]
      lia
    · have step : StrLaws.occBody z "\r\n" z.length (z.length + 1) i st = pure (ForInStep.yield (st.fst, st.snd)) := by
        unfold StrLaws.occBody
        refine if_neg fun q => ?_
        have := (sub_at hd).mp q.2
        rw [List.take_succ_cons] at this
        exact e (List.cons.inj this).1
      rw [step]
      refine (ih (st.fst, st.snd) (Nat.le_succ_of_le hs) (.inl (by rcases hfr with q | q <;> lia))).trans ?_
      rw [List.count_cons_of_ne (fun q => e q)]
theorem occ_count {z : Str} (hf : follow z.cps.toList) : (occurrences z "\r\n" 0 z.length (z.length + 1)).length = z.cps.toList.count 13 := by
  rw [StrLaws.occ_eq, Array.length_toList]
  have e : z.length + 1 - 0 = z.cps.toList.length + 1 := by rw [Array.length_toList]; rfl
  rw [e, occ_run z z.cps.toList 0 (#[], 0) rfl (by rw [Array.length_toList, Nat.zero_add]; rfl) hf (Nat.le_refl _) (.inl (Nat.le_refl _))]
  exact Nat.zero_add _
theorem glue_count : ∀ ps : List (List Nat), ps ≠ [] → (glue [13, 10] ps).count 13 + 1 = (ps.map fun p => p.count 13).sum + ps.length
  | [], h => absurd rfl h
  | [x], _ => by
    show x.count 13 + 1 = (x.count 13 + 0) + 1
    rfl
  | x :: y :: r, _ => by
    have ih := glue_count (y :: r) nofun
    have e : ([13, 10] : List Nat).count 13 = 1 := by decide
    rw [glue_two, List.count_append, List.count_append, e, List.map_cons, List.sum_cons, List.length_cons]
    lia
theorem sum_zero : ∀ l : List Nat, l.sum = 0 → ∀ x ∈ l, x = 0
  | [], _, _, h => by cases h
  | y :: l, e, x, h => by
    rw [List.sum_cons] at e
    rcases List.mem_cons.mp h with rfl | h
    · lia
    · exact sum_zero l (by lia) x h
theorem split_lines {z : Str} {ls : List (List Nat)} (hz : z.cps.toList = glue [13, 10] ls) (hn : ls ≠ []) (h13 : ∀ x ∈ ls, 13 ∉ x) : (Txt.split z "\r\n").map (·.cps.toList) = ls ∧
    (partsBetween z (occurrences z "\r\n" 0 z.length (z.length + 1)) ("\r\n" : Str).length).length = ls.length := by
  have hf := follow_glue ls h13
  rw [← hz] at hf
  have hc := occ_count hf
  have hj := StrLaws.glued_between_self z "\r\n" (z.length + 1)
  have hl := length_partsBetween z (occurrences z "\r\n" 0 z.length (z.length + 1)) ("\r\n" : Str).length
  generalize hps : partsBetween z (occurrences z "\r\n" 0 z.length (z.length + 1)) ("\r\n" : Str).length = ps at hj hl
  have hpn : ps ≠ [] := fun e => by rw [e] at hl; cases hl
  have hg : glue [13, 10] (ps.map (·.cps.toList)) = glue [13, 10] ls := by
    rw [← hz, ← crlf_list, ← join_glue, ← hj]
    congr 2
    rw [hj]
    exact (StrLaws.glued_eq_join _ _).symm.trans hj
  have hgc := glue_count (ps.map (·.cps.toList)) (fun e => hpn (List.map_eq_nil_iff.mp e))
  rw [hg, ← hz, ← hc, List.length_map, hl] at hgc
  have h0 := sum_zero ((ps.map (·.cps.toList)).map fun p => p.count 13) (by lia)
  have hm := glue_uniq _ ls (fun e => hpn (List.map_eq_nil_iff.mp e)) hn (fun x hx => List.count_eq_zero.mp (h0 _ (List.mem_map.mpr ⟨x, hx, rfl⟩))) h13 hg
  refine ⟨?_, by rw [← hm, List.length_map]⟩
  unfold Txt.split
  split
  · rename_i hlt
    have hk : Builtin.Str.strKind z < Builtin.Str.strKind "\r\n" → False := fun q => by
      have : Builtin.Str.strKind "\r\n" = 1 := by decide +kernel
      rw [this] at q
      unfold Builtin.Str.strKind at q
      split at q
      · lia
      · split at q <;> lia
    have hlen : z.length < 2 := by
      rcases (Bool.or_eq_true _ _).mp hlt with q | q
      · have := of_decide_eq_true q
        rwa [crlf_len] at this
      · exact (hk (of_decide_eq_true q)).elim
    cases ls with
    | nil => exact absurd rfl hn
    | cons x r => cases r with
      | nil => exact congrArg (fun q => [q]) hz
      | cons y r =>
        have : z.cps.toList.length < 2 := by rw [Array.length_toList]; exact hlen
        rw [hz, glue_two, List.length_append, List.length_append] at this
        have e2 : ([13, 10] : List Nat).length = 2 := rfl
        lia
  · split
    · rename_i he
      have e0 : occurrences z "\r\n" 0 z.length (z.length + 1) = [] := List.isEmpty_iff.mp he
      rw [e0] at hps hl
      rw [← hm, ← hps]
      show [z.cps.toList] = [_]
      congr 1
      show _ = (z.cps.extract 0 z.cps.size).toList
      rw [Array.extract_size]
    · rw [hps]; exact hm
end Mine
end
section
open Builtin Builtin.Str
namespace Mine

theorem glue_mem {sep : List Nat} {c : Nat} : ∀ {ls : List (List Nat)}, c ∈ glue sep ls → c ∈ sep ∨ ∃ x ∈ ls, c ∈ x
  | [], h => by cases h
  | [x], h => .inr ⟨x, List.mem_cons_self, h⟩
  | x :: y :: r, h => by
    rw [glue_two] at h
    rcases List.mem_append.mp h with h | h
    · rcases List.mem_append.mp h with h | h
      · exact .inr ⟨x, List.mem_cons_self, h⟩
      · exact .inl h
    · rcases glue_mem h with h | ⟨z, hz, h⟩
      · exact .inl h
      · exact .inr ⟨z, List.mem_cons_of_mem _ hz, h⟩
theorem glue_len {sep : List Nat} {m : Nat} : ∀ {ls : List (List Nat)}, (∀ x ∈ ls, x.length ≤ m) → (glue sep ls).length ≤ ls.length * (m + sep.length)
  | [], _ => Nat.zero_le _
  | [x], h => by
    have := h x List.mem_cons_self
    show x.length ≤ 1 * _
    lia
  | x :: y :: r, h => by
    have ih := glue_len (sep := sep) (ls := y :: r) fun z hz => h z (List.mem_cons_of_mem _ hz)
    have := h x List.mem_cons_self
    rw [glue_two, List.length_append, List.length_append, List.length_cons (a := x), Nat.add_mul, Nat.one_mul]
    lia
noncomputable def rowsC (cs : Nat → Nat) (n : Nat) : List Str := (List.range n).map fun k => row (cs k) k
noncomputable def lnC (cs : Nat → Nat) (n : Nat) : List (List Nat) := (List.range n).map fun k => List.replicate (cs k) 46 ++ [97 + k]
theorem row_list (c k : Nat) : (row c k).cps.toList = List.replicate c 46 ++ [97 + k] := by
  unfold row dots
  exact Array.toList_append.trans (congrArg (· ++ _) Array.toList_replicate)
theorem rows_ln (cs : Nat → Nat) (n : Nat) : (rowsC cs n).map (·.cps.toList) = lnC cs n := by
  unfold rowsC lnC
  rw [List.map_map]
  exact List.map_congr_left fun k _ => row_list (cs k) k
theorem ln_ok {cs : Nat → Nat} {n : Nat} (hn : n ≤ 6) (hc : ∀ k, cs k ≤ 10) : ∀ x ∈ lnC cs n, x.length ≤ 11 ∧ ∀ c ∈ x, c ≠ 10 ∧ c ≠ 13 ∧ c < 128 := by
  intro x hx
  obtain ⟨k, hk, rfl⟩ := List.mem_map.mp hx
  have := List.mem_range.mp hk
  have h := hc k
  refine ⟨by rw [List.length_append, List.length_replicate]; show _ + 1 ≤ _; lia, fun c hc => ?_⟩
  rcases List.mem_append.mp hc with h | h
  · rw [List.eq_of_mem_replicate h]; decide
  · rw [List.mem_singleton.mp h]; lia
theorem dbl_false : ∀ (c k : Nat), dbl false (List.replicate c 46 ++ [97 + k]) = List.replicate c 46 ++ [97 + k]
  | 0, _ => rfl
  | c + 1, k => congrArg (46 :: ·) (dbl_false c k)
theorem dbl_row (c k : Nat) : dbl true (List.replicate c 46 ++ [97 + k]) = List.replicate (qdots c) 46 ++ [97 + k] := by
  cases c with
  | zero =>
    show (if true && (97 + k == 46) then [46, 46] else [97 + k]) ++ [] = [97 + k]
    have : (97 + k == 46) = false := by simp; omega
    rw [this]; rfl
  | succ c => exact congrArg (46 :: 46 :: ·) (dbl_false c k)
theorem ln_dbl (cs : Nat → Nat) (n : Nat) : (lnC cs n).map (dbl true) = lnC (fun k => qdots (cs k)) n := by
  unfold lnC
  rw [List.map_map]
  exact List.map_congr_left fun k _ => dbl_row (cs k) k
theorem str_map_inj : ∀ {a b : List Str}, a.map (·.cps.toList) = b.map (·.cps.toList) → a = b
  | [], [], _ => rfl
  | [], _ :: _, h => by cases h
  | _ :: _, [], h => by cases h
  | x :: a, y :: b, h => by
    obtain ⟨h1, h2⟩ := List.cons.inj h
    rw [str_map_inj h2, Str.ext' (Array.toList_inj.mp h1)]
noncomputable def tx1 (cs : Nat → Nat) (n : Nat) : Str := ⟨(glue [13, 10] (lnC cs n)).toArray⟩
theorem tx0_list (cs : Nat → Nat) (n : Nat) : (Str.join "\n" (rowsC cs n)).cps.toList = glue [10] (lnC cs n) := by
  rw [join_glue, rows_ln]
  have : ("\n" : Str).cps.toList = [10] := by decide +kernel
  rw [this]
section
variable {cs : Nat → Nat} {n : Nat}
theorem ln_ne (h1 : 1 ≤ n) : lnC cs n ≠ [] := fun e => by
  have : (lnC cs n).length = n := by simp [lnC]
  rw [e] at this
  simp at this; lia
theorem ln_10 (hn : n ≤ 6) (hc : ∀ k, cs k ≤ 10) : ∀ x ∈ lnC cs n, 10 ∉ x := fun x hx h => ((ln_ok hn hc x hx).2 10 h).1 rfl
theorem ln_13 (hn : n ≤ 6) (hc : ∀ k, cs k ≤ 10) : ∀ x ∈ lnC cs n, 13 ∉ x := fun x hx h => ((ln_ok hn hc x hx).2 13 h).2.1 rfl
theorem tx_len {sep : List Nat} (hs : sep.length ≤ 2) (hn : n ≤ 6) (hc : ∀ k, cs k ≤ 10) : (glue sep (lnC cs n)).length ≤ 100 := by
  have h := glue_len (sep := sep) (m := 11) fun x hx => (ln_ok hn hc x hx).1
  have hl : (lnC cs n).length = n := by simp [lnC]
  rw [hl] at h
  have : n * (11 + sep.length) ≤ 6 * 13 := Nat.mul_le_mul hn (by lia)
  lia
theorem tx_asc {sep : List Nat} (hs : ∀ c ∈ sep, c < 128) (hn : n ≤ 6) (hc : ∀ k, cs k ≤ 10) : ∀ c ∈ glue sep (lnC cs n), c < 128 := fun c h => by
  rcases glue_mem h with h | ⟨x, hx, h⟩
  · exact hs c h
  · exact ((ln_ok hn hc x hx).2 c h).2.2
theorem split_sent (h1 : 1 ≤ n) (hn : n ≤ 6) (hc : ∀ k, cs k ≤ 10) : Txt.split (tx1 cs n) "\r\n" = rowsC cs n ∧ (partsBetween (tx1 cs n) (occurrences (tx1 cs n) "\r\n" 0 (tx1 cs n).length ((tx1 cs n).length + 1)) ("\r\n" : Str).length).length = n := by
  obtain ⟨h2, h3⟩ := split_lines (z := tx1 cs n) (ls := lnC cs n) rfl (ln_ne h1) (ln_13 hn hc)
  refine ⟨str_map_inj (h2.trans (rows_ln cs n).symm), h3.trans ?_⟩
  simp [lnC]
theorem rows_ok2 (hn : n ≤ 6) (hc : ∀ k, cs k ≤ 10) : ∀ y ∈ rowsC cs n, y.length ≤ 1000 ∧ asc y := by
  intro y hy
  have := ln_ok hn hc y.cps.toList (by rw [← rows_ln]; exact List.mem_map.mpr ⟨y, hy, rfl⟩)
  exact ⟨Nat.le_trans (Nat.le_of_eq Array.length_toList.symm) (Nat.le_trans this.1 (by decide)), fun c hc => (this.2 c hc).2.2⟩
end
section
variable {prog : Program} {w : World} {K : Frag} {H : Heap} {a : Ad} {ex : List (Str × PV)} {cs : Nat → Nat} {n : Nat}
theorem spec_jn (m : Nat) (hn : n ≤ 6) (hc : ∀ k, cs k ≤ 10) : Spec prog w H m (.builtin "str.join") [.str "\n", .list ((rowsC cs n).map PV.str)] (.str (Str.join "\n" (rowsC cs n))) :=
  join_spec (fun y hy => (rows_ok2 hn hc y hy).1) (by simp [rowsC]; lia) (by decide +kernel) (fun y hy => (rows_ok2 hn hc y hy).2) (fun c hc => by revert c; decide)
theorem spec_sp (m : Nat) (h1 : 1 ≤ n) (hn : n ≤ 6) (hc : ∀ k, cs k ≤ 10) : Spec prog w H m (.builtin "str.split") [.str (tx1 cs n), .str "\r\n"] (.list ((rowsC cs n).map PV.str)) := by
  obtain ⟨e1, e2⟩ := split_sent h1 hn hc
  have h := split_spec (prog := prog) (w := w) (H := H) (n := m) (x := tx1 cs n) (y := "\r\n") (by decide +kernel) (Nat.le_trans (tx_len (sep := [13, 10]) (by decide) hn hc) (by decide)) (by rw [e1]; exact rows_ok2 hn hc) (by rw [e1]; simp [rowsC]; lia) (by rw [e2]; lia)
  rwa [e1] at h
theorem spec_qdL (KX : K.In H) (L : Lib K a ex) (G : GlobOk H (gt a ex)) (hlim : H.NoLimit) (m : Nat) (hn : n ≤ 6) (hc : ∀ k, cs k ≤ 9) :
    Spec prog w H (m + 1) (.ref a.qd) [.str (Str.join "\n" (rowsC cs n))] (.str (tx1 (fun k => qdots (cs k)) n)) := by
  have hc2 : ∀ k, cs k ≤ 10 := fun k => Nat.le_succ_of_le (hc k)
  have l0 := tx0_list cs n
  have len0 : (Str.join "\n" (rowsC cs n)).length = (glue [10] (lnC cs n)).length := by rw [← l0, Array.length_toList]; rfl
  have asc0 : asc (Str.join "\n" (rowsC cs n)) := fun c hcc => tx_asc (sep := [10]) (by decide) hn hc2 c (l0 ▸ hcc)
  have no13 : ∀ i, (Str.join "\n" (rowsC cs n)).cps.getD i 0 ≠ 13 := fun i e => by
    rw [getD_list, l0] at e
    have hm : 13 ∈ glue [10] (lnC cs n) := by
      rw [List.getD_eq_getElem?_getD] at e
      cases q : (glue [10] (lnC cs n))[i]? with
      | none => rw [q] at e; cases e
      | some v => rw [q] at e; exact (show v = 13 from e) ▸ List.mem_of_getElem? q
    rcases glue_mem hm with h | ⟨x, hx, h⟩
    · revert h; decide
    · exact ln_13 hn hc2 x hx h
  refine def_spec (lib_tops KX L G hlim m) hlim KX L.qd.fn L.qd.bind L.qd.body rfl fun _ => ev_qd (y := tx1 cs n) ?_ ?_
  · refine sub_spec (P := nlAt (Str.join "\n" (rowsC cs n)).cps) (pat_at KX L.r2) (finds2 _ no13) (by rw [len0]; exact Nat.le_trans (tx_len (by decide) hn hc2) (by decide)) (by decide +kernel) (by decide +kernel) (fun c hc => by revert c; decide) asc0 ?_
    rw [crlf_list, subL_nl _ _ 0 (fun i => by rw [Nat.zero_add, getD_list]), l0]
    exact (flat_glue _ (ln_10 hn hc2)).symm
  · refine sub_spec (P := dotAt (tx1 cs n).cps) (pat_at KX L.r1) (finds1 _) (Nat.le_trans (tx_len (sep := [13, 10]) (by decide) hn hc2) (by decide)) (by decide +kernel) (by decide +kernel) (fun c hc => by revert c; decide) (fun c hcc => tx_asc (sep := [13, 10]) (by decide) hn hc2 c hcc) ?_
    have e : ("..": Str).cps.toList = [46, 46] := by decide +kernel
    rw [e, subL_dot _ _ 0 true rfl (fun i => by rw [Nat.zero_add, getD_list])]
    show _ = dbl true (glue [13, 10] (lnC cs n))
    rw [dbl_glue _ (ln_10 hn hc2), ln_dbl]; rfl
end
end Mine
end
section
open Builtin Builtin.Str
namespace Mine

/-! sorted texts -/
noncomputable def LtS (x y : Str) : Prop := x.cps.toList < y.cps.toList
theorem LtS.irr (x : Str) : ¬ LtS x x := List.lt_irrefl _
theorem LtS.tr {x y z : Str} (h : LtS x y) (k : LtS y z) : LtS x z := List.lt_trans h k
theorem LtS.eq {x y : Str} (h : ¬ LtS x y) (k : ¬ LtS y x) : x = y := Str.ext' (Array.toList_inj.mp (List.le_antisymm (List.not_lt.mp k) (List.not_lt.mp h)))
theorem rise_pair : ∀ (l : List Str) (p : Str), risingS p l = true → (p :: l).Pairwise fun a b => ¬ LtS b a
  | [], _, _ => List.pairwise_singleton _ _
  | x :: r, p, h => by
    have h1 : ¬ LtS x p := by
      have := and_l h
      rw [ltCps_eq, Bool.not_eq_true', decide_eq_false_iff_not] at this
      exact this
    have ih := rise_pair r x (and_r h)
    refine List.pairwise_cons.mpr ⟨fun b hb => ?_, ih⟩
    rcases List.mem_cons.mp hb with rfl | hb
    · exact h1
    · have h2 := (List.pairwise_cons.mp ih).1 b hb
      exact List.not_lt.mpr (List.le_trans (List.not_lt.mp h1) (List.not_lt.mp h2))
theorem srt_pair : ∀ l : List Str, sortedS l = true → l.Pairwise fun a b => ¬ LtS b a
  | [], _ => .nil
  | x :: r, h => rise_pair r x h
theorem srt_uniq : ∀ {a b : List Str}, a.Perm b → (a.Pairwise fun a b => ¬ LtS b a) → b.Pairwise LtS → a = b
  | [], b, p, _, _ => p.nil_eq
  | x :: l, b, p, ha, hb => by
    cases b with
    | nil => exact absurd p.length_eq (by simp)
    | cons y t =>
      have hx : x ∈ y :: t := p.mem_iff.mp (.head _)
      have hy : y ∈ x :: l := p.mem_iff.mpr (.head _)
      have e : x = y := by
        rcases List.mem_cons.mp hx with h | h
        · exact h
        · rcases List.mem_cons.mp hy with h' | h'
          · exact h'.symm
          · exact absurd ((List.pairwise_cons.mp hb).1 x h) ((List.pairwise_cons.mp ha).1 y h')
      subst e
      rw [srt_uniq (List.Perm.cons_inv p) (List.pairwise_cons.mp ha).2 (List.pairwise_cons.mp hb).2]
theorem mem_uniq : ∀ {a b : List Str}, a.Pairwise LtS → b.Pairwise LtS → (∀ x, x ∈ a ↔ x ∈ b) → a = b
  | [], [], _, _, _ => rfl
  | [], y :: t, _, _, h => absurd ((h y).mpr List.mem_cons_self) List.not_mem_nil
  | x :: l, [], _, _, h => absurd ((h x).mp List.mem_cons_self) List.not_mem_nil
  | x :: l, y :: t, ha, hb, h => by
    obtain ⟨a1, a2⟩ := List.pairwise_cons.mp ha
    obtain ⟨b1, b2⟩ := List.pairwise_cons.mp hb
    have e : x = y := by
      rcases List.mem_cons.mp ((h x).mp List.mem_cons_self) with q | q
      · exact q
      · rcases List.mem_cons.mp ((h y).mpr List.mem_cons_self) with q2 | q2
        · exact q2.symm
        · exact absurd ((b1 x q).tr (a1 y q2)) (LtS.irr _)
    subst e
    rw [mem_uniq a2 b2 fun z => ⟨fun hz => ((List.mem_cons.mp ((h z).mp (List.mem_cons_of_mem _ hz))).resolve_left fun q => LtS.irr x (by have := a1 z hz; rwa [q] at this)),
      fun hz => ((List.mem_cons.mp ((h z).mpr (List.mem_cons_of_mem _ hz))).resolve_left fun q => LtS.irr x (by have := b1 z hz; rwa [q] at this))⟩]
theorem ins_ex (x : Str) : ∀ us : List Str, us.Pairwise LtS → x ∉ us → ∃ vs : List Str, vs.Perm (x :: us) ∧ vs.Pairwise LtS
  | [], _, _ => ⟨[x], .refl _, List.pairwise_singleton _ _⟩
  | y :: r, h, hx => by
    obtain ⟨h1, h2⟩ := List.pairwise_cons.mp h
    by_cases q : LtS x y
    · refine ⟨x :: y :: r, .refl _, List.pairwise_cons.mpr ⟨fun b hb => ?_, h⟩⟩
      rcases List.mem_cons.mp hb with rfl | hb
      · exact q
      · exact q.tr (h1 b hb)
    · obtain ⟨vs, p, hv⟩ := ins_ex x r h2 fun m => hx (List.mem_cons_of_mem _ m)
      have q2 : LtS y x := Classical.byContradiction fun q2 => hx (LtS.eq q q2 ▸ List.mem_cons_self)
      refine ⟨y :: vs, (p.cons y).trans (.swap x y r), List.pairwise_cons.mpr ⟨fun b hb => ?_, hv⟩⟩
      rcases List.mem_cons.mp (p.mem_iff.mp hb) with rfl | hb
      · exact q2
      · exact h1 b hb
theorem srt_ex : ∀ ts : List Str, ts.Nodup → ∃ us : List Str, us.Perm ts ∧ us.Pairwise LtS
  | [], _ => ⟨[], .refl _, .nil⟩
  | x :: ts, h => by
    obtain ⟨h1, h2⟩ := List.nodup_cons.mp h
    obtain ⟨us, p, hu⟩ := srt_ex ts h2
    obtain ⟨vs, p2, hv⟩ := ins_ex x us hu fun m => h1 (p.mem_iff.mp m)
    exact ⟨vs, p2.trans (p.cons x), hv⟩
section
variable {prog : Program} {w : World} {H : Heap}
theorem spec_sort {ts us : List Str} (m : Nat) (hp : us.Perm ts) (hu : us.Pairwise LtS) (h64 : ts.length < 64) (hz : ∀ y ∈ ts, y.length ≤ 1000 ∧ asc y) : Spec prog w H m (.builtin "sorted") [.list (ts.map PV.str)] (.list (us.map PV.str)) := by
  refine ⟨trivial, fun A s ow vs Q E hA hN hv hQ => ?_⟩
  unfold VRs at hv
  obtain ⟨v1, r, rfl, r1, hv⟩ := hv
  unfold VRs at hv; subst hv
  unfold VR at r1
  obtain ⟨a, xs, k, rfl, fz, lz, hs⟩ := r1
  obtain ⟨l, rfl, rfl⟩ := strs_of hs
  have hl : (strValues l).length = (l.map (·.1)).length := by simp [strValues]
  refine sorted_strs (l := a) (vs := strValues l) ⟨_, fz.2, rfl, k, rfl⟩ (strsAre_of_values l) (by rw [hl]; exact h64) fun out ss h1 h2 h3 => ?_
  obtain rfl : ss = us := srt_uniq (h2.trans hp.symm) (srt_pair _ h3) hu
  obtain ⟨e, he⟩ := sortedAll_at s.heap (strValues l) out
  obtain ⟨l2, e2, e3⟩ := strsAre_values h1
  subst e3
  refine hQ _ _ _ s.toks rfl (fun _ _ => sortedAll_old) ?_
  have z : sizeLine = 16777216 := rfl
  have hvr := vrs_strs (P := Fz ow (sortedAll s.heap (strValues l) out)) l2 fun y hy => by
    obtain ⟨k1, k2⟩ := hz y (hp.mem_iff.mp hy)
    exact ⟨by lia, k2⟩
  refine vr_listObj (vs := strValues l2) (n := e) ?_ (hN.fresh _ (Heap.get?_none_of_le (Nat.le_succ _))) hvr ?_
  · rw [he, ← e2]
  · have h4 := hp.length_eq
    rw [List.length_map]
    lia
end
end Mine
end
section
open Builtin Builtin.Str
namespace Mine

noncomputable def ltS (x y : Str) : Bool := decide (x.cps.toList < y.cps.toList)
theorem ltS_t {x y : Str} (h : LtS x y) : ltS x y = true := decide_eq_true h
theorem ltS_f {x y : Str} (h : ¬ LtS x y) : ltS x y = false := decide_eq_false h
theorem keep_x {p : Str → Bool} {x : Str} {l : List Str} (h : p x = true) : (x :: l).filter p = x :: l.filter p := List.filter_cons_of_pos h
theorem drop_x {p : Str → Bool} {x : Str} {l : List Str} (h : p x = false) : (x :: l).filter p = l.filter p := List.filter_cons_of_neg (by rw [h]; nofun)
theorem ordS : OrdOk PV.str ltS where
  l := fun x y K h => h
  g := fun x y K h => h
  n := fun x y h => by
    refine ⟨.str x, .str y, rfl, rfl, Nat.le_trans (Nat.min_le_left _ _) (by show (0:Nat) ≤ 8 ; decide), ?_⟩
    show (x == y) = false
    rw [beq_eq_false_iff_ne]
    rintro rfl
    exact LtS.irr x (of_decide_eq_true (p := x.cps.toList < x.cps.toList) h)
theorem up_of : ∀ {l : List Str}, l.Pairwise LtS → Up ltS l := fun {l} hp i x y hx hy => by
  obtain ⟨h1, e1⟩ := List.getElem?_eq_some_iff.mp hx
  obtain ⟨h2, e2⟩ := List.getElem?_eq_some_iff.mp hy
  have := List.pairwise_iff_getElem.mp hp i (i + 1) h1 h2 (Nat.lt_succ_self i)
  rw [e1, e2] at this
  exact ltS_t this
theorem filt_all {α : Type} {p : α → Bool} {l : List α} (h : ∀ x ∈ l, p x = true) : l.filter p = l := List.filter_eq_self.mpr h
theorem sld_filt : ∀ (xs ys : List Str), xs.Pairwise LtS → ys.Pairwise LtS → sldP ltS xs ys = (xs.filter (fun x => decide (x ∉ ys)), ys.filter (fun y => decide (y ∉ xs)))
  | [], ys, _, _ => by
    rw [sldP, filt_all fun y _ => decide_eq_true List.not_mem_nil]; rfl
  | x :: xs, [], _, _ => by
    rw [sldP, filt_all fun y _ => decide_eq_true List.not_mem_nil]; rfl
  | x :: xs, y :: ys, hx, hy => by
    obtain ⟨a1, a2⟩ := List.pairwise_cons.mp hx
    obtain ⟨b1, b2⟩ := List.pairwise_cons.mp hy
    rw [sldP]
    by_cases q : LtS x y
    · have hn : x ∉ y :: ys := fun m => by
        rcases List.mem_cons.mp m with e | m
        · exact LtS.irr y (e ▸ q)
        · exact LtS.irr x (q.tr (b1 x m))
      have q1 := ltS_t q
      rw [q1, if_pos rfl, sld_filt xs (y :: ys) a2 hy, keep_x (x := x) (decide_eq_true hn)]
      congr 1
      refine List.filter_congr fun z hz => decide_eq_decide.mpr ⟨fun h m => ?_, fun h m => h (List.mem_cons_of_mem _ m)⟩
      rcases List.mem_cons.mp m with e | m
      · exact hn (e ▸ hz)
      · exact h m
    · have q1 := ltS_f q
      rw [q1, if_neg nofun]
      by_cases p : LtS y x
      · have hn : y ∉ x :: xs := fun m => by
          rcases List.mem_cons.mp m with e | m
          · exact LtS.irr x (e ▸ p)
          · exact LtS.irr y (p.tr (a1 y m))
        have p1 := ltS_t p
        rw [p1, if_pos rfl, sld_filt (x :: xs) ys hx b2, keep_x (x := y) (decide_eq_true hn)]
        congr 1
        refine List.filter_congr fun z hz => decide_eq_decide.mpr ⟨fun h m => ?_, fun h m => h (List.mem_cons_of_mem _ m)⟩
        rcases List.mem_cons.mp m with e | m
        · exact hn (e ▸ hz)
        · exact h m
      · have p1 := ltS_f p
        obtain rfl := LtS.eq q p
        have n1 : decide (x ∉ x :: ys) = false := decide_eq_false fun h => h List.mem_cons_self
        have n2 : decide (x ∉ x :: xs) = false := decide_eq_false fun h => h List.mem_cons_self
        rw [p1, if_neg nofun, sld_filt xs ys a2 b2, drop_x n1, drop_x n2]
        congr 1
        · refine List.filter_congr fun z hz => decide_eq_decide.mpr ⟨fun h m => ?_, fun h m => h (List.mem_cons_of_mem _ m)⟩
          rcases List.mem_cons.mp m with rfl | m
          · exact LtS.irr _ (a1 _ hz)
          · exact h m
        · refine List.filter_congr fun z hz => decide_eq_decide.mpr ⟨fun h m => ?_, fun h m => h (List.mem_cons_of_mem _ m)⟩
          rcases List.mem_cons.mp m with rfl | m
          · exact LtS.irr _ (b1 _ hz)
          · exact h m
  termination_by xs ys => xs.length + ys.length
theorem row_inj {c d k j : Nat} (h : row c k = row d j) : c = d ∧ k = j := by
  have e : List.replicate c 46 ++ [97 + k] = List.replicate d 46 ++ [97 + j] := by rw [← row_list, ← row_list, h]
  have el := congrArg List.length e
  rw [List.length_append, List.length_append, List.length_replicate, List.length_replicate] at el
  have e2 := congrArg List.getLast? e
  rw [List.getLast?_concat, List.getLast?_concat] at e2
  have := Option.some.inj e2
  exact ⟨Nat.add_right_cancel el, by lia⟩
theorem row_lt (c : Nat) {k j : Nat} (h : k < j) : LtS (row c k) (row c j) := by
  show _ < _
  rw [row_list, row_list]
  induction c with
  | zero =>
    refine of_decide_eq_true (p := ([97 + k] : List Nat) < [97 + j]) ?_
    rw [← ltCps_eq]
    show (decide (97 + k < 97 + j) || _) = true
    rw [decide_eq_true (by lia)]; rfl
  | succ c ih =>
    refine of_decide_eq_true (p := (46 :: (List.replicate c 46 ++ [97 + k]) : List Nat) < 46 :: (List.replicate c 46 ++ [97 + j])) ?_
    rw [← ltCps_eq]
    show (decide (46 < 46) || ((46 == 46) && PySem.Spec.ltCps _ _)) = true
    rw [ltCps_eq, decide_eq_true ih]; rfl
theorem rows_nodup (cs : Nat → Nat) (n : Nat) : (rowsC cs n).Nodup := by
  unfold rowsC
  refine List.Pairwise.map (R := (· ≠ ·)) _ (fun a b h e => h (row_inj e).2) ?_
  exact List.nodup_range
theorem rows_mem {cs : Nat → Nat} {n : Nat} {x : Str} : x ∈ rowsC cs n ↔ ∃ k, k < n ∧ row (cs k) k = x := by
  unfold rowsC
  rw [List.mem_map]
  exact ⟨fun ⟨k, h, e⟩ => ⟨k, List.mem_range.mp h, e⟩, fun ⟨k, h, e⟩ => ⟨k, List.mem_range.mpr h, e⟩⟩
noncomputable def onesC (cs : Nat → Nat) (n c : Nat) : List Str := ((List.range n).filter fun k => cs k == 1).map (row c)
theorem ones_up (cs : Nat → Nat) (n c : Nat) : (onesC cs n c).Pairwise LtS :=
  List.Pairwise.map (R := (· < ·)) _ (fun _ _ h => row_lt c h) (List.pairwise_lt_range.filter _)
theorem ones_mem {cs : Nat → Nat} {n c : Nat} {x : Str} : x ∈ onesC cs n c ↔ ∃ k, k < n ∧ cs k = 1 ∧ row c k = x := by
  unfold onesC
  rw [List.mem_map]
  refine ⟨fun ⟨k, h, e⟩ => ⟨k, List.mem_range.mp (List.mem_filter.mp h).1, beq_iff_eq.mp (List.mem_filter.mp h).2, e⟩, fun ⟨k, h, h1, e⟩ => ⟨k, List.mem_filter.mpr ⟨List.mem_range.mpr h, beq_iff_eq.mpr h1⟩, e⟩⟩
theorem q_pred (c : Nat) : c = qdots (c - 1) ↔ c ≠ 1 := by
  match c with
  | 0 => exact ⟨fun _ => nofun, fun _ => rfl⟩
  | 1 => exact ⟨nofun, fun h => absurd rfl h⟩
  | n + 2 => exact ⟨fun _ => by simp, fun _ => (if_neg (Nat.succ_ne_zero n)).symm⟩
theorem sld_mail {cs : Nat → Nat} {n : Nat} {us vs : List Str} (p1 : us.Perm (rowsC cs n)) (h1 : us.Pairwise LtS) (p2 : vs.Perm (rowsC (fun k => qdots (cs k - 1)) n)) (h2 : vs.Pairwise LtS) :
    sldP ltS us vs = (onesC cs n 1, onesC cs n 0) := by
  rw [sld_filt us vs h1 h2]
  congr 1
  · refine mem_uniq (h1.filter _) (ones_up cs n 1) fun x => ?_
    rw [List.mem_filter, p1.mem_iff, rows_mem, ones_mem, decide_eq_true_eq, p2.mem_iff, rows_mem]
    constructor
    · rintro ⟨⟨k, hk, rfl⟩, h⟩
      have : cs k = 1 := Classical.byContradiction fun q => h ⟨k, hk, by rw [← (q_pred (cs k)).mpr q]⟩
      exact ⟨k, hk, this, by rw [this]⟩
    · rintro ⟨k, hk, hc, rfl⟩
      refine ⟨⟨k, hk, by rw [hc]⟩, fun ⟨j, hj, e⟩ => ?_⟩
      obtain ⟨e1, rfl⟩ := row_inj e
      rw [hc] at e1
      cases e1
  · refine mem_uniq (h2.filter _) (ones_up cs n 0) fun x => ?_
    rw [List.mem_filter, p2.mem_iff, rows_mem, ones_mem, decide_eq_true_eq, p1.mem_iff, rows_mem]
    constructor
    · rintro ⟨⟨k, hk, rfl⟩, h⟩
      have : cs k = 1 := Classical.byContradiction fun q => h ⟨k, hk, by rw [← (q_pred (cs k)).mpr q]⟩
      exact ⟨k, hk, this, by rw [this]; rfl⟩
    · rintro ⟨k, hk, hc, rfl⟩
      refine ⟨⟨k, hk, by rw [hc]; rfl⟩, fun ⟨j, hj, e⟩ => ?_⟩
      obtain ⟨e1, rfl⟩ := row_inj e
      rw [hc] at e1
      cases e1
end Mine
end
section
open Builtin Builtin.Str
namespace Mine

theorem dats_strs : ∀ ts : List Str, dats (ts.map PV.str) = some (ts.map PyData.str)
  | [] => rfl
  | x :: r => by
    rw [List.map_cons, dats_cons, dat_str, dats_strs r]; rfl
theorem eqv_strs : ∀ ts : List Str, PyData.eqvAll (ts.map PyData.str) (ts.map PyData.str) = true
  | [] => by simp [PyData.eqvAll]
  | x :: r => by
    rw [List.map_cons]
    unfold PyData.eqvAll
    rw [eqv_strs r]
    simp [PyData.eqv]
theorem depth_strs : ∀ ts : List Str, PyData.depthAll (ts.map PyData.str) = 0
  | [] => by simp [PyData.depthAll]
  | x :: r => by
    rw [List.map_cons]
    unfold PyData.depthAll
    rw [depth_strs r]
    simp [PyData.depth]
theorem cmp_ne_same {ts : List Str} {K : Bool → Prop} (h : K false) : cmpop .NotEq (.list (ts.map PV.str)) (.list (ts.map PV.str)) K := by
  refine ⟨.list (ts.map .str), .list (ts.map .str), by rw [dat_list, dats_strs]; rfl, by rw [dat_list, dats_strs]; rfl, ?_, ?_⟩
  · refine Nat.le_trans (Nat.min_le_left _ _) ?_
    unfold PyData.depth
    rw [depth_strs]
    decide
  · have e : PyData.eqv (.list (ts.map PyData.str)) (.list (ts.map PyData.str)) = true := by
      unfold PyData.eqv
      exact eqv_strs ts
    rw [e]; exact h
theorem cmp_ne_tup {ts us : List Str} {K : Bool → Prop} (h : K false) : cmpop .NotEq (.tup [.list (ts.map PV.str), .list (us.map PV.str)]) (.tup [.list (ts.map PV.str), .list (us.map PV.str)]) K := by
  have e1 : dat (.tup [.list (ts.map PV.str), .list (us.map PV.str)]) = some (.tuple [.list (ts.map .str), .list (us.map .str)]) := by
    rw [dat_tup, dats_cons, dat_list, dats_strs, dats_cons, dat_list, dats_strs]; rfl
  refine ⟨_, _, e1, e1, ?_, ?_⟩
  · refine Nat.le_trans (Nat.min_le_left _ _) ?_
    simp [PyData.depth, PyData.depthAll, depth_strs]
  · have e : PyData.eqv (.tuple [.list (ts.map PyData.str), .list (us.map PyData.str)]) (.tuple [.list (ts.map PyData.str), .list (us.map PyData.str)]) = true := by
      simp [PyData.eqv, PyData.eqvAll, eqv_strs]
    rw [e]; exact h
end Mine
end
section
open Builtin Builtin.Str
namespace Mine

noncomputable abbrev rowsL (cs : Nat → Nat) (n : Nat) : List PV := (rowsC cs n).map PV.str
theorem rowsL_map (cs : Nat → Nat) (n : Nat) : rowsL cs n = (List.range n).map fun k => PV.str (row (cs k) k) := by
  unfold rowsL rowsC
  rw [List.map_map]; rfl
theorem rowsL_len (cs : Nat → Nat) (n : Nat) : (rowsL cs n).length = n := by simp [rowsC]
theorem row_len (c k : Nat) : (row c k).length = c + 1 := by
  have : (row c k).length = (row c k).cps.toList.length := Array.length_toList.symm
  rw [this, row_list, List.length_append, List.length_replicate]; rfl
noncomputable def stripV (s : Str) : Str := if s.cps.toList[0]? = some 46 then ⟨(s.cps.toList.drop 1).toArray⟩ else s
theorem strip_row (c k : Nat) : stripV (row c k) = row (c - 1) k := by
  unfold stripV
  rw [row_list]
  cases c with
  | zero =>
    have : ¬ (([97 + k] : List Nat)[0]? = some 46) := by
      show ¬ (some (97 + k) = some 46)
      intro e
      have := Option.some.inj e
      lia
    exact if_neg this
  | succ c =>
    have : (List.replicate (c + 1) 46 ++ [97 + k])[0]? = some 46 := rfl
    rw [if_pos this]
    refine Str.ext' (Array.toList_inj.mp ?_)
    rw [row_list]; rfl
theorem row_zero (k : Nat) : (⟨#[97 + k]⟩ : Str) = row 0 k := Str.ext' (Array.toList_inj.mp (by rw [row_list]; rfl))
noncomputable def stripP : PV → List PV
  | .str s => [.str (stripV s)]
  | _ => []
noncomputable def pick2 : PV → List PV
  | .str s => if s.length = 2 then [.str s] else []
  | _ => []
noncomputable def lett : PV → List PV
  | .str s => [.str ⟨#[s.cps.toList.getD 1 0]⟩]
  | _ => []
noncomputable def lenQ : PV → List PV
  | .str s => [.int ((s.length : Int) - 1)]
  | _ => []
theorem strip_map (cs : Nat → Nat) (n : Nat) : (rowsL cs n).flatMap stripP = rowsL (fun k => cs k - 1) n := by
  rw [rowsL_map, rowsL_map]
  exact flatMap_one (f := fun k => PV.str (row (cs k) k)) (h := fun k => PV.str (row (cs k - 1) k)) (fun k => by show [PV.str _] = _; rw [strip_row]) _
theorem pick2_map (cs : Nat → Nat) : ∀ l : List Nat, (l.map fun k => PV.str (row (cs k) k)).flatMap pick2 = ((l.filter fun k => cs k == 1).map (row 1)).map PV.str
  | [] => rfl
  | k :: l => by
    rw [List.map_cons, List.flatMap_cons, pick2_map cs l, List.filter_cons]
    show (if (row (cs k) k).length = 2 then _ else _) ++ _ = _
    rw [row_len]
    by_cases e : cs k = 1
    · rw [if_pos (by rw [e]), if_pos (by rw [e]; rfl), e]; rfl
    · rw [if_neg (by lia), if_neg (by simpa using e)]; rfl
theorem lett_map : ∀ l : List Nat, (l.map fun k => PV.str (row 1 k)).flatMap lett = (l.map (row 0)).map PV.str
  | [] => rfl
  | k :: l => by
    rw [List.map_cons, List.flatMap_cons, lett_map l]
    show PV.str ⟨#[(row 1 k).cps.toList.getD 1 0]⟩ :: _ = _
    rw [row_list]
    show PV.str ⟨#[97 + k]⟩ :: _ = _
    rw [row_zero]; rfl
theorem lenQ_map (cs : Nat → Nat) (n : Nat) : (rowsL cs n).flatMap lenQ = ((List.range n).map fun k => (cs k : Int)).map PV.int := by
  rw [rowsL_map, List.map_map]
  refine flatMap_one (f := fun k => PV.str (row (cs k) k)) (h := PV.int ∘ fun k => (cs k : Int)) (fun k => ?_) _
  show [PV.int (((row (cs k) k).length : Int) - 1)] = _
  rw [row_len]
  have : ((cs k + 1 : Nat) : Int) - 1 = cs k := by lia
  rw [this]; rfl
noncomputable def eStrip : E := .comp ⟨[("row", .loc, 0)], []⟩ (.ife (.cmp .Eq (.sub (.var 0) (.const (.int 0))) (.const (.str "."))) (.slc (.var 0) (.yes (.const (.int 1))) .no) (.var 0)) (.one 0) (.var 4) .nil .nil
noncomputable def eOnes : E := .comp ⟨[("row", .loc, 0)], ["len"]⟩ (.var 0) (.one 0) (.var 4) (.cons (.cmp .Eq (.call (.glob 0) (.cons (.var 0) .nil)) (.const (.int 2))) .nil) .nil
noncomputable def eLett : E := .comp ⟨[("row", .loc, 0)], []⟩ (.sub (.var 0) (.const (.int 1))) (.one 0) (.var 8) .nil .nil
noncomputable def eLens : E := .comp ⟨[("row", .loc, 0)], ["len"]⟩ (.bin .Sub (.call (.glob 0) (.cons (.var 0) .nil)) (.const (.int 1))) (.one 0) (.var 4) .nil .nil
theorem cmp_eq_str {x y : Str} {K : Bool → Prop} (h : K (x == y)) : cmpop .Eq (.str x) (.str y) K := by
  refine ⟨.str x, .str y, rfl, rfl, Nat.le_trans (Nat.min_le_left _ _) (by show (0:Nat) ≤ 8 ; decide), ?_⟩
  have : PyData.eqv (.str x) (.str y) = (x == y) := rfl
  rw [this]; exact h
section
variable {a : Ad} {ex : List (Str × PV)} {SP SX : Value → List PV → PV → Prop}
theorem strip_ev {cs : Nat → Nat} {n : Nat} {φ : Frame} {K : PV → Frame → Prop} (h4 : φ[4]? = some (.val (.list (rowsL cs n)))) (hn : n ≤ 6) (hK : K (.list (rowsL (fun k => cs k - 1) n)) φ) : evE (gt a ex) SP eStrip φ K := by
  have hg := strip_map cs n
  have hl : ((rowsL cs n).flatMap stripP).length ≤ 6 := by rw [hg, rowsL_len]; exact hn
  unfold eStrip
  rw [evE_comp, evE_var, h4]
  refine ⟨_, _, rfl, rfl, ?_⟩
  refine loopI_map (fun ψ => ∃ s, ψ = [s]) stripP _ _ [] ⟨_, rfl⟩ (by rw [List.length_nil]; lia) ?_ ?_
  · rintro v hv ψ acc N ⟨s, rfl⟩ hz hN
    rw [rowsL_map] at hv
    obtain ⟨k, _, rfl⟩ := List.mem_map.mp hv
    have za : acc.length ≤ 65536 := by lia
    have hN' : ∀ ψ, (∃ s, ψ = [s]) → N ψ (acc ++ [PV.str (stripV (row (cs k) k))]) := hN
    unfold stripV at hN'
    obtain ⟨c, hc⟩ : ∃ c, (row (cs k) k).cps.toList[0]? = some c := by
      rw [row_list]
      cases cs k with
      | zero => exact ⟨_, rfl⟩
      | succ m => exact ⟨_, rfl⟩
    have e46 : ("." : Str) = ⟨#[46]⟩ := by decide +kernel
    simp only [↓asg_one, ↓evTs_nil, List.set_cons_zero, ↓evG_nil, ↓evE_ife, ↓evT_cmp, ↓evE_sub, ↓evE_var, ↓evE_const, ↓evE_slc, ↓evO_yes, ↓evO_no, ↓itemAt_str, List.getElem?_cons_zero]
    refine ⟨fun _ => ⟨Int.le_refl _, c, hc, ?_⟩, nofun⟩
    refine cmp_eq_str ?_
    rw [e46]
    by_cases q : c = 46
    · subst q
      rw [beq_self_eq_true]
      rw [if_pos hc] at hN'
      simp only [↓sliceOf_str]
      exact ⟨fun _ => ⟨_, rfl, by simp, za, hN' _ ⟨_, rfl⟩⟩, nofun⟩
    · have : ((⟨#[c]⟩ : Str) == ⟨#[46]⟩) = false := by
        rw [beq_eq_false_iff_ne]
        intro e
        injection e with e
        exact q (by simpa using e)
      rw [this]
      rw [if_neg (by rw [hc]; exact fun e => q (Option.some.inj e))] at hN'
      exact ⟨nofun, fun _ => ⟨za, hN' _ ⟨_, rfl⟩⟩⟩
  · rintro ψ _
    rw [List.nil_append]
    refine ⟨by lia, ?_⟩
    rw [hg]
    exact hK
theorem ones_ev {cs : Nat → Nat} {n : Nat} {φ : Frame} {K : PV → Frame → Prop} (h4 : φ[4]? = some (.val (.list (rowsL cs n)))) (hn : n ≤ 6) (hK : K (.list ((onesC cs n 1).map PV.str)) φ) : evE (gt a ex) SP eOnes φ K := by
  have g0 : (gt a ex)[0]? = some (("len" : Str), PV.raw (.builtin "len")) := rfl
  have hg : (rowsL cs n).flatMap pick2 = (onesC cs n 1).map PV.str := by rw [rowsL_map]; exact pick2_map cs _
  have hl : ((rowsL cs n).flatMap pick2).length ≤ 6 := by
    rw [hg, onesC, List.length_map, List.length_map]
    exact Nat.le_trans (List.length_filter_le _ _) (by simpa using hn)
  unfold eOnes
  rw [evE_comp, evE_var, h4]
  refine ⟨_, _, rfl, rfl, ?_⟩
  refine loopI_map (fun ψ => ∃ s, ψ = [s]) pick2 _ _ [] ⟨_, rfl⟩ (by rw [List.length_nil]; lia) ?_ ?_
  · rintro v hv ψ acc N ⟨s, rfl⟩ hz hN
    obtain ⟨x, _, rfl⟩ := List.mem_map.mp hv
    have za : acc.length ≤ 65536 := by lia
    have hN' : ∀ ψ, (∃ s, ψ = [s]) → N ψ (acc ++ if x.length = 2 then [PV.str x] else []) := hN
    simp only [↓asg_one, ↓evTs_nil, ↓evTs_cons, ↓evT_cmp, List.set_cons_zero, ↓evG_nil, ↓evE_call, ↓evE_glob, ↓evEs_nil, ↓evEs_cons, ↓evE_var, ↓evE_const, g0, List.getElem?_cons_zero]
    rw [app_builtin, if_pos rfl, arg1_one, lenOf_str]
    refine cmp_int ?_
    by_cases q : x.length = 2
    · rw [if_pos q] at hN'
      have : (((x.length : Nat) : Int) == 2) = true := by rw [q]; rfl
      rw [this]
      exact ⟨fun _ => ⟨fun _ => ⟨za, hN' _ ⟨_, rfl⟩⟩, nofun⟩, nofun⟩
    · rw [if_neg q, List.append_nil] at hN'
      have : (((x.length : Nat) : Int) == 2) = false := by rw [beq_eq_false_iff_ne]; lia
      rw [this]
      exact ⟨nofun, fun _ => ⟨nofun, fun _ => hN' _ ⟨_, rfl⟩⟩⟩
  · rintro ψ _
    rw [List.nil_append]
    refine ⟨by lia, ?_⟩
    rw [hg]
    exact hK
theorem lett_ev {cs : Nat → Nat} {n : Nat} {φ : Frame} {K : PV → Frame → Prop} (h8 : φ[8]? = some (.val (.list ((onesC cs n 1).map PV.str)))) (hn : n ≤ 6) (hK : K (.list ((onesC cs n 0).map PV.str)) φ) : evE (gt a ex) SP eLett φ K := by
  have e8 : (onesC cs n 1).map PV.str = ((List.range n).filter fun k => cs k == 1).map fun k => PV.str (row 1 k) := by rw [onesC, List.map_map]; rfl
  have hg : ((onesC cs n 1).map PV.str).flatMap lett = (onesC cs n 0).map PV.str := by rw [e8]; exact lett_map _
  have hl : (((onesC cs n 1).map PV.str).flatMap lett).length ≤ 6 := by
    rw [hg, onesC, List.length_map, List.length_map]
    exact Nat.le_trans (List.length_filter_le _ _) (by simpa using hn)
  unfold eLett
  rw [evE_comp, evE_var, h8]
  refine ⟨_, _, rfl, rfl, ?_⟩
  refine loopI_map (fun ψ => ∃ s, ψ = [s]) lett _ _ [] ⟨_, rfl⟩ (by rw [List.length_nil]; lia) ?_ ?_
  · rintro v hv ψ acc N ⟨s, rfl⟩ hz hN
    rw [e8] at hv
    obtain ⟨k, _, rfl⟩ := List.mem_map.mp hv
    have za : acc.length ≤ 65536 := by lia
    have hc : (row 1 k).cps.toList[1]? = some (97 + k) := by rw [row_list]; rfl
    have hN' : ∀ ψ, (∃ s, ψ = [s]) → N ψ (acc ++ [PV.str ⟨#[(row 1 k).cps.toList.getD 1 0]⟩]) := hN
    rw [List.getD_eq_getElem?_getD, hc] at hN'
    simp only [↓asg_one, ↓evTs_nil, List.set_cons_zero, ↓evG_nil, ↓evE_sub, ↓evE_var, ↓evE_const, ↓itemAt_str, List.getElem?_cons_zero]
    exact ⟨fun _ => ⟨by decide, _, hc, za, hN' _ ⟨_, rfl⟩⟩, nofun⟩
  · rintro ψ _
    rw [List.nil_append]
    refine ⟨by lia, ?_⟩
    rw [hg]
    exact hK
theorem lens_ev {cs : Nat → Nat} {n : Nat} {φ : Frame} {K : PV → Frame → Prop} (h4 : φ[4]? = some (.val (.list (rowsL cs n)))) (hn : n ≤ 6) (hK : K (.list (((List.range n).map fun k => (cs k : Int)).map PV.int)) φ) : evE (gt a ex) SP eLens φ K := by
  have g0 : (gt a ex)[0]? = some (("len" : Str), PV.raw (.builtin "len")) := rfl
  have hg := lenQ_map cs n
  have hl : ((rowsL cs n).flatMap lenQ).length ≤ 6 := by rw [hg]; simpa using hn
  unfold eLens
  rw [evE_comp, evE_var, h4]
  refine ⟨_, _, rfl, rfl, ?_⟩
  refine loopI_map (fun ψ => ∃ s, ψ = [s]) lenQ _ _ [] ⟨_, rfl⟩ (by rw [List.length_nil]; lia) ?_ ?_
  · rintro v hv ψ acc N ⟨s, rfl⟩ hz hN
    obtain ⟨x, _, rfl⟩ := List.mem_map.mp hv
    have za : acc.length ≤ 65536 := by lia
    simp only [↓asg_one, ↓evTs_nil, List.set_cons_zero, ↓evG_nil, ↓evE_bin, ↓evE_call, ↓evE_glob, ↓evEs_nil, ↓evEs_cons, ↓evE_var, ↓evE_const, g0, ↓binop_Sub, List.getElem?_cons_zero]
    rw [app_builtin, if_pos rfl, arg1_one, lenOf_str]
    exact ⟨fun _ => ⟨za, hN _ ⟨_, rfl⟩⟩, nofun⟩
  · rintro ψ _
    rw [List.nil_append]
    refine ⟨by lia, ?_⟩
    rw [hg]
    exact hK
end
end Mine
end
section
open Builtin Builtin.Str
namespace Mine

noncomputable def bTurn : Bs := (.cons (.asg (.one 3) (.call (.glob 18) (.cons (.var 2) (.cons (.var 3) .nil))))
    (.cons (.asg (.one 6) (.call (.glob 19) (.cons (.var 1) (.cons (.var 3) .nil))))
    (.cons (.ife (.cmp .NotEq (.var 6) eStrip)
      (.cons (.ret (.const (.bool false)))
      .nil)
      .nil)
    (.cons (.asg (.one 7) (.meth (.call (.glob 9) (.cons (.meth (.const (.str "\n")) "join" (.cons (.var 6) .nil)) .nil)) "split" (.cons (.const (.str "\r\n")) .nil)))
    (.cons (.asg (.one 8) eOnes)
    (.cons (.ifX .NotEq (.glob 11) (.cons (.call (.glob 16) (.cons (.var 4) .nil)) (.cons (.call (.glob 16) (.cons (.var 7) .nil)) .nil)) (.tup (.cons (.var 8) (.cons eLett .nil)))
      (.cons (.ret (.const (.bool false)))
      .nil)
      .nil)
    (.cons (.asg (.one 4) (.var 6))
    .nil)))))))
noncomputable abbrev co (rs o : List Nat) (k : Nat) : Nat := ahead (rt rs) k o
theorem app_sorted {SP : Value → List PV → PV → Prop} {vs : List PV} {K : PV → Prop} : app SP (.raw (.builtin "sorted")) vs K = ∃ r, SP (.builtin "sorted") vs r ∧ K r := by
  rw [app_builtin, if_neg (by decide), if_neg (by decide), if_neg (by decide), if_pos rfl]
theorem rows_congr {cs ds : Nat → Nat} {n : Nat} (h : ∀ k < n, cs k = ds k) : rowsC cs n = rowsC ds n := by
  unfold rowsC
  exact List.map_congr_left fun k hk => by rw [h k (List.mem_range.mp hk)]
theorem meth_join : strMeth "join" = "str.join" := if_pos rfl
theorem meth_split : strMeth "split" = "str.split" := if_neg (by decide)
structure Hyp2 (a : Ad) (SP SX : Value → List PV → PV → Prop) (rs : List Nat) (ps ml : Addr) : Prop where
  five : rs.length = 5 ∨ rs.length = 6
  ps : ∀ o : List Nat, o.Perm (List.range rs.length) → SP (.ref ps) [.list (sgL rs), .list (nl o)] (.list (nl (bub (rt rs) o)))
  ml : ∀ o : List Nat, o.Perm (List.range rs.length) → SP (.ref ml) [.list (rtL rs), .list (nl o)] (.list (mailL rs o rs.length))
  jn : ∀ cs : Nat → Nat, (∀ k, cs k ≤ 10) → SP (.builtin "str.join") [.str "\n", .list (rowsL cs rs.length)] (.str (Str.join "\n" (rowsC cs rs.length)))
  qd : ∀ cs : Nat → Nat, (∀ k, cs k ≤ 9) → SP (.ref a.qd) [.str (Str.join "\n" (rowsC cs rs.length))] (.str (tx1 (fun k => qdots (cs k)) rs.length))
  sp : ∀ cs : Nat → Nat, (∀ k, cs k ≤ 10) → SP (.builtin "str.split") [.str (tx1 cs rs.length), .str "\r\n"] (.list (rowsL cs rs.length))
  so : ∀ ts us : List Str, us.Perm ts → us.Pairwise LtS → ts.length < 64 → (∀ y ∈ ts, y.length ≤ 1000 ∧ asc y) → SP (.builtin "sorted") [.list (ts.map PV.str)] (.list (us.map PV.str))
  sx : ∀ xs ys : List Str, Up ltS xs → Up ltS ys → xs.length + ys.length ≤ 1000 → SX (.ref a.sld) [.list (xs.map PV.str), .list (ys.map PV.str)] (.tup [.list ((sldP ltS xs ys).1.map PV.str), .list ((sldP ltS xs ys).2.map PV.str)])
section
variable {a : Ad} {ex : List (Str × PV)} {SP SX : Value → List PV → PV → Prop}
noncomputable abbrev f2 (sc : List Int) (rs : List Nat) (s3 s4 s5 s6 s7 s8 : Slot) : Frame := [.val (.list (sc.map PV.int)), .val (.list (rtL rs)), .val (.list (sgL rs)), s3, s4, s5, s6, s7, s8]
theorem turn_ok {sc : List Int} {rs o : List Nat} {ps ml : Addr} {s5 s6 s7 s8 : Slot} {k : Ks} (hx : (gt a ex)[18]? = some (("_law_passed" : Str), PV.raw (.ref ps))) (hy : (gt a ex)[19]? = some (("_law_mail" : Str), PV.raw (.ref ml))) (Y : Hyp2 a SP SX rs ps ml)
    (ho : o.Perm (List.range rs.length)) (hK : ∀ s6 s7 s8, k.n (f2 sc rs (.val (.list (nl (bub (rt rs) o)))) (.val (.list (rowsL (co rs (bub (rt rs) o)) rs.length))) s5 s6 s7 s8)) :
    evB (gt a ex) SP SX bTurn (f2 sc rs (.val (.list (nl o))) (.val (.list (rowsL (co rs o) rs.length))) s5 s6 s7 s8) k := by
  have g9 : (gt a ex)[9]? = some (("quotedata" : Str), PV.raw (.ref a.qd)) := rfl
  have g11 : (gt a ex)[11]? = some (("sorted_list_difference" : Str), PV.raw (.ref a.sld)) := rfl
  have g16 : (gt a ex)[16]? = some (("sorted" : Str), PV.raw (.builtin "sorted")) := rfl
  have hn : rs.length ≤ 6 := by rcases Y.five with h | h <;> lia
  have hlo : o.length = rs.length := by simpa using ho.length_eq
  have hb := (bub_perm (rt rs) o).trans ho
  have hnd : o.Nodup := ho.nodup_iff.mpr List.nodup_range
  have hs : ∀ k < rs.length, co rs (bub (rt rs) o) k = co rs o k - 1 := fun k hk => bub_ahead (rt rs) hnd (ho.mem_iff.mpr (List.mem_range.mpr hk))
  have hc : ∀ k, co rs o k ≤ 9 := fun k => by
    have : co rs o k ≤ o.length := ahead_le (rt rs) k o
    lia
  have hlb : (bub (rt rs) o).length = rs.length := by simpa using hb.length_eq
  have hc' : ∀ k, co rs (bub (rt rs) o) k ≤ 6 := fun k => by
    have : co rs (bub (rt rs) o) k ≤ (bub (rt rs) o).length := ahead_le (rt rs) k (bub (rt rs) o)
    lia
  have e1 : rowsC (fun k => co rs o k - 1) rs.length = rowsC (co rs (bub (rt rs) o)) rs.length := rows_congr fun k hk => (hs k hk).symm
  have e2 : rowsC (fun k => qdots (co rs o k - 1)) rs.length = rowsC (fun k => qdots (co rs (bub (rt rs) o) k)) rs.length := rows_congr fun k hk => by rw [hs k hk]
  have hq : ∀ k, qdots (co rs (bub (rt rs) o) k) ≤ 10 := fun k => by
    have := hc' k
    unfold qdots
    split <;> lia
  unfold bTurn
  refine evB_step (fun ψ => ψ = f2 sc rs (.val (.list (nl (bub (rt rs) o)))) (.val (.list (rowsL (co rs o) rs.length))) s5 s6 s7 s8) (fun N hN => ?_) ?_
  · simp only [↓evS_asg, ↓evE_call, ↓evE_glob, ↓evE_var, ↓evEs_nil, ↓evEs_cons, hx, ↓app_ref, List.getElem?_cons_zero, List.getElem?_cons_succ]
    exact ⟨_, Y.ps o ho, hN _ rfl⟩
  rintro ψ rfl
  refine evB_step (fun ψ => ψ = f2 sc rs (.val (.list (nl (bub (rt rs) o)))) (.val (.list (rowsL (co rs o) rs.length))) s5 (.val (.list (rowsL (co rs (bub (rt rs) o)) rs.length))) s7 s8) (fun N hN => ?_) ?_
  · simp only [↓evS_asg, ↓evE_call, ↓evE_glob, ↓evE_var, ↓evEs_nil, ↓evEs_cons, hy, ↓app_ref, List.getElem?_cons_zero, List.getElem?_cons_succ]
    exact ⟨_, Y.ml _ hb, hN _ rfl⟩
  rintro ψ rfl
  refine evB_step (fun ψ => ψ = f2 sc rs (.val (.list (nl (bub (rt rs) o)))) (.val (.list (rowsL (co rs o) rs.length))) s5 (.val (.list (rowsL (co rs (bub (rt rs) o)) rs.length))) s7 s8) (fun N hN => ?_) ?_
  · rw [evS_ife, evT_cmp, evE_var]
    refine strip_ev (cs := co rs o) rfl hn ?_
    show cmpop .NotEq (.list ((rowsC (co rs (bub (rt rs) o)) rs.length).map PV.str)) (.list ((rowsC (fun k => co rs o k - 1) rs.length).map PV.str)) _
    rw [e1]
    refine cmp_ne_same ?_
    exact ⟨nofun, fun _ => evB_nil (hN _ rfl)⟩
  rintro ψ rfl
  refine evB_step (fun ψ => ψ = f2 sc rs (.val (.list (nl (bub (rt rs) o)))) (.val (.list (rowsL (co rs o) rs.length))) s5 (.val (.list (rowsL (co rs (bub (rt rs) o)) rs.length))) (.val (.list (rowsL (fun k => qdots (co rs (bub (rt rs) o) k)) rs.length))) s8) (fun N hN => ?_) ?_
  · simp only [↓evS_asg, ↓evE_meth, ↓evE_call, ↓evE_glob, ↓evE_var, ↓evE_const, ↓evEs_nil, ↓evEs_cons, g9, ↓app_ref, ↓methOk_str, ↓meth_str, List.getElem?_cons_zero, List.getElem?_cons_succ]
    have hj := Y.jn (co rs (bub (rt rs) o)) fun k => Nat.le_trans (hc' k) (by decide)
    have hd := Y.qd (co rs (bub (rt rs) o)) fun k => Nat.le_trans (hc' k) (by decide)
    have hp := Y.sp (fun k => qdots (co rs (bub (rt rs) o) k)) hq
    rw [← meth_join] at hj
    rw [← meth_split] at hp
    exact ⟨.inl trivial, .inl trivial, _, hj, _, hd, .inr rfl, .inr rfl, _, hp, hN _ rfl⟩
  rintro ψ rfl
  refine evB_step (fun ψ => ψ = f2 sc rs (.val (.list (nl (bub (rt rs) o)))) (.val (.list (rowsL (co rs o) rs.length))) s5 (.val (.list (rowsL (co rs (bub (rt rs) o)) rs.length))) (.val (.list (rowsL (fun k => qdots (co rs (bub (rt rs) o) k)) rs.length))) (.val (.list ((onesC (co rs o) rs.length 1).map PV.str)))) (fun N hN => ?_) ?_
  · rw [evS_asg]
    exact ones_ev (cs := co rs o) rfl hn (hN _ rfl)
  rintro ψ rfl
  refine evB_step (fun ψ => ψ = f2 sc rs (.val (.list (nl (bub (rt rs) o)))) (.val (.list (rowsL (co rs o) rs.length))) s5 (.val (.list (rowsL (co rs (bub (rt rs) o)) rs.length))) (.val (.list (rowsL (fun k => qdots (co rs (bub (rt rs) o) k)) rs.length))) (.val (.list ((onesC (co rs o) rs.length 1).map PV.str)))) (fun N hN => ?_) ?_
  · obtain ⟨us, pu, hu⟩ := srt_ex _ (rows_nodup (co rs o) rs.length)
    obtain ⟨vs, pv, hv⟩ := srt_ex _ (rows_nodup (fun k => qdots (co rs (bub (rt rs) o) k)) rs.length)
    have lr : ∀ cs, (rowsC cs rs.length).length = rs.length := fun cs => by simp [rowsC]
    have q1 := Y.so _ us pu hu (by rw [lr]; lia) (rows_ok2 hn fun k => Nat.le_succ_of_le (hc k))
    have q2 := Y.so _ vs pv hv (by rw [lr]; lia) (rows_ok2 hn hq)
    have l1 := pu.length_eq
    have l2 := pv.length_eq
    rw [lr] at l1 l2
    have q3 := Y.sx us vs (up_of hu) (up_of hv) (by lia)
    rw [sld_mail pu hu (e2 ▸ pv) hv] at q3
    simp only [↓evS_ifX, evX, ↓evE_glob, ↓evE_call, ↓evE_var, ↓evEs_nil, ↓evEs_cons, g11, g16, List.getElem?_cons_zero, List.getElem?_cons_succ]
    refine ⟨_, rfl, ⟨_, _, q3⟩, ?_⟩
    rw [app_sorted]
    refine ⟨_, q1, ?_⟩
    rw [app_sorted]
    refine ⟨_, q2, _, q3, ?_⟩
    rw [evE_tup, evEs_cons, evE_var]
    show evEs _ _ _ _ _
    rw [evEs_cons]
    refine lett_ev (cs := co rs o) (n := rs.length) rfl hn ?_
    rw [evEs_nil]
    refine ⟨by simp, cmp_ne_tup ?_⟩
    exact ⟨nofun, fun _ => evB_nil (hN _ rfl)⟩
  rintro ψ rfl
  refine evB_step (fun ψ => ∃ s6 s7 s8, ψ = f2 sc rs (.val (.list (nl (bub (rt rs) o)))) (.val (.list (rowsL (co rs (bub (rt rs) o)) rs.length))) s5 s6 s7 s8) (fun N hN => ?_) ?_
  · rw [evS_asg, evE_var]
    exact hN _ ⟨_, _, _, rfl⟩
  rintro ψ ⟨s6, s7, s8, rfl⟩
  exact evB_nil (hK _ _ _)
end
end Mine
end
section
open Builtin Builtin.Str
namespace Mine

noncomputable def passes (r : Nat → Nat) : Nat → List Nat → List Nat
  | 0, o => o
  | m + 1, o => bub r (passes r m o)
theorem pass_perm (r : Nat → Nat) : ∀ m o, (passes r m o).Perm o
  | 0, _ => .refl _
  | m + 1, o => (bub_perm r _).trans (pass_perm r m o)
theorem pass_tie {r : Nat → Nat} {o : List Nat} (h : o.Pairwise (Tie r)) : ∀ m, (passes r m o).Pairwise (Tie r)
  | 0 => h
  | m + 1 => bub_tie r _ (pass_tie h m)
theorem pass_ahead {r : Nat → Nat} {o : List Nat} (hn : o.Nodup) {k : Nat} (hk : k ∈ o) : ∀ m, ahead r k (passes r m o) = ahead r k o - m
  | 0 => rfl
  | m + 1 => by
    have p := pass_perm r m o
    have h := bub_ahead r (p.nodup_iff.mpr hn) (p.mem_iff.mpr hk)
    show ahead r k (bub r (passes r m o)) = _
    rw [h, pass_ahead hn hk m, Nat.sub_sub]
noncomputable def Rt (rs : List Nat) (a b : Nat) : Prop := rt rs a < rt rs b ∨ (rt rs a = rt rs b ∧ a < b)
theorem Rt.anti {rs : List Nat} (a b : Nat) (h : Rt rs a b) : ¬ Rt rs b a := fun q => by
  unfold Rt at h q
  lia
theorem foldl_max2 : ∀ (r : List Int) (x : Int), x ≤ r.foldl max x ∧ (∀ y ∈ r, y ≤ r.foldl max x) ∧ (r.foldl max x = x ∨ r.foldl max x ∈ r)
  | [], x => ⟨Int.le_refl _, nofun, .inl rfl⟩
  | z :: r, x => by
    obtain ⟨h1, h2, h3⟩ := foldl_max2 r (max x z)
    rw [List.foldl_cons]
    refine ⟨Int.le_trans (Int.le_max_left x z) h1, fun y hy => ?_, ?_⟩
    · rcases List.mem_cons.mp hy with rfl | hy
      · exact Int.le_trans (Int.le_max_right x _) h1
      · exact h2 y hy
    · rcases h3 with h3 | h3
      · rw [h3]
        rcases Int.le_total x z with q | q
        · right; rw [Int.max_eq_right q]; exact List.mem_cons_self
        · left; exact Int.max_eq_left q
      · exact .inr (List.mem_cons_of_mem _ h3)
theorem max_of {cs : Nat → Nat} {n : Nat} (h : 0 < n) : ∃ m : Nat, maxOf ((List.range n).map fun k => (cs k : Int)) = m ∧ (∃ k, k < n ∧ cs k = m) ∧ ∀ k < n, cs k ≤ m := by
  obtain ⟨j, rfl⟩ : ∃ j, n = j + 1 := ⟨n - 1, by lia⟩
  rw [List.range_succ_eq_map, List.map_cons]
  obtain ⟨h1, h2, h3⟩ := foldl_max2 (((List.range j).map Nat.succ).map fun k => (cs k : Int)) (cs 0 : Int)
  have hm : ∃ k, k < j + 1 ∧ maxOf (((cs 0 : Nat) : Int) :: ((List.range j).map Nat.succ).map fun k => (cs k : Int)) = (cs k : Int) := by
    show ∃ k, k < j + 1 ∧ List.foldl max _ _ = _
    rcases h3 with e | e
    · exact ⟨0, Nat.succ_pos _, e⟩
    · obtain ⟨k, hk, e⟩ := List.mem_map.mp e
      obtain ⟨i, hi, rfl⟩ := List.mem_map.mp hk
      exact ⟨i + 1, Nat.succ_lt_succ (List.mem_range.mp hi), e.symm⟩
  obtain ⟨k, hk, e⟩ := hm
  refine ⟨cs k, e, ⟨k, hk, rfl⟩, fun i hi => ?_⟩
  have e' : List.foldl max ((cs 0 : Nat) : Int) (((List.range j).map Nat.succ).map fun k => (cs k : Int)) = (cs k : Int) := e
  rw [e'] at h1 h2
  cases i with
  | zero => exact Int.ofNat_le.mp h1
  | succ i => exact Int.ofNat_le.mp (h2 _ (List.mem_map.mpr ⟨i + 1, List.mem_map.mpr ⟨i, List.mem_range.mpr (by lia), rfl⟩, rfl⟩))
noncomputable def nums2 (sc : List Int) : List Int := sc.take 6 ++ ([6, 7, 2, 4, 1] : List Int).drop sc.length
theorem nums2_len (sc : List Int) : (nums2 sc).length = 5 ∨ (nums2 sc).length = 6 := by
  match sc with
  | [] => exact .inl rfl
  | [_] => exact .inl rfl
  | [_, _] => exact .inl rfl
  | [_, _, _] => exact .inl rfl
  | [_, _, _, _] => exact .inl rfl
  | [_, _, _, _, _] => exact .inl rfl
  | _ :: _ :: _ :: _ :: _ :: _ :: _ => exact .inr rfl
noncomputable def rsOf (sc : List Int) : List Nat := (nums2 sc).map kk
theorem rs_lt (sc : List Int) : ∀ v ∈ rsOf sc, v < 512 := fun v hv => by
  obtain ⟨x, _, rfl⟩ := List.mem_map.mp hv
  exact kk_lt x
theorem range_tie (r : Nat → Nat) (n : Nat) : (List.range n).Pairwise (Tie r) := (List.pairwise_lt_range (n := n)).imp (S := Tie r) fun h _ => h
theorem max_zero {r : Nat → Nat} {n m : Nat} (h : ∀ k < n, ahead r k (List.range n) ≤ m) : (passes r m (List.range n)).Pairwise fun a b => r a ≤ r b := by
  have p := pass_perm r m (List.range n)
  refine zero_sorted r _ (p.nodup_iff.mpr List.nodup_range) fun k hk => ?_
  have hk' := p.mem_iff.mp hk
  rw [pass_ahead List.nodup_range hk']
  have := h k (List.mem_range.mp hk')
  lia
theorem end_order {rs : List Nat} {m : Nat} (h : ∀ k < rs.length, ahead (rt rs) k (List.range rs.length) ≤ m) : (passes (rt rs) m (List.range rs.length)).Pairwise (Rt rs) := by
  have h1 := max_zero h
  have h2 := pass_tie (range_tie (rt rs) rs.length) m
  refine (h1.and h2).imp fun {a b} q => ?_
  have := q.2
  unfold Tie at this
  unfold Rt
  have := q.1
  lia
noncomputable def eRights : E := .comp ⟨[("v", .loc, 0)], []⟩ (.bin .Mod (.var 0) (.const (.int 512))) (.one 0) (.bin .Add (.slc (.var 0) .no (.yes (.const (.int 6)))) (.slc (.list (.cons (.const (.int 6)) (.cons (.const (.int 7)) (.cons (.const (.int 2)) (.cons (.const (.int 4)) (.cons (.const (.int 1)) .nil)))))) (.yes (.call (.glob 0) (.cons (.var 0) .nil))) .no)) .nil .nil
noncomputable def eSigns : E := .comp ⟨[("bits", .loc, 0)], ["filemode", "S_IFREG"]⟩ (.call (.glob 6) (.cons (.bin .Add (.glob 7) (.var 0)) .nil)) (.one 0) (.var 1) .nil .nil
noncomputable def ΓL2 : Cx := [("script", .loc), ("rights", .cel), ("signs", .loc), ("order", .loc), ("rows", .loc), ("number", .loc), ("after", .loc), ("sent", .loc), ("ones", .loc)]
noncomputable def gnL2 : List Str := ["len", "list", "range", "_law_mail", "max", "_law_passed", "quotedata", "sorted_list_difference", "sorted"]
noncomputable def bL2 : Bs := (.cons (.asg (.one 1) eRights)
  (.cons (.asg (.one 2) eSigns)
  (.cons (.asg (.one 3) (.call (.glob 4) (.cons (.call (.glob 3) (.cons (.call (.glob 0) (.cons (.var 2) .nil)) .nil)) .nil)))
  (.cons (.asg (.one 4) (.call (.glob 19) (.cons (.var 1) (.cons (.var 3) .nil))))
  (.cons (.loop (.one 5) (.call (.glob 3) (.cons (.call (.glob 2) (.cons eLens .nil)) .nil)) bTurn .nil)
  .nil)))))
section
variable {a : Ad} {ex : List (Str × PV)} {SP SX : Value → List PV → PV → Prop}
theorem rights_ev {sc : List Int} {φ : Frame} {K : PV → Frame → Prop} (h0 : φ[0]? = some (.val (.list (sc.map PV.int)))) (hz : sc.length ≤ 63) (hK : K (.list (rtL (rsOf sc))) φ) : evE (gt a ex) SP eRights φ K := by
  have g0 : (gt a ex)[0]? = some (("len" : Str), PV.raw (.builtin "len")) := rfl
  have hn := nums2_len sc
  have hb1 : ∀ i ∈ (none : Option Int).toList ++ (some (6 : Int)).toList, 0 ≤ i ∧ i < 2 ^ 62 := by simp
  have hb2 : ∀ i ∈ (some (((sc.map PV.int).length : Nat) : Int)).toList ++ (none : Option Int).toList, 0 ≤ i ∧ i < 2 ^ 62 := by simp; lia
  have e : cut (sc.map PV.int) none (some 6) ++ cut [PV.int 6, .int 7, .int 2, .int 4, .int 1] (some (((sc.map PV.int).length : Nat) : Int)) none = (nums2 sc).map PV.int := by
    rw [cut_lo, cut_hi, nums2]
    simp
  have hg : ((nums2 sc).map PV.int).flatMap (fun x => match x with | .int v => [PV.int (v % 512)] | _ => []) = rtL (rsOf sc) := by
    rw [rtL, rsOf, List.map_map]
    refine flatMap_one (f := PV.int) (h := (fun v => PV.int ((v : Nat) : Int)) ∘ kk) (fun v => ?_) _
    show [PV.int (v % 512)] = [PV.int ((kk v : Nat) : Int)]
    have : ((kk v : Nat) : Int) = v % 512 := Int.toNat_of_nonneg (Int.emod_nonneg _ (by decide))
    rw [this]
  have hl : (rtL (rsOf sc)).length ≤ 6 := by
    unfold rtL rsOf
    rw [List.length_map, List.length_map]
    lia
  unfold eRights
  rw [evE_comp, evE_bin, evE_slc, evE_var, h0]
  simp only [↓evO_no, ↓evO_yes, ↓evE_const, ↓evE_slc, ↓evE_list, ↓evEs_nil, ↓evEs_cons, ↓evE_call, ↓evE_glob, ↓evE_var, g0, h0, ↓sliceOf_list]
  refine ⟨6, rfl, hb1, by simp, ?_⟩
  rw [app_len]
  refine ⟨_, rfl, hb2, ?_⟩
  rw [binop_Add, addP_list, onLst_list]
  refine ⟨by simp [cut_lo, cut_hi]; lia, ?_⟩
  rw [e]
  refine ⟨_, _, rfl, rfl, ?_⟩
  refine loopI_map (fun ψ => ∃ s, ψ = [s]) (fun x => match x with | .int v => [PV.int (v % 512)] | _ => []) _ _ [] ⟨_, rfl⟩ (by rw [hg, List.length_nil]; lia) ?_ ?_
  · rintro v hv ψ acc N ⟨s, rfl⟩ hz' hN
    obtain ⟨x, _, rfl⟩ := List.mem_map.mp hv
    simp only [↓asg_one, ↓evTs_nil, ↓evG_nil, ↓evE_bin, ↓evE_var, ↓evE_const, ↓binop_Mod, intsP, ↓onInt_int, List.set_cons_zero, List.getElem?_cons_zero]
    exact ⟨fun _ => ⟨by decide, by simp at hz'; lia, hN _ ⟨_, rfl⟩⟩, nofun⟩
  · rintro ψ _
    rw [List.nil_append, hg]
    exact ⟨by lia, hK⟩
theorem signs_ev {rs : List Nat} {φ : Frame} {K : PV → Frame → Prop} (h1 : φ[1]? = some (.val (.list (rtL rs)))) (hz : rs.length ≤ 6) (hr : ∀ v ∈ rs, v < 512) (hf : ∀ k < 512, SP (.ref a.fm) [.int ((32768 + k : Nat) : Int)] (.str (fmode k)))
    (hK : K (.list (sgL rs)) φ) : evE (gt a ex) SP eSigns φ K := by
  have h6 : (gt a ex)[6]? = some (("filemode" : Str), PV.raw (.ref a.fm)) := rfl
  have h7 : (gt a ex)[7]? = some (("S_IFREG" : Str), PV.int 32768) := rfl
  have hg : (rtL rs).flatMap (fun x => match x with | .int v => [PV.str (fmode v.toNat)] | _ => []) = sgL rs :=
    flatMap_one (f := fun v : Nat => PV.int (v : Int)) (h := fun v => PV.str (fmode v)) (fun _ => rfl) rs
  have hl : (sgL rs).length ≤ 6 := by unfold sgL; rw [List.length_map]; exact hz
  unfold eSigns
  rw [evE_comp, evE_var, h1]
  refine ⟨_, _, rfl, rfl, ?_⟩
  refine loopI_map (fun ψ => ∃ s, ψ = [s]) (fun x => match x with | .int v => [PV.str (fmode v.toNat)] | _ => []) _ _ [] ⟨_, rfl⟩ (by rw [hg, List.length_nil]; lia) ?_ ?_
  · rintro v hv ψ acc N ⟨s, rfl⟩ hz' hN
    obtain ⟨x, hx, rfl⟩ := List.mem_map.mp hv
    simp only [↓asg_one, ↓evTs_nil, ↓evG_nil, ↓evE_call, ↓evE_glob, ↓evE_bin, ↓evE_var, ↓evEs_nil, ↓evEs_cons, h6, h7, ↓binop_Add, ↓addP_int, ↓onInt_int, ↓app_ref, List.set_cons_zero, List.getElem?_cons_zero]
    exact ⟨fun _ => ⟨_, hf x (hr x hx), by simp at hz'; lia, hN _ ⟨_, rfl⟩⟩, nofun⟩
  · rintro ψ _
    rw [List.nil_append, hg]
    exact ⟨by lia, hK⟩
theorem ev_l2 {ps ml : Addr} {sc : List Int} (hx : (gt a ex)[18]? = some (("_law_passed" : Str), PV.raw (.ref ps))) (hy : (gt a ex)[19]? = some (("_law_mail" : Str), PV.raw (.ref ml))) (hz : sc.length ≤ 63)
    (hf : ∀ k < 512, SP (.ref a.fm) [.int ((32768 + k : Nat) : Int)] (.str (fmode k))) (Y : Hyp2 a SP SX (rsOf sc) ps ml) {kr : PV → Prop} {kb kn : Frame → Prop}
    (hK : ∀ o s4 s5 s6 s7 s8, o.Perm (List.range (rsOf sc).length) → o.Pairwise (Rt (rsOf sc)) → kn (f2 sc (rsOf sc) (.val (.list (nl o))) s4 s5 s6 s7 s8)) :
    evB (gt a ex) SP SX bL2 (φ0 ΓL2 [.list (sc.map PV.int)]) ⟨kn, kr, kb⟩ := by
  have g0 : (gt a ex)[0]? = some (("len" : Str), PV.raw (.builtin "len")) := rfl
  have g2 : (gt a ex)[2]? = some (("max" : Str), PV.raw (.builtin "max")) := rfl
  have g3 : (gt a ex)[3]? = some (("range" : Str), PV.raw (.type "range")) := rfl
  have g4 : (gt a ex)[4]? = some (("list" : Str), PV.raw (.type "list")) := rfl
  have hr := rs_lt sc
  show evB (gt a ex) SP SX bL2 [.val (.list (sc.map PV.int)), .unb, .unb, .unb, .unb, .unb, .unb, .unb, .unb] _
  unfold bL2
  refine evB_step (fun ψ => ψ = [.val (.list (sc.map PV.int)), .val (.list (rtL (rsOf sc))), .unb, .unb, .unb, .unb, .unb, .unb, .unb]) (fun N hN => ?_) ?_
  · rw [evS_asg]
    exact rights_ev rfl hz (hN _ rfl)
  rintro ψ rfl
  generalize hrs : rsOf sc = rs at *
  have hn : rs.length ≤ 6 := by rcases Y.five with h | h <;> lia
  have h1 : 1 ≤ rs.length := by rcases Y.five with h | h <;> lia
  refine evB_step (fun ψ => ψ = f2 sc rs .unb .unb .unb .unb .unb .unb) (fun N hN => ?_) ?_
  · rw [evS_asg]
    exact signs_ev rfl hn hr hf (hN _ rfl)
  rintro ψ rfl
  refine evB_step (fun ψ => ψ = f2 sc rs (.val (.list (nl (List.range rs.length)))) .unb .unb .unb .unb .unb) (fun N hN => ?_) ?_
  · simp only [↓evS_asg, ↓evE_call, ↓evE_glob, ↓evE_var, ↓evEs_nil, ↓evEs_cons, g0, g3, g4, List.getElem?_cons_zero, List.getElem?_cons_succ]
    rw [app_len]
    have e : (sgL rs).length = rs.length := by simp [sgL]
    rw [e, app_type, if_neg (by decide), if_pos rfl]
    refine ⟨by lia, by lia, ?_⟩
    rw [app_type, if_pos rfl]
    exact ⟨by lia, hN _ rfl⟩
  rintro ψ rfl
  refine evB_step (fun ψ => ψ = f2 sc rs (.val (.list (nl (List.range rs.length)))) (.val (.list (rowsL (co rs (List.range rs.length)) rs.length))) .unb .unb .unb .unb) (fun N hN => ?_) ?_
  · simp only [↓evS_asg, ↓evE_call, ↓evE_glob, ↓evE_var, ↓evEs_nil, ↓evEs_cons, hy, ↓app_ref, List.getElem?_cons_zero, List.getElem?_cons_succ]
    exact ⟨_, Y.ml _ (.refl _), hN _ rfl⟩
  rintro ψ rfl
  refine evB_step (fun ψ => ∃ o s4 s5 s6 s7 s8, o.Perm (List.range rs.length) ∧ o.Pairwise (Rt rs) ∧ ψ = f2 sc rs (.val (.list (nl o))) s4 s5 s6 s7 s8) (fun N hN => ?_) ?_
  · rw [evS_loop, evE_call, evE_glob, g3]
    show evEs _ _ _ _ _
    rw [evEs_cons, evE_call, evE_glob, g2]
    show evEs _ _ _ _ _
    rw [evEs_cons]
    refine lens_ev (cs := co rs (List.range rs.length)) (n := rs.length) rfl hn ?_
    obtain ⟨m, hm, ⟨k, hk, hkm⟩, hle⟩ := max_of (cs := co rs (List.range rs.length)) (n := rs.length) h1
    rw [evEs_nil, app_max1]
    refine ⟨_, isInts_map _, fun e => ?_, ?_⟩
    · have := congrArg List.length e
      rw [List.length_map, List.length_range, List.length_nil] at this
      lia
    rw [hm, evEs_nil, app_type, if_neg (by decide), if_pos rfl]
    have hm6 : m ≤ rs.length := by
      rw [← hkm]
      exact Nat.le_trans (ahead_le (rt rs) k _) (by rw [List.length_range]; exact Nat.le_refl _)
    refine ⟨by lia, by lia, _, rfl, ?_⟩
    refine loopF_all (fun i ψ => ∃ s5 s6 s7 s8, ψ = f2 sc rs (.val (.list (nl (passes (rt rs) i (List.range rs.length))))) (.val (.list (rowsL (co rs (passes (rt rs) i (List.range rs.length))) rs.length))) s5 s6 s7 s8) _ 0 _ ⟨_, _, _, _, rfl⟩ ?_ ?_
    · rintro i v ψ N' hv ⟨s5, s6, s7, s8, rfl⟩ hN'
      rw [Nat.zero_add] at hN' ⊢
      show evB (gt a ex) SP SX bTurn (f2 sc rs (.val (.list (nl (passes (rt rs) i (List.range rs.length))))) (.val (.list (rowsL (co rs (passes (rt rs) i (List.range rs.length))) rs.length))) (.val v) s6 s7 s8) _
      exact turn_ok hx hy Y (pass_perm _ _ _) fun s6 s7 s8 => hN' _ ⟨_, s6, s7, s8, rfl⟩
    · rintro ψ ⟨s5, s6, s7, s8, rfl⟩
      rw [Nat.zero_add, List.length_map, List.length_range, Int.toNat_natCast]
      exact evB_nil (hN _ ⟨_, _, s5, s6, s7, s8, pass_perm _ _ _, end_order hle, rfl⟩)
  rintro ψ ⟨o, s4, s5, s6, s7, s8, p, q, rfl⟩
  exact evB_nil (hK o s4 s5 s6 s7 s8 p q)
end
end Mine
end
section
namespace Mine

/-! the sort leaves like ones as they stood: items are their own places -/
noncomputable abbrev KA := Array Keyed
noncomputable def Ix (xs : KA) (i : Nat) : Int := match xs[i]? with
  | some p => numOf p.2
  | none => 0
noncomputable def Lx (xs : KA) (i j : Nat) : Prop := PyProof.Rows.K xs i < PyProof.Rows.K xs j ∨ (PyProof.Rows.K xs i = PyProof.Rows.K xs j ∧ Ix xs i < Ix xs j)
noncomputable def Asc (xs : KA) (n : Nat) : Prop := ∀ i j, i < j → j < n → Lx xs i j
noncomputable def New (xs : KA) (n m : Nat) : Prop := (∀ k, n ≤ k → k < m → Ix xs k = k) ∧ ∀ k, k < n → Ix xs k < n
theorem ix_congr {xs ys : KA} {i j : Nat} (h : xs[i]? = ys[j]?) : Ix xs i = Ix ys j := by unfold Ix; rw [h]
theorem lx_congr {xs ys : KA} {i j i' j' : Nat} (h1 : xs[i]? = ys[i']?) (h2 : xs[j]? = ys[j']?) (h : Lx ys i' j') : Lx xs i j := by
  unfold Lx
  rw [K_congr h1, K_congr h2, ix_congr h1, ix_congr h2]
  exact h
theorem Lx.le {xs : KA} {i j : Nat} (h : Lx xs i j) : PyProof.Rows.K xs i ≤ PyProof.Rows.K xs j := by
  rcases h with h | h
  · exact Int.le_of_lt h
  · exact Int.le_of_eq h.1
theorem lx_of {xs : KA} {i j : Nat} (h : PyProof.Rows.K xs i ≤ PyProof.Rows.K xs j) (k : Ix xs i < Ix xs j) : Lx xs i j := by
  rcases Int.lt_or_eq_of_le h with q | q
  · exact .inl q
  · exact .inr ⟨q, k⟩
theorem New.step {xs : KA} {n m : Nat} (h : New xs n m) (hn : n < m) : New xs (n + 1) m := by
  refine ⟨fun k h1 h2 => h.1 k (Nat.le_of_succ_le h1) h2, fun k hk => ?_⟩
  rcases Nat.lt_or_ge k n with q | q
  · exact Int.lt_trans (h.2 k q) (Int.ofNat_lt.mpr (Nat.lt_succ_self n))
  · have e : k = n := Nat.le_antisymm (Nat.le_of_lt_succ hk) q
    rw [e, h.1 n (Nat.le_refl n) hn]
    exact Int.ofNat_lt.mpr (Nat.lt_succ_self n)
theorem New.ahead {xs : KA} {n m i : Nat} (h : New xs n m) (hn : n < m) (hi : i < n) : Ix xs i < Ix xs n := by
  rw [h.1 n (Nat.le_refl n) hn]
  exact h.2 i hi
theorem Asc.snoc {xs : KA} {n m : Nat} (h : Asc xs n) (hN : New xs n m) (hn : n < m) (hk : ∀ i, i < n → PyProof.Rows.K xs i ≤ PyProof.Rows.K xs n) : Asc xs (n + 1) := fun i j hij hj => by
  rcases Nat.lt_or_ge j n with q | q
  · exact h i j hij q
  · have e : j = n := Nat.le_antisymm (Nat.le_of_lt_succ hj) q
    subst e
    exact lx_of (hk i hij) (hN.ahead hn hij)
theorem ar_rev1 {b x j : Nat} (hb : b ≤ j) (hj : j < x) : b ≤ b + x - 1 - j ∧ b + x - 1 - j < x := by lia
theorem ar_rev {b x i j : Nat} (hi : b ≤ i) (hij : i < j) (hj : j < x) : b + x - 1 - j < b + x - 1 - i := by lia
theorem New.mirror {xs : KA} {b n m : Nat} (h : New xs n m) (hs : n ≤ xs.size) : New (mirror xs b n ((n - b) / 2)) n m := by
  have e := fun k => getElem?_mirror_all (xs := xs) (i := b) hs k
  refine ⟨fun k h1 h2 => ?_, fun k hk => ?_⟩
  · have := e k
    rw [if_neg (fun q => absurd q.2 (Nat.not_lt.mpr h1))] at this
    rw [ix_congr this]
    exact h.1 k h1 h2
  · have := e k
    by_cases q : b ≤ k ∧ k < n
    · rw [if_pos q] at this
      rw [ix_congr this]
      exact h.2 _ (ar_rev1 q.1 q.2).2
    · rw [if_neg q] at this
      rw [ix_congr this]
      exact h.2 k hk
structure Down (xs : KA) (b x : Nat) : Prop where
  top : ∀ i j, i < j → j < b → Lx xs j i
  mid : ∀ i j, i < b → b ≤ j → j < x → PyProof.Rows.K xs j < PyProof.Rows.K xs i
  eq : ∀ i j, b ≤ i → i < j → j < x → PyProof.Rows.K xs i = PyProof.Rows.K xs j ∧ Ix xs i < Ix xs j
noncomputable def Fall (xs : KA) (x : Nat) : Prop := ∀ i j, i < j → j < x → Lx xs j i
theorem Down.last {xs : KA} {b x : Nat} (h : Down xs b x) (hb : b < x) {i : Nat} (hi : i < x) : PyProof.Rows.K xs (x - 1) ≤ PyProof.Rows.K xs i := by
  rcases Nat.lt_or_ge i b with q | q
  · exact Int.le_of_lt (h.mid i (x - 1) q (Nat.le_sub_one_of_lt hb) (by lia))
  · rcases Nat.lt_or_ge i (x - 1) with p | p
    · exact Int.le_of_eq (h.eq i (x - 1) q p (by lia)).1.symm
    · have e : i = x - 1 := Nat.le_antisymm (Nat.le_sub_one_of_lt hi) p
      rw [e]; exact Int.le_refl _
theorem Down.turn {xs : KA} {b x : Nat} (h : Down xs b x) (hs : x ≤ xs.size) : Fall (mirror xs b x ((x - b) / 2)) x := fun i j hij hj => by
  have e := fun k => getElem?_mirror_all (xs := xs) (i := b) hs k
  have ei := e i
  have ej := e j
  rcases Nat.lt_or_ge j b with q | q
  · rw [if_neg fun z => absurd z.1 (Nat.not_le.mpr (Nat.lt_trans hij q))] at ei
    rw [if_neg fun z => absurd z.1 (Nat.not_le.mpr q)] at ej
    exact lx_congr ej ei (h.top i j hij q)
  · rw [if_pos ⟨q, hj⟩] at ej
    rcases Nat.lt_or_ge i b with p | p
    · rw [if_neg fun z => absurd z.1 (Nat.not_le.mpr p)] at ei
      exact lx_congr ej ei (.inl (h.mid i _ p (ar_rev1 q hj).1 (ar_rev1 q hj).2))
    · rw [if_pos ⟨p, Nat.lt_trans hij hj⟩] at ei
      exact lx_congr ej ei (.inr (h.eq _ _ (ar_rev1 q hj).1 (ar_rev p hij hj) (ar_rev1 p (Nat.lt_trans hij hj)).2))
theorem Down.one {xs : KA} {x : Nat} (h : Down xs x (x + 1)) : Fall xs (x + 1) := fun i j hij hj => by
  rcases Nat.lt_or_ge j x with q | q
  · exact h.top i j hij q
  · exact .inl (h.mid i j (by lia) q hj)
theorem Fall.down {xs : KA} {x : Nat} (h : Fall xs x) (hk : ∀ i, i < x → PyProof.Rows.K xs x < PyProof.Rows.K xs i) : Down xs x (x + 1) :=
  ⟨h, fun i j hi hj hx => by
    have e : j = x := Nat.le_antisymm (Nat.le_of_lt_succ hx) hj
    rw [e]; exact hk i hi, fun i j h1 h2 h3 => absurd h3 (by lia)⟩
theorem Down.more {xs : KA} {b x m : Nat} (h : Down xs b x) (hb : b < x) (hN : New xs x m) (hx : x < m) (he : PyProof.Rows.K xs x = PyProof.Rows.K xs (x - 1)) : Down xs b (x + 1) := by
  refine ⟨h.top, fun i j hi hj hjx => ?_, fun i j hi hij hjx => ?_⟩
  · rcases Nat.lt_or_ge j x with q | q
    · exact h.mid i j hi hj q
    · have e : j = x := Nat.le_antisymm (Nat.le_of_lt_succ hjx) q
      rw [e, he]
      exact h.mid i (x - 1) hi (Nat.le_sub_one_of_lt hb) (by lia)
  · rcases Nat.lt_or_ge j x with q | q
    · exact h.eq i j hi hij q
    · have e : j = x := Nat.le_antisymm (Nat.le_of_lt_succ hjx) q
      subst e
      refine ⟨?_, hN.ahead hx hij⟩
      rcases Nat.lt_or_ge i (j - 1) with p | p
      · exact (h.eq i (j - 1) hi p (by lia)).1.trans he.symm
      · have e2 : i = j - 1 := Nat.le_antisymm (Nat.le_sub_one_of_lt hij) p
        rw [e2]; exact he.symm
theorem Fall.asc {xs : KA} {n : Nat} (h : Fall xs n) (hs : n ≤ xs.size) : Asc (mirror xs 0 n ((n - 0) / 2)) n := fun i j hij hj => by
  have e := fun k => getElem?_mirror_all (xs := xs) (i := 0) hs k
  have ei := e i
  have ej := e j
  rw [if_pos ⟨Nat.zero_le _, Nat.lt_trans hij hj⟩] at ei
  rw [if_pos ⟨Nat.zero_le _, hj⟩] at ej
  exact lx_congr ei ej (h _ _ (ar_rev (Nat.zero_le _) hij hj) (ar_rev1 (Nat.zero_le _) (Nat.lt_trans hij hj)).2)
theorem Asc.insert {xs : KA} {k l m : Nat} (h : Asc xs k) (hN : New xs k m) (hk : k < m) (hm : m = xs.size) (hl : l ≤ k) (lo : ∀ i, i < l → PyProof.Rows.K xs i ≤ PyProof.Rows.K xs k) (hi : ∀ i, l ≤ i → i < k → PyProof.Rows.K xs k < PyProof.Rows.K xs i) :
    Asc (bubble xs k (k - l)) (k + 1) ∧ New (bubble xs k (k - l)) (k + 1) m := by
  have e := fun p => getElem?_bubble (xs := xs) (src := k) (by lia) (k - l) (Nat.sub_le k l) p
  have el : k - (k - l) = l := by lia
  rw [el] at e
  refine ⟨fun i j hij hj => ?_, fun p h1 h2 => ?_, fun p hp => ?_⟩
  · have ei := e i
    have ej := e j
    rcases Nat.lt_trichotomy j l with q | q | q
    · rw [if_neg (by lia), if_neg (by lia)] at ei ej
      exact lx_congr ei ej (h i j hij (by lia))
    · rw [if_neg (by lia), if_neg (by lia)] at ei
      rw [if_pos q] at ej
      exact lx_congr ei ej (lx_of (lo i (by lia)) (hN.ahead hk (by lia)))
    · rw [if_neg (by lia), if_pos ⟨q, by lia⟩] at ej
      rcases Nat.lt_trichotomy i l with p | p | p
      · rw [if_neg (by lia), if_neg (by lia)] at ei
        exact lx_congr ei ej (h i (j - 1) (by lia) (by lia))
      · rw [if_pos p] at ei
        exact lx_congr ei ej (.inl (hi (j - 1) (by lia) (by lia)))
      · rw [if_neg (by lia), if_pos ⟨p, by lia⟩] at ei
        exact lx_congr ei ej (h (i - 1) (j - 1) (by lia) (by lia))
  · have ep := e p
    rw [if_neg (by lia), if_neg (by lia)] at ep
    rw [ix_congr ep]
    exact hN.1 p (by lia) h2
  · have ep := e p
    have hN' := hN.step hk
    by_cases q : p = l
    · rw [if_pos q] at ep
      rw [ix_congr ep]
      exact hN'.2 k (Nat.lt_succ_self k)
    · rw [if_neg q] at ep
      by_cases q2 : l < p ∧ p ≤ k
      · rw [if_pos q2] at ep
        rw [ix_congr ep]
        exact hN'.2 (p - 1) (by lia)
      · rw [if_neg q2] at ep
        rw [ix_congr ep]
        exact hN'.2 p hp
end Mine
end
section
namespace Mine

section
variable {prog : Program} {w : World} {A : Around} {E : Value → Shared → Prop} {s : Shared} {a₀ : Array Keyed}
structure St (a₀ : Array Keyed) (st : SortSt) (n : Nat) : Prop where
  base : SBase a₀ st
  new : New (arrOf st) n a₀.size
theorem St.turn {st : SortSt} {n b : Nat} (h : St a₀ st n) (hn : n ≤ a₀.size) : St a₀ (setArr st (mirror (arrOf st) b n ((n - b) / 2))) n :=
  ⟨h.base.setArr (mirror_perm _ _ _ _), h.new.mirror (by rw [h.base.size]; exact hn)⟩

theorem st_asc {st : SortSt} {a nrem : Nat} {Q : AscSt → SortSt → Prop} (h0 : IntKeys a₀) (hn : nrem ≤ a₀.size) (ha : 1 ≤ a) (han : a ≤ nrem) (hB : St a₀ st a) (hs : Asc (arrOf st) a)
    (h : ∀ n, a ≤ n → n ≤ nrem → Asc (arrOf st) n → St a₀ st n → (n = nrem ∨ PyProof.Rows.K (arrOf st) n < PyProof.Rows.K (arrOf st) (n - 1)) → Q (none, n) st) :
    wpS (model prog w) A E s (ascLoop a nrem) Q st := by
  unfold ascLoop
  refine wpS_forRange (I := fun x c st' => st' = st ∧ c = (none, x) ∧ St a₀ st x ∧ Asc (arrOf st) x) ?step ?fin ⟨rfl, rfl, hB, hs⟩
  case fin =>
    rintro c st' ⟨rfl, rfl, hB', hs'⟩
    rw [Nat.max_eq_right han] at hB' hs' ⊢
    exact h nrem han (Nat.le_refl _) hs' hB' (.inl rfl)
  case step =>
    rintro x c st' hax hxn ⟨rfl, rfl, hB', hs'⟩
    dsimp only
    have hx : x < a₀.size := Nat.lt_of_lt_of_le hxn hn
    refine wpS_bind (wpS_ltK hB'.base h0 hx (Nat.lt_of_le_of_lt (Nat.sub_le _ _) hx) ?_)
    by_cases q : PyProof.Rows.K (arrOf st') x < PyProof.Rows.K (arrOf st') (x - 1)
    · rw [decide_eq_true q]
      simp only [if_true]
      exact wpS_pure (h x hax (Nat.le_of_lt hxn) hs' hB' (.inr q))
    · rw [decide_eq_false q]
      simp only [Bool.false_eq_true, if_false]
      refine wpS_pure ⟨rfl, rfl, ⟨hB'.base, hB'.new.step hx⟩, hs'.snoc hB'.new hx fun i hi => ?_⟩
      rcases Nat.lt_or_ge i (x - 1) with p | p
      · exact Int.le_trans (hs' i (x - 1) p (by lia)).le (Int.not_lt.mp q)
      · have e : i = x - 1 := Nat.le_antisymm (Nat.le_sub_one_of_lt hi) p
        rw [e]; exact Int.not_lt.mp q
theorem st_tail {st : SortSt} {n nrem : Nat} {Q : Option Nat → SortSt → Prop} (h0 : IntKeys a₀) (hn : nrem ≤ a₀.size) (h1 : 1 ≤ n) (hnn : n ≤ nrem) (hB : St a₀ st n)
    (hs : Fall (arrOf st) n) (h : ∀ m st', St a₀ st' m → 1 ≤ m → m ≤ nrem → Asc (arrOf st') m → Q (some m) st') :
    wpS (model prog w) A E s (tail3 n nrem) Q st := by
  unfold tail3
  have hz : n ≤ a₀.size := Nat.le_trans hnn hn
  refine wpS_bind (wpS_reverse ?_)
  refine wpS_bind (st_asc h0 hn h1 hnn (hB.turn hz) (hs.asc (by rw [hB.base.size]; exact hz)) fun m hm1 hm2 hsm hBm _ => wpS_pure (h m _ hBm (Nat.le_trans h1 hm1) hm2 hsm))
theorem st_down {st : SortSt} {n nrem : Nat} {Q : DescSt → SortSt → Prop} (h0 : IntKeys a₀) (hn : nrem ≤ a₀.size) (h1 : 1 ≤ n) (hnn : n ≤ nrem) (hB : St a₀ st n)
    (hs : Down (arrOf st) (n - 1) n)
    (h : ∀ m neq st', St a₀ st' m → n ≤ m → m ≤ nrem → neq + 1 ≤ m → Down (arrOf st') (m - (neq + 1)) m → Q (none, m, neq) st') :
    wpS (model prog w) A E s (descLoop n nrem) Q st := by
  unfold descLoop
  refine wpS_forRange (I := fun x c st' => ∃ neq, c = (none, x, neq) ∧ St a₀ st' x ∧ neq + 1 ≤ x ∧ Down (arrOf st') (x - (neq + 1)) x) ?step ?fin ⟨0, rfl, hB, h1, hs⟩
  case fin =>
    rintro c st' ⟨neq, rfl, hB', hq, hs'⟩
    rw [Nat.max_eq_right hnn] at hB' hq hs' ⊢
    exact h nrem neq st' hB' hnn (Nat.le_refl _) hq hs'
  case step =>
    rintro x c st' hax hxn ⟨neq, rfl, hB', hq, hs'⟩
    dsimp only
    have hx : x < a₀.size := Nat.lt_of_lt_of_le hxn hn
    have hsz : x ≤ (arrOf st').size := by rw [hB'.base.size]; exact Nat.le_of_lt hx
    have hb : x - (neq + 1) < x := by lia
    refine wpS_bind (wpS_ltK hB'.base h0 hx (Nat.lt_of_le_of_lt (Nat.sub_le _ _) hx) ?_)
    by_cases q : PyProof.Rows.K (arrOf st') x < PyProof.Rows.K (arrOf st') (x - 1)
    · rw [decide_eq_true q]
      simp only [if_true]
      have hall : ∀ i, i < x → PyProof.Rows.K (arrOf st') x < PyProof.Rows.K (arrOf st') i := fun i hi => Int.lt_of_lt_of_le q (hs'.last hb hi)
      by_cases hneq : neq > 0
      · rw [if_pos hneq]
        refine wpS_bind (wpS_reverse (wpS_pure ⟨0, rfl, ?_, Nat.succ_le_succ (Nat.zero_le _), ?_⟩))
        · have t := hB'.turn (b := x - (neq + 1)) (Nat.le_of_lt hx)
          exact ⟨t.base, t.new.step hx⟩
        · have f := hs'.turn hsz
          show Down (mirror (arrOf st') (x - (neq + 1)) x _) x (x + 1)
          refine f.down fun i hi => ?_
          have e := fun k => getElem?_mirror_all (xs := arrOf st') (i := x - (neq + 1)) hsz k
          have ex := e x
          rw [if_neg (fun p => Nat.lt_irrefl _ p.2)] at ex
          rw [K_congr ex]
          have ei := e i
          by_cases p : x - (neq + 1) ≤ i ∧ i < x
          · rw [if_pos p] at ei
            rw [K_congr ei]
            exact hall _ (by lia)
          · rw [if_neg p] at ei
            rw [K_congr ei]
            exact hall i hi
      · rw [if_neg hneq]
        have e0 : neq = 0 := Nat.eq_zero_of_not_pos hneq
        subst e0
        refine wpS_pure ⟨0, rfl, ⟨hB'.base, hB'.new.step hx⟩, Nat.succ_le_succ (Nat.zero_le _), ?_⟩
        show Down (arrOf st') x (x + 1)
        have e1 : x - 1 + 1 = x := Nat.sub_add_cancel hq
        have hs2 : Down (arrOf st') (x - 1) (x - 1 + 1) := by rw [e1]; exact hs'
        have f := hs2.one
        rw [e1] at f
        exact f.down hall
    · rw [decide_eq_false q]
      simp only [Bool.false_eq_true, if_false]
      refine wpS_bind (wpS_ltK hB'.base h0 (Nat.lt_of_le_of_lt (Nat.sub_le _ _) hx) hx ?_)
      by_cases p : PyProof.Rows.K (arrOf st') (x - 1) < PyProof.Rows.K (arrOf st') x
      · rw [decide_eq_true p]
        simp only [if_true]
        exact wpS_pure (h x neq st' hB' hax (Nat.le_of_lt hxn) hq hs')
      · rw [decide_eq_false p]
        simp only [Bool.false_eq_true, if_false]
        refine wpS_pure ⟨neq + 1, rfl, ⟨hB'.base, hB'.new.step hx⟩, Nat.succ_le_succ hq, ?_⟩
        have e2 : x + 1 - (neq + 1 + 1) = x - (neq + 1) := by lia
        rw [e2]
        exact hs'.more hb hB'.new hx (Int.le_antisymm (Int.not_lt.mp p) (Int.not_lt.mp q))
theorem st_part {st : SortSt} {n nrem : Nat} {Q : Option Nat → SortSt → Prop} (h0 : IntKeys a₀) (hn : nrem ≤ a₀.size) (hnn : n + 1 ≤ nrem) (hB : St a₀ st (n + 1))
    (hs : Down (arrOf st) n (n + 1)) (h : ∀ m st', St a₀ st' m → 1 ≤ m → m ≤ nrem → Asc (arrOf st') m → Q (some m) st') :
    wpS (model prog w) A E s (descPart n nrem) Q st := by
  unfold descPart
  refine wpS_bind (wpS_lift (wpAny_rule ⟨rfl, ?_⟩))
  refine wpS_bind (st_down h0 hn (Nat.succ_le_succ (Nat.zero_le _)) hnn hB hs fun m neq st' hB' hm1 hm2 hq hs' => ?_)
  dsimp only
  have h1 : 1 ≤ m := by lia
  have hz : m ≤ a₀.size := Nat.le_trans hm2 hn
  by_cases hneq : neq > 0
  · rw [if_pos hneq]
    exact wpS_bind (wpS_reverse (st_tail h0 hn h1 hm2 (hB'.turn hz) (hs'.turn (by rw [hB'.base.size]; exact hz)) h))
  · rw [if_neg hneq]
    have e0 : neq = 0 := Nat.eq_zero_of_not_pos hneq
    subst e0
    have e1 : m - 1 + 1 = m := Nat.sub_add_cancel h1
    have hs2 : Down (arrOf st') (m - 1) (m - 1 + 1) := by rw [e1]; exact hs'
    have f := hs2.one
    rw [e1] at f
    exact st_tail h0 hn h1 hm2 hB' f h
theorem st_run {st : SortSt} {nrem : Nat} {Q : Option Nat → SortSt → Prop} (h0 : IntKeys a₀) (hn : nrem ≤ a₀.size) (h1 : 1 ≤ nrem) (hB : St a₀ st 1)
    (h : ∀ m st', St a₀ st' m → 1 ≤ m → m ≤ nrem → Asc (arrOf st') m → Q (some m) st') :
    wpS (model prog w) A E s (countRun' 0 nrem) Q st := by
  rw [countRun0_eq]
  refine wpS_bind (st_asc h0 hn (Nat.le_refl 1) h1 hB (fun i j hij hj => absurd hj (by lia)) fun n hn1 hn2 hsn hBn hor => ?_)
  dsimp only
  by_cases hnn : n = nrem
  · rw [if_pos (by simpa using hnn)]
    exact wpS_pure (h n st hBn hn1 hn2 hsn)
  · rw [if_neg (by simpa using hnn)]
    have hlt := hor.resolve_left hnn
    have hnr : n < nrem := Nat.lt_of_le_of_ne hn2 hnn
    have hz : n < a₀.size := Nat.lt_of_lt_of_le hnr hn
    by_cases hgt : n > 1
    · rw [if_pos hgt]
      refine wpS_bind (wpS_ltK hBn.base h0 (by lia) (by lia) ?_)
      by_cases q : PyProof.Rows.K (arrOf st) 0 < PyProof.Rows.K (arrOf st) (n - 1)
      · rw [decide_eq_true q]
        simp only [if_true]
        exact wpS_pure (h n st hBn hn1 hn2 hsn)
      · rw [decide_eq_false q]
        simp only [Bool.false_eq_true, if_false]
        have hsz : n ≤ (arrOf st).size := by rw [hBn.base.size]; exact Nat.le_of_lt hz
        have all : ∀ k, k < n → PyProof.Rows.K (arrOf st) k = PyProof.Rows.K (arrOf st) (n - 1) := fun k hk => by
          have a1 : PyProof.Rows.K (arrOf st) 0 ≤ PyProof.Rows.K (arrOf st) k := by
            rcases Nat.eq_zero_or_pos k with p | p
            · rw [p]; exact Int.le_refl _
            · exact (hsn 0 k p hk).le
          have a2 : PyProof.Rows.K (arrOf st) k ≤ PyProof.Rows.K (arrOf st) (n - 1) := by
            rcases Nat.lt_or_ge k (n - 1) with p | p
            · exact (hsn k (n - 1) p (by lia)).le
            · have e : k = n - 1 := by lia
              rw [e]; exact Int.le_refl _
          lia
        have d0 : Down (arrOf st) 0 n := ⟨fun i j _ hj => absurd hj (Nat.not_lt_zero _), fun i j hi => absurd hi (Nat.not_lt_zero _), fun i j _ hij hj => by
          have e := (all i (Nat.lt_trans hij hj)).trans (all j hj).symm
          refine ⟨e, ?_⟩
          rcases hsn i j hij hj with p | p
          · exact absurd p (by rw [e]; exact Int.lt_irrefl _)
          · exact p.2⟩
        have t := hBn.turn (b := 0) (Nat.le_of_lt hz)
        refine wpS_bind (wpS_reverse (st_part h0 hn hnr ⟨t.base, t.new.step hz⟩ ?_ h))
        show Down (mirror (arrOf st) 0 n _) n (n + 1)
        refine (d0.turn hsz).down fun i hi => ?_
        have e := fun k => getElem?_mirror_all (xs := arrOf st) (i := 0) hsz k
        have ex := e n
        rw [if_neg (fun p => Nat.lt_irrefl _ p.2)] at ex
        have ei := e i
        rw [if_pos ⟨Nat.zero_le _, hi⟩] at ei
        rw [K_congr ex, K_congr ei, all (0 + n - 1 - i) (by lia)]
        exact hlt
    · rw [if_neg hgt]
      have hn1' : n = 1 := by lia
      subst hn1'
      refine st_part h0 hn hnr ⟨hBn.base, hBn.new.step hz⟩ ⟨fun i j hij hj => absurd hj (by lia), fun i j hi hj hx => ?_, fun i j h1 h2 h3 => absurd h3 (by lia)⟩ h
      have e1 : i = 0 := by lia
      have e2 : j = 1 := by lia
      rw [e1, e2]
      exact hlt
end
end Mine
end
section
namespace Mine

section
variable {prog : Program} {w : World} {A : Around} {E : Value → Shared → Prop} {s : Shared} {a₀ : Array Keyed}
theorem ar_mid {l r : Nat} (h : l < r) : l ≤ (l + r) / 2 ∧ (l + r) / 2 < r :=
  ⟨(Nat.le_div_iff_mul_le (by decide)).mpr (by rw [Nat.mul_two]; exact Nat.add_le_add_left (Nat.le_of_lt h) l), Nat.div_lt_of_lt_mul (by rw [Nat.two_mul]; exact Nat.add_lt_add_right h r)⟩
theorem st_bin {st : SortSt} {n ok : Nat} {Q : Bool → SortSt → Prop} (h0 : IntKeys a₀) (hn : n = a₀.size) (h1 : 1 ≤ ok) (hok : ok ≤ n) (hB : St a₀ st ok) (hs : Asc (arrOf st) ok)
    (h : ∀ st', SBase a₀ st' → Asc (arrOf st') n → Q true st') : wpS (model prog w) A E s (binarySort' 0 n ok) Q st := by
  rw [binarySort'_eq]
  simp only [Nat.zero_add]
  rw [Nat.max_eq_left h1]
  refine wpS_bind (wpS_mono (wpS_forRange (I := fun k c st' => c = (none, ()) ∧ St a₀ st' k ∧ Asc (arrOf st') k)
    (Q := fun c st' => c = (none, ()) ∧ SBase a₀ st' ∧ Asc (arrOf st') n) ?step ?fin ⟨rfl, hB, hs⟩) ?post)
  case post =>
    rintro c st' ⟨rfl, hB', hs'⟩
    exact wpS_pure (h st' hB' hs')
  case fin =>
    rintro c st' ⟨hc, hB', hs'⟩
    rw [Nat.max_eq_right hok] at hs'
    exact ⟨hc, hB'.base, hs'⟩
  case step =>
    rintro k c st' hak hkn ⟨rfl, hB', hs'⟩
    have hk : k < a₀.size := hn ▸ hkn
    refine wpS_bind (wpS_mono (wpS_forRange (I := fun x c st'' => st'' = st' ∧ ∃ l r, c = (none, l, r) ∧ l ≤ r ∧ r ≤ k ∧ r - l ≤ k - x ∧
        (∀ i, i < l → PyProof.Rows.K (arrOf st') i ≤ PyProof.Rows.K (arrOf st') k) ∧ (∀ i, r ≤ i → i < k → PyProof.Rows.K (arrOf st') k < PyProof.Rows.K (arrOf st') i))
      (Q := fun c st'' => st'' = st' ∧ ∃ l r, c = (none, l, r) ∧ l ≤ k ∧
        (∀ i, i < l → PyProof.Rows.K (arrOf st') i ≤ PyProof.Rows.K (arrOf st') k) ∧ (∀ i, l ≤ i → i < k → PyProof.Rows.K (arrOf st') k < PyProof.Rows.K (arrOf st') i)) ?istep ?ifin ?iinit) ?ipost)
    case iinit => exact ⟨rfl, 0, k, rfl, Nat.zero_le _, Nat.le_refl _, Nat.le_refl _, fun i hi => absurd hi (Nat.not_lt_zero _), fun i h1 h2 => absurd h2 (Nat.not_lt.mpr h1)⟩
    case ifin =>
      rintro c st'' ⟨rfl, l, r, rfl, hlr, hrk, hm, hlo, hhi⟩
      have : l = r := Nat.le_antisymm hlr (Nat.le_of_sub_eq_zero (Nat.le_zero.mp (by simpa using hm)))
      subst this
      exact ⟨rfl, l, l, rfl, hrk, hlo, hhi⟩
    case istep =>
      rintro x c st'' _ hxk ⟨rfl, l, r, rfl, hlr, hrk, hm, hlo, hhi⟩
      dsimp only
      by_cases hge : l ≥ r
      · rw [if_pos hge]
        have : l = r := Nat.le_antisymm hlr hge
        subst this
        exact wpS_pure ⟨rfl, l, l, rfl, hrk, hlo, hhi⟩
      · rw [if_neg hge]
        have hmid := ar_mid (Nat.not_le.mp hge)
        refine wpS_bind (wpS_ltK hB'.base h0 hk (Nat.lt_trans (Nat.lt_of_lt_of_le hmid.2 hrk) hk) ?_)
        by_cases q : PyProof.Rows.K (arrOf st'') k < PyProof.Rows.K (arrOf st'') ((l + r) / 2)
        · rw [decide_eq_true q]
          simp only [if_true]
          refine wpS_pure ⟨rfl, l, (l + r) / 2, rfl, hmid.1, Nat.le_of_lt (Nat.lt_of_lt_of_le hmid.2 hrk), Nat.le_sub_one_of_lt (Nat.lt_of_lt_of_le (Nat.sub_lt_sub_right hmid.1 hmid.2) hm), hlo, fun i h1 h2 => ?_⟩
          rcases Nat.lt_or_ge ((l + r) / 2) i with p | p
          · exact Int.lt_of_lt_of_le q (hs' _ _ p h2).le
          · have e : i = (l + r) / 2 := Nat.le_antisymm p h1
            rw [e]; exact q
        · rw [decide_eq_false q]
          simp only [Bool.false_eq_true, if_false]
          refine wpS_pure ⟨rfl, (l + r) / 2 + 1, r, rfl, hmid.2, hrk, Nat.le_trans (Nat.sub_le_sub_left (Nat.succ_le_succ hmid.1) r) (Nat.sub_le_sub_right hm 1), fun i h1 => ?_, hhi⟩
          rcases Nat.lt_or_ge i ((l + r) / 2) with p | p
          · exact Int.le_trans (hs' _ _ p (Nat.lt_of_lt_of_le hmid.2 hrk)).le (Int.not_lt.mp q)
          · have e : i = (l + r) / 2 := Nat.le_antisymm (Nat.le_of_lt_succ h1) p
            rw [e]; exact Int.not_lt.mp q
    case ipost =>
      rintro c st'' ⟨rfl, l, r, rfl, hlk, hlo, hhi⟩
      show wpS _ _ _ _ (do moveDown' k l; pure (ForInStep.yield (none, ()))) _ _
      rw [moveDown'_eq]
      obtain ⟨g1, g2⟩ := hs'.insert hB'.new hk hB'.base.size.symm hlk hlo hhi
      exact wpS_bind (wpS_modify (wpS_pure ⟨rfl, ⟨hB'.base.setArr (bubble_perm _ _ _), g2⟩, g1⟩))
noncomputable def StDone (a₀ : Array Keyed) (st : SortSt) : Prop :=
  (arrOf st).Perm a₀ ∧ failedOf st = none ∧ pendingOf st = #[(0, a₀.size, 0)] ∧ Asc (arrOf st) a₀.size
theorem st_done {st : SortSt} (hB : SBase a₀ st) (hs : Asc (arrOf st) a₀.size) : StDone a₀ (setPending st ((pendingOf st).push (0, a₀.size, 0))) :=
  ⟨hB.perm, hB.failed, by show (pendingOf st).push _ = _; rw [hB.pend]; rfl, hs⟩
theorem st_runs {st : SortSt} {Q : Unit → SortSt → Prop} (h0 : IntKeys a₀) (hB : St a₀ st 1) (h2 : 2 ≤ a₀.size) (h64 : a₀.size < 64)
    (h : ∀ st', (arrOf st').Perm a₀ → failedOf st' = none → Asc (arrOf st') a₀.size → Q () st') : wpS (model prog w) A E s sortRuns' Q st := by
  rw [sortRuns'_eq]
  refine wpS_bind (wpS_get ?_)
  dsimp only
  have hmr : minRun' a₀.size a₀.size 0 = a₀.size := by
    obtain ⟨f, hf⟩ : ∃ f, a₀.size = f + 1 := ⟨a₀.size - 1, by lia⟩
    have : minRun' (f + 1) a₀.size 0 = a₀.size := by rw [minRun'_succ, if_pos h64]; rfl
    rwa [← hf] at this
  simp only [hB.base.size, hmr]
  refine wpS_bind (wpS_mono (wpS_forRange
    (I := fun x c st' => (x = 0 ∧ c = (none, 0) ∧ St a₀ st' 1) ∨ (1 ≤ x ∧ c = (none, a₀.size) ∧ StDone a₀ st'))
    (Q := fun c st' => c = (none, a₀.size) ∧ StDone a₀ st') ?step ?fin (.inl ⟨rfl, rfl, hB⟩)) ?post)
  case fin =>
    rintro c st' (⟨hx, _, _⟩ | ⟨_, hc, hD⟩)
    · lia
    · exact ⟨hc, hD⟩
  case step =>
    rintro x c st' _ hx (⟨rfl, rfl, hB'⟩ | ⟨hx1, rfl, hD⟩)
    · dsimp only
      rw [if_neg (by lia)]
      simp only [Nat.sub_zero, Nat.min_self, Nat.zero_add]
      refine wpS_bind (st_run h0 (Nat.le_refl _) (by lia) hB' fun m st2 hB2 hm1 hm2 hs2 => ?_)
      dsimp only
      by_cases hlt : m < a₀.size
      · rw [if_pos hlt]
        refine wpS_bind (wpS_lift (wpAny_rule ⟨rfl, ?_⟩))
        refine wpS_bind (st_bin h0 rfl hm1 hm2 hB2 hs2 fun st3 hB3 hs3 => ?_)
        simp only [Bool.not_true, Bool.false_eq_true, if_false]
        refine wpS_bind (wpS_get ?_)
        have hb : (pendingOf st3).back? = none := by rw [hB3.pend]; rfl
        rw [hb]
        dsimp only
        exact wpS_bind (wpS_modify (wpS_pure (.inr ⟨Nat.le_refl _, rfl, st_done hB3 hs3⟩)))
      · rw [if_neg hlt]
        have hm : m = a₀.size := Nat.le_antisymm hm2 (Nat.not_lt.mp hlt)
        subst hm
        refine wpS_bind (wpS_get ?_)
        have hb : (pendingOf st2).back? = none := by rw [hB2.base.pend]; rfl
        rw [hb]
        dsimp only
        exact wpS_bind (wpS_modify (wpS_pure (.inr ⟨Nat.le_refl _, rfl, st_done hB2.base hs2⟩)))
    · dsimp only
      rw [if_pos (Nat.le_refl _)]
      exact wpS_pure ⟨rfl, hD⟩
  case post =>
    rintro c st' ⟨rfl, hD⟩
    dsimp only
    refine wpS_bind (wpS_mono (wpS_forRange (I := fun _ c st'' => st'' = st' ∧ c = (none, ())) (Q := fun c st'' => st'' = st' ∧ c = (none, ())) ?_ (fun _ _ hh => hh) ⟨rfl, rfl⟩) ?_)
    · rintro x c st'' _ _ ⟨rfl, rfl⟩
      refine wpS_bind (wpS_get ?_)
      rw [if_pos (by rw [hD.2.2.1]; exact Nat.le_refl 1)]
      exact wpS_pure ⟨rfl, rfl⟩
    · rintro c st'' ⟨rfl, rfl⟩
      exact wpS_pure (h _ hD.1 hD.2.1 hD.2.2.2)
end
end Mine
end
section
namespace Mine

/-! what comes of the sort -/
noncomputable def RtK (ks : Nat → Int) (a b : Nat) : Prop := ks a < ks b ∨ (ks a = ks b ∧ a < b)
section
variable {ks : Nat → Int} {keys : Array Value} {vs : List Value} {n : Nat}
structure Pairs (ks : Nat → Int) (keys : Array Value) (vs : List Value) (n : Nat) : Prop where
  k : IntsAre keys.toList ((List.range n).map ks)
  v : IntsAre vs ((List.range n).map fun (i : Nat) => (i : Int))
theorem Pairs.size (h : Pairs ks keys vs n) : keys.size = n ∧ vs.length = n := by
  have h1 := h.k.length
  have h2 := h.v.length
  rw [List.length_map, List.length_range] at h1 h2
  exact ⟨h1, h2⟩
theorem Pairs.zsize (h : Pairs ks keys vs n) : (keys.zip vs.toArray).size = n := by
  obtain ⟨h1, h2⟩ := h.size
  rw [Array.size_zip, h1, List.size_toArray, h2, Nat.min_self]
theorem rg_at {α : Type} {f : Nat → α} {n i : Nat} (h : i < n) : ((List.range n).map f)[i]? = some (f i) := by
  rw [List.getElem?_map, List.getElem?_range h]; rfl
theorem Pairs.at (h : Pairs ks keys vs n) {i : Nat} (hi : i < n) : ∃ t u, (keys.zip vs.toArray)[i]? = some (.int (ks i) t, .int i u) := by
  obtain ⟨t, e1⟩ := h.k.get i (ks i) (rg_at hi)
  obtain ⟨u, e2⟩ := h.v.get i (i : Int) (rg_at hi)
  refine ⟨t, u, ?_⟩
  rw [Array.getElem?_toList] at e1
  rw [Array.getElem?_zip_eq_some]
  exact ⟨e1, by rw [List.getElem?_toArray]; exact e2⟩
theorem Pairs.keysInt (h : Pairs ks keys vs n) : IntKeys (keys.zip vs.toArray) := fun p hp => by
  obtain ⟨i, hi, e⟩ := List.getElem_of_mem hp
  have hi' : i < n := by
    rw [Array.length_toList, h.zsize] at hi
    exact hi
  obtain ⟨t, u, e2⟩ := h.at hi'
  have e3 : (keys.zip vs.toArray).toList[i]? = some p := by rw [List.getElem?_eq_getElem hi, e]
  rw [Array.getElem?_toList, e2] at e3
  cases e3
  exact ⟨_, _, rfl⟩
theorem Pairs.new (h : Pairs ks keys vs n) (h1 : 1 ≤ n) : New (keys.zip vs.toArray) 1 n := by
  have key : ∀ k, k < n → Ix (keys.zip vs.toArray) k = k := fun k hk => by
    obtain ⟨t, u, e⟩ := h.at hk
    unfold Ix
    rw [e]; rfl
  refine ⟨fun k _ hk => key k hk, fun k hk => ?_⟩
  rw [key k (Nat.lt_of_lt_of_le hk h1)]
  exact Int.ofNat_lt.mpr hk
noncomputable def outOf (xs : Array Keyed) : List Nat := xs.toList.map fun p => (numOf p.2).toNat
theorem out_ok (h : Pairs ks keys vs n) {xs : Array Keyed} (hp : xs.Perm (keys.zip vs.toArray)) (hs : Asc xs n) :
    (outOf xs).Perm (List.range n) ∧ (outOf xs).Pairwise (RtK ks) ∧ IntsAre (xs.map (·.2)).toList ((outOf xs).map fun (i : Nat) => (i : Int)) := by
  have hl : xs.toList.Perm (keys.zip vs.toArray).toList := Array.perm_iff_toList_perm.mp hp
  have sz : xs.toList.length = n := by rw [Array.length_toList, hp.size_eq, h.zsize]
  have e0 : (keys.zip vs.toArray).toList.map (fun p => (numOf p.2).toNat) = List.range n := by
    refine List.ext_getElem? fun i => ?_
    rw [List.getElem?_map, Array.getElem?_toList]
    rcases Nat.lt_or_ge i n with hi | hi
    · obtain ⟨t, u, e⟩ := h.at hi
      rw [e, List.getElem?_range hi]; rfl
    · rw [Array.getElem?_eq_none (by rw [h.zsize]; exact hi), List.getElem?_eq_none (by rw [List.length_range]; exact hi)]; rfl
  have mem : ∀ p ∈ xs.toList, ∃ i t u, p = (Value.int (ks i) t, Value.int (i : Nat) u) := fun p hp' => by
    obtain ⟨i, hi, e⟩ := List.getElem_of_mem (hl.mem_iff.mp hp')
    have hi' : i < n := by
      rw [Array.length_toList, h.zsize] at hi
      exact hi
    obtain ⟨t, u, e2⟩ := h.at hi'
    have e3 : (keys.zip vs.toArray).toList[i]? = some p := by rw [List.getElem?_eq_getElem hi, e]
    rw [Array.getElem?_toList, e2] at e3
    cases e3
    exact ⟨i, t, u, rfl⟩
  refine ⟨?_, ?_, ?_⟩
  · have := hl.map fun p : Keyed => (numOf p.2).toNat
    rwa [e0] at this
  · unfold outOf
    rw [List.pairwise_map, List.pairwise_iff_getElem]
    intro i j hi hj hij
    obtain ⟨p, t, u, ep⟩ := mem _ (List.getElem_mem hi)
    obtain ⟨q, t', u', eq⟩ := mem _ (List.getElem_mem hj)
    have xi : xs[i]? = some (Value.int (ks p) t, Value.int (p : Nat) u) := by rw [← Array.getElem?_toList, List.getElem?_eq_getElem hi, ep]
    have xj : xs[j]? = some (Value.int (ks q) t', Value.int (q : Nat) u') := by rw [← Array.getElem?_toList, List.getElem?_eq_getElem hj, eq]
    have hlx := hs i j hij (sz ▸ hj)
    unfold Lx PyProof.Rows.K Ix at hlx
    rw [xi, xj] at hlx
    rw [ep, eq]
    rcases hlx with a | ⟨a, b⟩
    · exact .inl a
    · exact .inr ⟨a, Int.ofNat_lt.mp b⟩
  · have e : (xs.map (·.2)).toList = xs.toList.map (·.2) := Array.toList_map
    rw [e, outOf, List.map_map]
    clear e0 sz hs hl hp
    generalize xs.toList = l at mem
    induction l with
    | nil => exact .nil
    | cons p l ih =>
      obtain ⟨i, t, u, rfl⟩ := mem p List.mem_cons_self
      exact .cons _ _ (ih fun q hq => mem q (List.mem_cons_of_mem _ hq))
end
end Mine
end
section
set_option maxRecDepth 100000
namespace Mine

section
variable {prog : Program} {w : World} {A : Around} {E : Value → Shared → Prop} {s : Shared}
theorem collect_rng {r : Addr} {n : Nat} {t u v : Tok} {Q : List Value → Shared → Prop} (hh : A.handled = none) (hr : IsRange s.heap r 0 n 1 t u v) (hsmall : Builtin.Range.small 0 n 1 = true) (hn : Builtin.Range.rangeSize 0 n 1 = (n : Int)) (hlen : n ≤ 2 ^ 24)
    (h : ∀ h' tk vs, (∀ b o, s.heap.get? b = some o → h'.get? b = some o) → IntsAre vs ((List.range n).map fun (i : Nat) => (i : Int)) → Q vs { s with heap := h', toks := tk }) : wpAny (model prog w) A (collect (.ref r)) Q E s := by
  unfold collect
  refine wpAny_bind (wpAny_runValue (codeAny_builtin F.entry_proto_collect ?_))
  rw [Around.under_plainId F.plain_proto_collect _]
  show wpAny _ A.in1 (newList [] >>= fun l => again (.builtin "list.__iadd__" ⟨[l, .ref r], []⟩)) _ _ s
  refine wpAny_bind (wpAny_newObj_type ?_)
  refine wpAny_pure ⟨plainId_quiet F.plain_list_iadd _, codeAny_builtin F.entry_list_iadd ?_⟩
  rw [Around.under_plainId F.plain_list_iadd _]
  have hS : (s.heap.push { cls := .type "list", data := .seq ([] : List Value).toArray }).get? s.heap.objs.size = some { cls := .type "list", data := .seq #[] 0 } := Heap.get?_push_size _ rfl
  show wpAny _ A.in1 (Builtin.List.listExtendWith (.ref s.heap.objs.size) (.ref r) (.ref s.heap.objs.size)) _ _ _
  refine wpAny_extend_range (A := A) (R := fun r s' => match r with
    | .ok (.ret v) => wpAny (model prog w) A (match v with
      | .ref a => do
        let o ← load a
        match o.data with
        | .seq xs _ => pure xs.toList
        | _ => unsupported "internal:collect"
      | _ => unsupported "internal:collect") Q E s'
    | .ok _ => False
    | .error e => E e s') (s := { s with heap := s.heap.push { cls := .type "list", data := .seq ([] : List Value).toArray } }) hh (Heap.get?_push_of_some _ hr) hsmall hn hlen s.heap.objs.size (.ref s.heap.objs.size) 0 hS fun h' tk acc c' hk hS' hacc => ?_
  show wpAny _ A (load s.heap.objs.size >>= _) _ _ _
  refine wpAny_bind (wpAny_load hS' ?_)
  refine wpAny_pure (h h' tk acc.toList (fun b o e => hk b o (Nat.ne_of_lt (Heap.lt_size e)) (Heap.get?_push_of_some _ e)) ?_)
  have hsz : acc.toList.length = n := by rw [Array.length_toList]; exact hacc.1
  have key : ∀ (l : List Value) (m : Nat), (∀ j v, l[j]? = some v → ∃ t, v = Value.int ((m + j : Nat) : Int) t) → IntsAre l ((List.range' m l.length).map fun (i : Nat) => (i : Int)) := by
    intro l
    induction l with
    | nil => exact fun m _ => .nil
    | cons x l ih =>
      intro m hx
      obtain ⟨t, rfl⟩ := hx 0 x rfl
      rw [List.length_cons, List.range'_succ, List.map_cons]
      exact .cons _ t (ih (m + 1) fun j v hv => by
        obtain ⟨t, rfl⟩ := hx (j + 1) v hv
        exact ⟨t, by rw [Nat.add_assoc, Nat.add_comm 1 j]⟩)
  have := key acc.toList 0 fun j v hv => by
    rw [Array.getElem?_toList] at hv
    obtain ⟨t, rfl⟩ := hacc.2 j v hv
    exact ⟨t, by rw [Nat.zero_add, Int.mul_one, Int.zero_add]⟩
  rw [hsz, ← List.range_eq_range'] at this
  exact this
end
end Mine
end
section
set_option maxRecDepth 100000
set_option maxHeartbeats 4000000
namespace Mine

section
variable {prog : Program} {w : World} {A : Around} {E : Value → Shared → Prop} {s : Shared}
theorem upd_other {h : Heap} {a b : Addr} {g : Obj → Obj} {o : Obj} (hb : b ≠ a) (e : h.get? b = some o) : (h.update a g).get? b = some o := (Heap.get?_update_other _ _ (Ne.symm hb)).trans e
theorem sort_tail {a kS : Addr} {vs : List Value} {keys : Array Value} {ks : Nat → Int} {n e e1 : Nat} {P : PySem.Fin → Shared → Prop} {st : SortSt} (hp0 : Pairs ks keys vs n) (h64 : n < 64) (hk : s.heap.get? kS = some (seqObj "list" keys e)) (ha : s.heap.get? a = some (seqObj "list" #[] e1)) (hne : kS ≠ a)
    (hp : (arrOf st).Perm (keys.zip vs.toArray)) (hs : Asc (arrOf st) n) (hfl : failedOf st = none)
    (done : ∀ (h' : Heap) (tk : Nat) (out : Array Value) (c : Nat) (o : List Nat), (∀ b x, b ≠ a → b ≠ kS → s.heap.get? b = some x → h'.get? b = some x) → h'.get? a = some (seqObj "list" out c) → o.Perm (List.range n) → o.Pairwise (RtK ks) → IntsAre out.toList (o.map fun (i : Nat) => (i : Int)) → P (.done (.ret .none)) { s with heap := h', toks := tk }) :
    wpAny (model prog w) A (ksk_tail a false e1 (.ref kS) st) P E s := by
  obtain ⟨o1, o2, o3⟩ := out_ok hp0 hp hs
  obtain ⟨z1, z2⟩ := hp0.size
  have zs : ((arrOf st).map (·.2)).size = n := by rw [Array.size_map, hp.size_eq, hp0.zsize]
  have na1 : (s.heap.update kS (Obj.mapSeq fun _ => (#[] : Array Value))).get? a = some (seqObj "list" #[] e1) := upd_other (Ne.symm hne) ha
  obtain ⟨c2, hc2⟩ : ∃ c2, ((s.heap.update kS (Obj.mapSeq fun _ => (#[] : Array Value))).update a (Obj.mapSeq fun _ => (arrOf st).map (·.2))).get? a = some (seqObj "list" ((arrOf st).map (·.2)) c2) := ⟨_, get?_update_seq na1 fun _ => (arrOf st).map (·.2)⟩
  unfold ksk_tail
  try dsimp only
  refine wpAny_bind (listUpdate_at hk rfl ?_ (by rw [z1, sizeLine_eq]; lia) (Nat.zero_le _))
  refine wpAny_bind (wpAny_letGo ?_)
  refine wpAny_bind (seqEpoch_at na1 rfl ?_)
  refine wpAny_bind (listUpdate_at na1 rfl ?_ (Nat.zero_le _) (Nat.le_trans (Nat.le_of_eq zs) (by rw [sizeLine_eq]; lia)))
  rw [hfl]
  simp only [bne_self_eq_false, Bool.false_eq_true, if_false]
  exact wpAny_pure (done _ _ _ c2 _ (fun b x h1 h2 e => upd_other h1 (upd_other h2 e)) hc2 o1 o2 o3)
theorem sort_end {a kS : Addr} {vs : List Value} {keys : Array Value} {ks : Nat → Int} {n e e1 : Nat} {P : PySem.Fin → Shared → Prop} (hp0 : Pairs ks keys vs n) (h2 : 2 ≤ n) (h64 : n < 64) (hk : s.heap.get? kS = some (seqObj "list" keys e)) (ha : s.heap.get? a = some (seqObj "list" #[] e1)) (hne : kS ≠ a)
    (done : ∀ (h' : Heap) (tk : Nat) (out : Array Value) (c : Nat) (o : List Nat), (∀ b x, b ≠ a → b ≠ kS → s.heap.get? b = some x → h'.get? b = some x) → h'.get? a = some (seqObj "list" out c) → o.Perm (List.range n) → o.Pairwise (RtK ks) → IntsAre out.toList (o.map fun (i : Nat) => (i : Int)) → P (.done (.ret .none)) { s with heap := h', toks := tk }) :
    wpAny (model prog w) A (ksk_end a false vs.toArray e1 (.ref kS) keys) P E s := by
  obtain ⟨z1, z2⟩ := hp0.size
  have zz := hp0.zsize
  unfold ksk_end
  simp only [Bool.false_eq_true, if_false]
  have hlt : ¬ vs.toArray.size < 2 := by rw [List.size_toArray, z2]; lia
  rw [if_neg hlt, if_neg hlt, ksk_kind hp0.k (by rw [z1]; exact h2)]
  refine wpAny_bind (wpAny_pure ?_)
  refine wpAny_bind (wpAny_mono (st_runs (a₀ := keys.zip vs.toArray) (st := SortSt.mk' oneType' (keys.zip vs.toArray) #[] 7 none)
    (Q := fun _ st' => (arrOf st').Perm (keys.zip vs.toArray) ∧ failedOf st' = none ∧ Asc (arrOf st') (keys.zip vs.toArray).size)
    hp0.keysInt ⟨⟨Array.Perm.refl _, rfl, rfl, rfl⟩, by rw [zz]; exact hp0.new (Nat.le_trans (by decide) h2)⟩ (by rw [zz]; exact h2) (by rw [zz]; exact h64) fun st' a1 a2 a3 => ⟨a1, a2, a3⟩) ?_ fun _ _ e => e)
  rintro ⟨⟨⟩, st'⟩ s' ⟨rfl, hp, hf, hs⟩
  try dsimp only
  exact sort_tail hp0 h64 hk ha hne hp (by rw [zz] at hs; exact hs) hf done
theorem sort_rest {a kS : Addr} {f : Value} {vs : List Value} {ks : Nat → Int} {n e1 : Nat} {P : PySem.Fin → Shared → Prop} (hv : IntsAre vs ((List.range n).map fun (i : Nat) => (i : Int))) (h2 : 2 ≤ n) (h64 : n < 64) (hk : s.heap.get? kS = some (seqObj "list" #[] 0)) (ha : s.heap.get? a = some (seqObj "list" #[] e1)) (hne : kS ≠ a)
    (turn : ∀ i v, i < n → vs[i]? = some v → ∀ h tk, (∀ b x, b ≠ kS → s.heap.get? b = some x → h.get? b = some x) → ∀ Q' : Value → Shared → Prop, (∀ h' tk' t, (∀ b x, h.get? b = some x → h'.get? b = some x) → Q' (.int (ks i) t) { s with heap := h', toks := tk' }) →
      wpAny (model prog w) A (call f [v]) Q' (fun _ _ => False) { s with heap := h, toks := tk })
    (done : ∀ (h' : Heap) (tk : Nat) (out : Array Value) (c : Nat) (o : List Nat), (∀ b x, b ≠ a → b ≠ kS → s.heap.get? b = some x → h'.get? b = some x) → h'.get? a = some (seqObj "list" out c) → o.Perm (List.range n) → o.Pairwise (RtK ks) → IntsAre out.toList (o.map fun (i : Nat) => (i : Int)) → P (.done (.ret .none)) { s with heap := h', toks := tk }) :
    wpAny (model prog w) A (ksk_rest a f false vs.toArray e1 (.ref kS)) P E s := by
  have hvl : vs.length = n := by have := hv.length; rw [List.length_map, List.length_range] at this; exact this
  have z : sizeLine = 16777216 := rfl
  unfold ksk_rest
  refine wpAny_bind (wpAny_rule ?_)
  first
    | rw [List.forIn_toArray]
    | (rw [← Array.forIn_toList]; simp only [List.toList_toArray])
    | rw [← Array.forIn_toList]
  refine wpAny_bind (ksk_fold (fun i s' => ∃ h' tk kA e, s' = { s with heap := h', toks := tk } ∧ (∀ b x, b ≠ kS → s.heap.get? b = some x → h'.get? b = some x) ∧ h'.get? kS = some (seqObj "list" kA e) ∧ IntsAre kA.toList (((List.range n).map ks).take i)) vs 0 s
    ⟨s.heap, s.toks, #[], 0, rfl, fun _ _ _ e => e, hk, .nil⟩ ?step ?done)
  case step =>
    rintro j x s' hx ⟨h', tk, kA, e, rfl, up, hkA, hi⟩
    simp only [Nat.zero_add] at hi ⊢
    have hj : j < n := hvl ▸ (List.getElem?_eq_some_iff.mp hx).1
    have hz : kA.size = j := by
      have h1 := hi.length
      rw [Array.length_toList, List.length_take, List.length_map, List.length_range] at h1
      lia
    refine wpAny_bind (wpAny_attempt (wpAny_mono (turn j x hj hx h' tk up (fun v s'' => ∃ g tk' t, s'' = { s with heap := g, toks := tk' } ∧ v = .int (ks j) t ∧ ∀ b x, h'.get? b = some x → g.get? b = some x) fun g tk' t k => ⟨g, tk', t, rfl, rfl, k⟩) (fun v s'' he => ?_) fun _ _ hF => hF.elim))
    obtain ⟨g, tk2, t2, rfl, rfl, k⟩ := he
    try dsimp only
    have hkg := k _ _ hkA
    obtain ⟨c2, hc2⟩ : ∃ c2, (g.update kS (Obj.mapSeq (·.push (.int (ks j) t2)))).get? kS = some (seqObj "list" (kA.push (.int (ks j) t2)) c2) := ⟨_, get?_update_seq hkg (·.push (.int (ks j) t2))⟩
    have ek : ((List.range n).map ks).take (j + 1) = ((List.range n).map ks).take j ++ [ks j] := by
      rw [List.take_add_one, rg_at hj]; rfl
    have ea : (kA.push (Value.int (ks j) t2)).toList = kA.toList ++ [Value.int (ks j) t2] := Array.toList_push
    refine wpAny_bind (listUpdate_at hkg rfl ?_ (by rw [hz]; lia) (Nat.le_trans (Nat.le_of_eq (Array.size_push ..)) (by rw [hz]; lia)))
    exact wpAny_pure ⟨rfl, _, _, kA.push (.int (ks j) t2), c2, rfl, fun b x hb e => upd_other hb (k _ _ (up b x hb e)), hc2, by rw [ea, ek]; exact ksk_snoc hi⟩
  case done =>
    rintro s' ⟨h', tk, kA, e, rfl, up, hkA, hi⟩
    have hi' : IntsAre kA.toList ((List.range n).map ks) := by
      have e3 : ((List.range n).map ks).take (0 + vs.length) = (List.range n).map ks := List.take_of_length_le (by rw [List.length_map, List.length_range]; lia)
      rw [e3] at hi
      exact hi
    try dsimp only
    refine wpAny_bind (listItems_at hkA rfl ?_)
    exact sort_end ⟨hi', hv⟩ h2 h64 hkA (up a _ (Ne.symm hne) ha) hne fun h3 tk3 out c o k3 ho p q r => done h3 tk3 out c o (fun b x h1 h2 e => k3 b x h1 h2 (up b x h2 e)) ho p q r
theorem sort_key {a : Addr} {f : Value} {vs : List Value} {ks : Nat → Int} {n c : Nat} {P : PySem.Fin → Shared → Prop} (hv : IntsAre vs ((List.range n).map fun (i : Nat) => (i : Int))) (h2 : 2 ≤ n) (h64 : n < 64) (ho : s.heap.get? a = some (seqObj "list" vs.toArray c))
    (turn : ∀ i v, i < n → vs[i]? = some v → ∀ h tk, (∀ b x, b ≠ a → s.heap.get? b = some x → h.get? b = some x) → ∀ Q' : Value → Shared → Prop, (∀ h' tk' t, (∀ b x, h.get? b = some x → h'.get? b = some x) → Q' (.int (ks i) t) { s with heap := h', toks := tk' }) →
      wpAny (model prog w) A (call f [v]) Q' (fun _ _ => False) { s with heap := h, toks := tk })
    (done : ∀ (h' : Heap) (tk : Nat) (out : Array Value) (c : Nat) (o : List Nat), (∀ b x, b ≠ a → s.heap.get? b = some x → h'.get? b = some x) → h'.get? a = some (seqObj "list" out c) → o.Perm (List.range n) → o.Pairwise (RtK ks) → IntsAre out.toList (o.map fun (i : Nat) => (i : Int)) → P (.done (.ret .none)) { s with heap := h', toks := tk }) :
    wpAny (model prog w) A (ksk_tree a f false) P E s := by
  have hvl : vs.length = n := by have := hv.length; rw [List.length_map, List.length_range] at this; exact this
  have z : sizeLine = 16777216 := rfl
  have ha : a < s.heap.objs.size := Heap.lt_size ho
  obtain ⟨e1, ho1⟩ : ∃ e1, (s.heap.update a (Obj.mapSeq fun _ => (#[] : Array Value))).get? a = some (seqObj "list" #[] e1) := ⟨_, get?_update_seq ho fun _ => #[]⟩
  have hsz : ((s.heap.update a (Obj.mapSeq fun _ => (#[] : Array Value))).push (seqObj "tuple" vs.toArray 0)).objs.size = s.heap.objs.size + 1 := by rw [size_push', Heap.size_update]
  have up : ∀ b x, b ≠ a → s.heap.get? b = some x → (((s.heap.update a (Obj.mapSeq fun _ => (#[] : Array Value))).push (seqObj "tuple" vs.toArray 0)).push (seqObj "list" #[] 0)).get? b = some x :=
    fun b x hb e => Heap.get?_push_of_some _ (Heap.get?_push_of_some _ (upd_other hb e))
  have small : ∀ b x, s.heap.get? b = some x → b ≠ ((s.heap.update a (Obj.mapSeq fun _ => (#[] : Array Value))).push (seqObj "tuple" vs.toArray 0)).objs.size := fun b x e => by
    rw [hsz]; exact Nat.ne_of_lt (Nat.lt_succ_of_lt (Heap.lt_size e))
  unfold ksk_tree
  refine wpAny_bind (listItems_at ho rfl ?_)
  refine wpAny_bind (listUpdate_at ho rfl ?_ (by rw [List.size_toArray]; lia) (Nat.zero_le _))
  refine wpAny_bind (seqEpoch_at ho1 rfl ?_)
  refine wpAny_bind (wpAny_newTuple ?_ (by show vs.length ≤ _; lia))
  refine wpAny_bind (wpAny_newList ?_ (Nat.zero_le _))
  refine wpAny_holding ?_
  refine sort_rest (s := { s with heap := ((s.heap.update a (Obj.mapSeq fun _ => (#[] : Array Value))).push (seqObj "tuple" vs.toArray 0)).push (seqObj "list" #[] 0) }) (kS := ((s.heap.update a (Obj.mapSeq fun _ => (#[] : Array Value))).push (seqObj "tuple" vs.toArray 0)).objs.size)
    (ks := ks) hv h2 h64 (Heap.get?_push_size _ rfl) (Heap.get?_push_of_some _ (Heap.get?_push_of_some _ ho1)) (by rw [hsz]; exact Nat.ne_of_gt (Nat.lt_succ_of_lt ha)) (fun i v hi hvi h tk k Q' hQ' => ?_) fun h' tk out c o k ho' p q r => ?_
  · exact turn i v hi hvi h tk (fun b x hb e => k b x (small b x e) (up b x hb e)) Q' hQ'
  · exact done h' tk out c o (fun b x hb e => k b x hb (small b x e) (up b x hb e)) ho' p q r
end
end Mine
end
section
set_option maxRecDepth 100000
namespace Mine

structure LamOk (params : Arguments) (scope : Scope) (x y : Str) : Prop where
  kind : scope.kind = .function
  co : scope.isCoroutine = false
  gen : scope.isGenerator = false
  loc : scope.names.lookup x = some .local
  fre : scope.names.lookup y = some .free
  only : ∀ z, (z, NameKind.free) ∈ scope.names → z = y
  nocell : ∀ z ∈ scope.names, z.2 ≠ .cell
  px : (x == ("__debug__" : Str)) = false
  py : (y == ("__debug__" : Str)) = false ∧ (y == ("__classdict__" : Str)) = false
  bind : ∀ (name qual : Str) (body : Expr) (cl : List (Str × Addr)) (pm cdv ct v : Value), bindArgs (kla_fn name qual params body scope cl pm cdv ct) ⟨[v], []⟩ = pure [(x, v)]
section
variable {prog : Program} {w : World} {A : Around} {E : Value → Shared → Prop} {s : Shared}
theorem call_lam {f c c' : Addr} {name qual x y : Str} {params : Arguments} {scope : Scope} {cl : List (Str × Addr)} {pm ctv vr : Value} {p1 p2 p3 : Pos} {xs : List PV} {i : Nat} {k : Int} {t : Tok} {Q : Value → Shared → Prop} (Z : LamOk params scope x y) (hA : AOk 1 A)
    (hf : s.heap.get? f = some (kla_obj name qual params (.Subscript (.Name y p1) (.Name x p2) p3) scope cl pm c' ctv)) (hcd : s.heap.CodeRec (.ref c') qual) (hlim : s.heap.NoLimit) (hcl : cl.lookup y = some c) (hc : s.heap.IsCell c (some vr))
    (hv : VR (Fz (fun _ => none) s.heap) (.list xs) vr) (hx : xs[i]? = some (.int k)) (hQ : ∀ h' tk t', (∀ b o, s.heap.get? b = some o → h'.get? b = some o) → Q (.int k t') { s with heap := h', toks := tk }) :
    wpAny (model prog w) A (call (.ref f) [.int i t]) Q E s := by
  refine wpAny_call (kla_callFunE (by have := hA.dep; lia) hf rfl Z.co Z.gen rfl hcd ?_)
  rw [Z.bind]
  refine wpAny_pure (wpAny_newFunctionEnv Z.nocell (fun z hz => ?_) (fun h₁ hns hsb => ?_) Z.kind)
  · rw [List.mem_singleton.mp hz]; exact Z.loc
  have k0 : ∀ b o, s.heap.get? b = some o → (s.heap.push { cls := .type "frame", data := .dict #[] }).get? b = some o := fun b o e => Heap.get?_push_of_some _ e
  have k1 : ∀ b o, s.heap.get? b = some o → h₁.get? b = some o := fun b o e => hsb.extBut b o (Nat.ne_of_lt (Heap.lt_size e)) (k0 b o e)
  refine ⟨hlim.keeps k1, ?_⟩
  show codeAny _ _ (.expr (.Subscript (.Name y p1) (.Name x p2) p3) (envX qual scope s.heap.objs.size f (.ref c') cl)) _ _
  refine kla_codeExpr ?_
  refine Subscript_ ?_
  refine wpAny_Name (wpAny_loadName_free Z.kind Z.fre hcl (hc.keeps k1) ?_ Z.py.2) Z.py.1
  refine wpAny_Name (wpAny_loadName_local Z.kind Z.loc hns (v := .int i t) ?_ ?_) Z.px
  · show List.lookup x [(x, _)] = _
    rw [List.lookup_cons, beq_self_eq_true]
  refine getItem_ok (ow := fun _ => none) (o := .list xs) (i := .int i) (K := fun r => r = .int k) ?_ (VR.mono (fun b o e => ⟨rfl, k1 b o e.2⟩) _ _ hv) ?_ ?_
  · rw [itemAt_list]
    exact ⟨Int.natCast_nonneg _, _, by rw [Int.toNat_natCast]; exact hx, rfl⟩
  · unfold VR; exact ⟨t, rfl⟩
  rintro v pv h' tk rfl keep vr2
  unfold VR at vr2
  obtain ⟨t', rfl⟩ := vr2
  exact hQ h' tk t' fun b o e => keep b o (k1 b o e)
end
end Mine
end
section
set_option maxRecDepth 100000
set_option maxHeartbeats 4000000
namespace Mine

section
variable {prog : Program} {w : World} {A : Around} {E : Value → Shared → Prop} {s : Shared}
theorem sorted_key {rg f : Addr} {n : Nat} {t u v : Tok} {ks : Nat → Int} {Q : Value → Shared → Prop} (hh : A.handled = none) (hr : IsRange s.heap rg 0 n 1 t u v) (hsmall : Builtin.Range.small 0 n 1 = true) (hn : Builtin.Range.rangeSize 0 n 1 = (n : Int)) (h2 : 2 ≤ n) (h64 : n < 64)
    (turn : ∀ i t, i < n → ∀ h tk, (∀ b x, s.heap.get? b = some x → h.get? b = some x) → ∀ Q' : Value → Shared → Prop, (∀ h' tk' t', (∀ b x, h.get? b = some x → h'.get? b = some x) → Q' (.int (ks i) t') { s with heap := h', toks := tk' }) →
      wpAny (model prog w) A.in1.in1 (call (.ref f) [.int (i : Nat) t]) Q' (fun _ _ => False) { s with heap := h, toks := tk })
    (done : ∀ (h' : Heap) (tk : Nat) (D : Addr) (out : Array Value) (c : Nat) (o : List Nat), (∀ b x, s.heap.get? b = some x → h'.get? b = some x) → h'.get? D = some (seqObj "list" out c) → s.heap.get? D = none → o.Perm (List.range n) → o.Pairwise (RtK ks) →
      IntsAre out.toList (o.map fun (i : Nat) => (i : Int)) → Q (.ref D) { s with heap := h', toks := tk }) :
    wpAny (model prog w) A (call (.builtin "sorted") [.ref rg] [(Str.ofString "key", .ref f)]) Q E s := by
  have z : sizeLine = 16777216 := rfl
  refine call_function_entry_kw kind_sorted plain_sorted entry_sorted (ksk_s1 _ _) ?_
  unfold Builtin.«sorted»
  refine wpAny_bind (m := checkCount "sorted" 1 1 _) (wpAny_pure ?_)
  refine wpAny_bind (collect_rng hh hr hsmall hn (by lia) fun h1 tk1 vs k1 hv => ?_)
  have hvl : vs.length = n := by have := hv.length; rw [List.length_map, List.length_range] at this; exact this
  refine wpAny_bind (wpAny_newList ?_ (by lia))
  have hoL : (h1.push (seqObj "list" vs.toArray 0)).get? h1.objs.size = some (seqObj "list" vs.toArray 0) := Heap.get?_push_size _ rfl
  have old : ∀ b x, s.heap.get? b = some x → b ≠ h1.objs.size := fun b x e => Nat.ne_of_lt (Heap.lt_size (k1 b x e))
  refine wpAny_bind (wpAny_holding (wpAny_call_entry_kw slot_list_sort ⟨_, hoL, rfl⟩ entry_list_sort ?body (ksk_l1 _ _)))
  case body =>
    show wpAny (model prog w) A.in1.in1 (Builtin.«list.sort» ⟨[.ref h1.objs.size], [(Str.ofString "key", .ref f)]⟩) _ _ _
    rw [ksk_t1]
    refine sort_key (s := { s with heap := h1.push (seqObj "list" vs.toArray 0), toks := tk1 }) (ks := ks) hv h2 h64 hoL (fun i v hi hvi h tk k Q' hQ' => ?_) fun h' tk out c o k ho p q r => ⟨_, rfl, wpAny_pure ⟨_, rfl, ?_⟩⟩
    · obtain ⟨t, e⟩ := hv.get i (i : Int) (rg_at hi)
      rw [e] at hvi
      cases hvi
      exact turn i t hi h tk (fun b x e => k b x (old b x e) (Heap.get?_push_of_some _ (k1 b x e))) Q' hQ'
    · refine done h' tk _ out c o (fun b x e => k b x (old b x e) (Heap.get?_push_of_some _ (k1 b x e))) ho ?_ p q r
      cases e : s.heap.get? h1.objs.size with
      | none => rfl
      | some x => exact absurd rfl (old _ _ e)
end
end Mine
end
section
set_option maxRecDepth 100000
namespace Mine

/-! the last line: order == sorted(range(..), key=lambda k: rights[k]) -/
noncomputable def onLambda (kf : Arguments → Expr → Scope → Pos → Bool) : Expr → Bool
  | .Lambda a b s p => kf a b s p
  | _ => false
theorem onLambda_ok {kf : Arguments → Expr → Scope → Pos → Bool} {ex : Expr} (h : onLambda kf ex = true) : ∃ a b s p, ex = .Lambda a b s p ∧ kf a b s p = true := by
  cases ex with
  | Lambda => exact ⟨_, _, _, _, rfl, h⟩
  | _ => exact (Bool.false_ne_true h).elim
noncomputable def nilO {α : Type} (o : Option α) : Bool := match o with
  | none => true
  | some _ => false
theorem nilO_ok {α : Type} {o : Option α} (h : nilO o = true) : o = none := by
  cases o with
  | none => rfl
  | some _ => exact (Bool.false_ne_true h).elim
noncomputable def onSm {α : Type} (k : α → Bool) (o : Option α) : Bool := match o with
  | some x => k x
  | none => false
theorem onSm_ok {α : Type} {k : α → Bool} {o : Option α} (h : onSm k o = true) : ∃ x, o = some x ∧ k x = true := by
  cases o with
  | some x => exact ⟨x, rfl, h⟩
  | none => exact (Bool.false_ne_true h).elim
noncomputable def argOne (x : Str) (a : Arguments) : Bool := nilP a.posonlyargs && (hdP (fun g => decide (g.arg = x) && nilO g.annotation) nilP a.args && (nilO a.vararg && (nilP a.kwonlyargs && (nilP a.kw_defaults && (nilO a.kwarg && nilP a.defaults)))))
theorem argOne_ok {x : Str} {a : Arguments} (h : argOne x a = true) : ∃ p, a = ⟨[], [⟨x, none, p⟩], none, [], [], none, []⟩ := by
  obtain ⟨a1, a2, a3, a4, a5, a6, a7⟩ := a
  obtain rfl := nilP_ok (and_l h)
  have h2 := and_r h
  obtain ⟨⟨g1, g2, g3⟩, rfl, hg⟩ := one_ok (and_l h2)
  obtain rfl : g1 = x := of_decide_eq_true (and_l hg)
  obtain rfl := nilO_ok (and_r hg)
  have h3 := and_r h2
  obtain rfl := nilO_ok (and_l h3)
  have h4 := and_r h3
  obtain rfl := nilP_ok (and_l h4)
  have h5 := and_r h4
  obtain rfl := nilP_ok (and_l h5)
  have h6 := and_r h5
  obtain rfl := nilO_ok (and_l h6)
  obtain rfl := nilP_ok (and_r h6)
  exact ⟨g3, rfl⟩
noncomputable def scLam (x y : Str) (sc : Scope) : Bool := decide (sc.kind = .function) && (decide (sc.names = [(x, .local), (y, .free)]) && (!sc.isCoroutine && !sc.isGenerator))
theorem lam_of {x y : Str} {a : Arguments} {sc : Scope} (ha : argOne x a = true) (hs : scLam x y sc = true) (hxy : (y == x) = false) (px : (x == ("__debug__" : Str)) = false) (py : (y == ("__debug__" : Str)) = false ∧ (y == ("__classdict__" : Str)) = false)
    (hb : ∀ (p : Pos) (sc : Scope) (name qual : Str) (body : Expr) (cl : List (Str × Addr)) (pm cdv ct v : Value), bindArgs (kla_fn name qual ⟨[], [⟨x, none, p⟩], none, [], [], none, []⟩ body sc cl pm cdv ct) ⟨[v], []⟩ = pure [(x, v)]) : LamOk a sc x y := by
  obtain ⟨p, rfl⟩ := argOne_ok ha
  have h2 := and_r hs
  have hn : sc.names = [(x, .local), (y, .free)] := of_decide_eq_true (and_l h2)
  have h3 := and_r h2
  refine ⟨of_decide_eq_true (and_l hs), Bool.not_eq_true' _ |>.mp (and_l h3), Bool.not_eq_true' _ |>.mp (and_r h3), ?_, ?_, fun z hz => ?_, fun z hz => ?_, px, py, hb p sc⟩
  · rw [hn, List.lookup_cons, beq_self_eq_true]
  · rw [hn, List.lookup_cons, hxy, List.lookup_cons, beq_self_eq_true]
  · rw [hn] at hz
    rcases List.mem_cons.mp hz with e | hz
    · cases e
    · rw [List.mem_singleton] at hz
      cases hz; rfl
  · rw [hn] at hz
    rcases List.mem_cons.mp hz with rfl | hz
    · exact nofun
    · rw [List.mem_singleton.mp hz]; exact nofun
noncomputable def eRng : E := .call (.glob 3) (.cons (.call (.glob 0) (.cons (.var 2) .nil)) .nil)
noncomputable def chkKw (x y : Str) (kw : Keyword) : Bool := onSm (fun nm => nm == Str.ofString "key") kw.arg && onLambda (fun a b sc _ => argOne x a && (scLam x y sc && onSubscript (fun v k _ => onName (fun z _ => z == y) v && onName (fun z _ => z == x) k) b)) kw.value
noncomputable def chkSrt (GT : List (Str × PV)) (Γ : Cx) (gn : List Str) (x y : Str) : Expr → Bool := onCall fun f as kws _ => chkE GT Γ gn (.glob 16) f && (onName (fun _ _ => true) f && (chkEs GT Γ gn (.cons eRng .nil) as && hdP (chkKw x y) nilP kws))
noncomputable def chkLast (GT : List (Str × PV)) (Γ : Cx) (gn : List Str) (x y : Str) : Stmt → Bool :=
  stIsReturn fun o _ => onSm (onCompare fun l os rs _ => chkE GT Γ gn (.var 3) l && (decide (os = [.Eq]) && hdP (chkSrt GT Γ gn x y) nilP rs)) o
inductive IsKw (x y : Str) : Keyword → Prop
  | mk (a : Arguments) (sc : Scope) (p1 p2 p3 p4 p5 : Pos) (h1 : argOne x a = true) (h2 : scLam x y sc = true) : IsKw x y ⟨some (Str.ofString "key"), .Lambda a (.Subscript (.Name y p1) (.Name x p2) p3) sc p4, p5⟩
theorem chkKw_ok {x y : Str} {kw : Keyword} (h : chkKw x y kw = true) : IsKw x y kw := by
  obtain ⟨ka, kv, kp⟩ := kw
  obtain ⟨nm, e, h7⟩ := onSm_ok (and_l h)
  obtain rfl : nm = Str.ofString "key" := beq_iff_eq.mp h7
  obtain rfl : ka = _ := e
  obtain ⟨a, b, sc, p4, e, h8⟩ := onLambda_ok (and_r h)
  obtain rfl : kv = _ := e
  obtain ⟨v, k, p3, rfl, h9⟩ := onSubscript_ok (and_r (and_r h8))
  obtain ⟨y', p1, rfl, e1⟩ := onName_ok (and_l h9)
  obtain ⟨x', p2, rfl, e2⟩ := onName_ok (and_r h9)
  obtain rfl := beq_iff_eq.mp e1
  obtain rfl := beq_iff_eq.mp e2
  exact .mk a sc p1 p2 p3 p4 kp (and_l h8) (and_l (and_r h8))
inductive IsSrt (GT : List (Str × PV)) (Γ : Cx) (gn : List Str) (x y : Str) : Expr → Prop
  | mk (z : Str) (pz p6 : Pos) (as : List Expr) (kw : Keyword) (h1 : chkE GT Γ gn (.glob 16) (.Name z pz) = true) (h2 : chkEs GT Γ gn (.cons eRng .nil) as = true) (h3 : IsKw x y kw) : IsSrt GT Γ gn x y (.Call (.Name z pz) as [kw] p6)
theorem chkSrt_ok {GT : List (Str × PV)} {Γ : Cx} {gn : List Str} {x y : Str} {e : Expr} (h : chkSrt GT Γ gn x y e = true) : IsSrt GT Γ gn x y e := by
  obtain ⟨f, as, kws, p6, rfl, h5⟩ := onCall_ok h
  obtain ⟨z, pz, rfl, _⟩ := onName_ok (and_l (and_r h5))
  obtain ⟨kw, rfl, h6⟩ := one_ok (and_r (and_r (and_r h5)))
  exact .mk z pz p6 as kw (and_l h5) (and_l (and_r (and_r h5))) (chkKw_ok h6)
inductive IsLast (GT : List (Str × PV)) (Γ : Cx) (gn : List Str) (x y : Str) : Stmt → Prop
  | mk (l r : Expr) (p7 p8 : Pos) (h1 : chkE GT Γ gn (.var 3) l = true) (h2 : IsSrt GT Γ gn x y r) : IsLast GT Γ gn x y (.Return (some (.Compare l [.Eq] [r] p7)) p8)
theorem chkLast_ok {GT : List (Str × PV)} {Γ : Cx} {gn : List Str} {x y : Str} {st : Stmt} (h : chkLast GT Γ gn x y st = true) : IsLast GT Γ gn x y st := by
  obtain ⟨o, p8, rfl, h1⟩ := stIsReturn_ok h
  obtain ⟨e, rfl, h2⟩ := onSm_ok h1
  obtain ⟨l, os, rs, p7, rfl, h3⟩ := onCompare_ok h2
  obtain rfl : os = [.Eq] := of_decide_eq_true (and_l (and_r h3))
  obtain ⟨r, rfl, h4⟩ := one_ok (and_r (and_r h3))
  exact .mk l r p7 p8 (and_l h3) (chkSrt_ok h4)
end Mine
end
section
set_option maxRecDepth 100000
set_option maxHeartbeats 4000000
namespace Mine

theorem bind_k (p : Pos) (sc : Scope) (name qual : Str) (body : Expr) (cl : List (Str × Addr)) (pm cdv ct v : Value) : bindArgs (kla_fn name qual ⟨[], [⟨"k", none, p⟩], none, [], [], none, []⟩ body sc cl pm cdv ct) ⟨[v], []⟩ = pure [(("k" : Str), v)] := by kernel_rfl
theorem dats_nl : ∀ o : List Nat, dats (nl o) = some (o.map fun (k : Nat) => PyData.int k)
  | [] => rfl
  | x :: r => by
    show dats (.int (x : Int) :: nl r) = _
    rw [dats_cons, dat_int, dats_nl r]; rfl
theorem eqv_ints : ∀ o : List Nat, PyData.eqvAll (o.map fun (k : Nat) => PyData.int k) (o.map fun (k : Nat) => PyData.int k) = true
  | [] => by simp [PyData.eqvAll]
  | x :: r => by
    rw [List.map_cons]
    unfold PyData.eqvAll
    rw [eqv_ints r]
    simp [PyData.eqv]
theorem depth_ints : ∀ o : List Nat, PyData.depthAll (o.map fun (k : Nat) => PyData.int k) = 0
  | [] => by simp [PyData.depthAll]
  | x :: r => by
    rw [List.map_cons]
    unfold PyData.depthAll
    rw [depth_ints r]
    simp [PyData.depth]
theorem cmp_eq_nl {o : List Nat} {K : Bool → Prop} (h : K true) : cmpop .Eq (.list (nl o)) (.list (nl o)) K := by
  refine ⟨.list (o.map fun (k : Nat) => .int k), .list (o.map fun (k : Nat) => .int k), by rw [dat_list, dats_nl]; rfl, by rw [dat_list, dats_nl]; rfl, ?_, ?_⟩
  · refine Nat.le_trans (Nat.min_le_left _ _) ?_
    unfold PyData.depth
    rw [depth_ints]
    decide
  · have e : PyData.eqv (.list (o.map fun (k : Nat) => PyData.int k)) (.list (o.map fun (k : Nat) => PyData.int k)) = true := by
      unfold PyData.eqv
      exact eqv_ints o
    rw [e]; exact h
theorem vrs_ints {P : Addr → Obj → Prop} : ∀ {vs : List Value} {ns : List Int}, IntsAre vs ns → VRs P (ns.map PV.int) vs
  | _, _, .nil => VRs.nil'
  | _, _, .cons n t h => VRs.cons' (by unfold VR; exact ⟨t, rfl⟩) (vrs_ints h)
theorem rng_size (n : Nat) : Builtin.Range.rangeSize 0 n 1 = (n : Int) := by
  unfold Builtin.Range.rangeSize
  simp only [show (1 : Int) > 0 from by decide, if_true]
  split
  · simp
  · lia
theorem rng_small {n : Nat} (h : n ≤ 1000) : Builtin.Range.small 0 n 1 = true := by
  unfold Builtin.Range.small
  rw [rng_size]
  simp [Builtin.Range.rangeFitsLong]
  omega
structure CodeOk (H : Heap) (env : Env) (c P : Addr) : Prop where
  code : env.code = .ref c
  hd : CodeHd H c P
  no : H.get? P = none
  bm : ∃ mg bm ob, H.Ns mainGlobals mg ∧ mg "__builtins__" = some (.ref bm) ∧ bm ≠ builtinsNs ∧ H.get? bm = some ob ∧ ob.cls = .type "module" ∧ ob.dict = some builtinsNs ∧ ob.data = .plain
section
variable {prog : Program} {w : World} {H : Heap} {GT : List (Str × PV)} {n : Nat} {A : Around} {s : Shared} {Γ : Cx} {gn : List Str} {env : Env} {fo : Addr → Prop} {base : Heap} {φ : Frame} {ow : Addr → Option Nat}
theorem make_lam {x y : Str} {a : Arguments} {body : Expr} {sc : Scope} {pos : Pos} {c P cell : Addr} {Q X : Value → Shared → Prop} (Z : LamOk a sc x y) (Y : CodeOk H env c P) (EO : EnvOk Γ gn env) (top : ∀ b o, H.get? b = some o → s.heap.get? b = some o) (hP : s.heap.get? P = some (tabObj #[])) (hd : defaultsOf a env = ([], []))
    (hc : env.cells.lookup y = some cell) (hfre : (y, NameKind.free) ∈ sc.names)
    (hQ : ∀ f cl qual pm c' ctv h' tk ps, (∀ b o, b ≠ P → s.heap.get? b = some o → h'.get? b = some o) → h'.get? P = some (tabObj ps) → cl.lookup y = some cell → h'.CodeRec (.ref c') qual → h'.get? f = some (kla_obj "<lambda>" qual a body sc cl pm c' ctv) → Q (.ref f) { s with heap := h', toks := tk }) :
    wpAny (model prog w) A (eval (.Lambda a body sc pos) env) Q X s := by
  obtain ⟨cl, e1, e2⟩ := closureFor_ok (scope := sc) (env := env) fun z hz hk => by
    have : z.1 = y := Z.only z.1 (by rw [← hk]; exact hz)
    rw [this, hc]; rfl
  obtain ⟨mg, bm, ob, g0, b1, b2, b3, b4, b5, b6⟩ := Y.bm
  have hgP : mainGlobals ≠ P := fun q => by
    obtain ⟨o, es, ep, e, hd, _⟩ := g0
    rw [q, Y.no] at e; cases e
  have hbP : bm ≠ P := fun q => by rw [q, Y.no] at b3; cases b3
  have hbG : bm ≠ mainGlobals := fun q => by
    obtain ⟨o, es, ep, e, hd, _⟩ := g0
    rw [q, e] at b3; cases b3; rw [hd] at b6; cases b6
  refine kla_eval hd (kla_makeFunction (mg := mg) (ps := #[]) e1 EO.gl (g0.keeps top) Y.code (Y.hd.keeps top) hP trivial rfl hgP ⟨bm, ob, b1, b2, hbG, hbP, top _ _ b3, b4, b5, b6⟩ fun c' ctv h' tk hx hge hlt hrec htb => ?_)
  have old : ∀ b o, b ≠ P → s.heap.get? b = some o → (h'.push (kla_obj "<lambda>" (env.qual ++ "<lambda>") a body sc cl ((mg "__name__").getD .none) c' ctv)).get? b = some o := fun b o hb e => Heap.get?_push_of_some _ (hx b o hb e)
  exact hQ _ cl _ _ c' ctv _ tk _ old (Heap.get?_push_of_some _ htb) ((e2 y hfre).trans hc) (hrec.push _) (Heap.get?_push_size _ rfl)
end
end Mine
end
section
set_option maxRecDepth 100000
set_option maxHeartbeats 4000000
namespace Mine

section
variable {prog : Program} {w : World} {H : Heap} {a : Ad} {ex : List (Str × PV)} {n : Nat} {A : Around} {s : Shared} {gn : List Str} {env : Env} {fo : Addr → Prop} {base : Heap} {ow : Addr → Option Nat}
theorem rng_ev {SP : Value → List PV → PV → Prop} {sc : List Int} {rs : List Nat} {s3 s4 s5 s6 s7 s8 : Slot} {K : List PV → Frame → Prop} (hz : rs.length ≤ 6) (hK : K [.rng rs.length] (f2 sc rs s3 s4 s5 s6 s7 s8)) : evEs (gt a ex) SP (.cons eRng .nil) (f2 sc rs s3 s4 s5 s6 s7 s8) K := by
  have g0 : (gt a ex)[0]? = some (("len" : Str), PV.raw (.builtin "len")) := rfl
  have g3 : (gt a ex)[3]? = some (("range" : Str), PV.raw (.type "range")) := rfl
  unfold eRng
  simp only [↓evEs_cons, ↓evEs_nil, ↓evE_call, ↓evE_glob, ↓evE_var, g0, g3, List.getElem?_cons_zero, List.getElem?_cons_succ]
  rw [app_len]
  have e : (sgL rs).length = rs.length := by simp [sgL]
  rw [e, app_type, if_neg (by decide), if_pos rfl]
  exact ⟨by lia, by lia, hK⟩
theorem last_ok {st : Stmt} {rs o : List Nat} {sc : List Int} {c P : Addr} {s4 s5 s6 s7 s8 : Slot} {Q : Flow → Shared → Prop} {X : Value → Shared → Prop} (T : Tops prog w H (gt a ex) n) (hlim : H.NoLimit) (hn2 : 2 ≤ n) (hc : chkLast (gt a ex) ΓL2 gn "k" "rights" st = true)
    (EO : EnvOk ΓL2 gn env) (AO : AOk n A) (F : FR H ΓL2 env fo base (f2 sc rs (.val (.list (nl o))) s4 s5 s6 s7 s8) ow s.heap) (Y : CodeOk H env c P) (hP2 : ow P = some 2) (hP : s.heap.get? P = some (tabObj #[]))
    (hz : rs.length = 5 ∨ rs.length = 6) (ho : o.Perm (List.range rs.length)) (hw : o.Pairwise (Rt rs))
    (hQ : ∀ h' tk ps, (∀ b x, b ≠ P → base.get? b = some x → h'.get? b = some x) → h'.get? P = some (tabObj ps) → Q (.ret (.bool true)) { s with heap := h', toks := tk }) :
    wpAny (model prog w) A (exec st env) Q X s := by
  have g16 : (gt a ex)[16]? = some (("sorted" : Str), PV.raw (.builtin "sorted")) := rfl
  obtain ⟨l, r0, p7, p8, c1, ⟨z, pz, p6, as, kw, c2, c3, ⟨a', sc', p1, p2, p3, p4, p5, c4, c5⟩⟩⟩ := chkLast_ok hc
  have Z : LamOk a' sc' "k" "rights" := lam_of c4 c5 (by decide) (by decide) ⟨by decide, by decide⟩ bind_k
  obtain ⟨q1, rfl⟩ := argOne_ok c4
  have hfre : ((("rights" : Str)), NameKind.free) ∈ sc'.names := mem_lookup Z.fre
  refine wpAny_Return_some (wpAny_Compare1 ((sndE T (.var 3)).1 l _ (fun pv φ' => pv = .list (nl o) ∧ φ' = f2 sc rs (.val (.list (nl o))) s4 s5 s6 s7 s8) ΓL2 gn env fo base ow A s _ _ c1 ?_ EO AO F ?_) rfl)
  · rw [evE_var]; exact ⟨rfl, rfl⟩
  rintro v1 pv1 φ1 ow1 h1 tk1 ⟨rfl, rfl⟩ F1 st1 vr1
  show wpAny _ _ (do callWith p6 (← eval (.Name z pz) env) [] (backTo p6 (starEach as env)) (backToKw p6 (keywordEach [⟨some (Str.ofString "key"), .Lambda _ (.Subscript (.Name "rights" p1) (.Name "k" p2) p3) sc' p4, p5⟩] env))) _ _ _
  refine wpAny_bind ((sndE T (.glob 16)).1 _ _ (fun pv φ' => pv = .raw (.builtin "sorted") ∧ φ' = f2 sc rs (.val (.list (nl o))) s4 s5 s6 s7 s8) ΓL2 gn env fo base ow1 A _ _ _ c2 ?_ EO AO F1 ?_)
  · rw [evE_glob, g16]; exact ⟨rfl, rfl⟩
  rintro v2 pv2 φ2 ow2 h2 tk2 ⟨rfl, rfl⟩ F2 st2 vr2
  unfold RV VR at vr2
  subst vr2
  obtain ⟨ef, ea, ek, ep, rfl⟩ : ∃ ef ea ek ep, as = [.Call ef ea ek ep] := by
    obtain ⟨x, xs, rfl, h1, h2⟩ := hdP_ok (l := as) c3
    obtain ⟨ef, ea, ek, ep, rfl, _⟩ := onCall_ok h1
    exact ⟨ef, ea, ek, ep, by rw [nilP_ok h2]⟩
  refine callWith_kw (e := .Call ef ea ek ep) (rest := []) ?_
  have hs6 : rs.length ≤ 6 := by lia
  refine (sndEs T (.cons eRng .nil)).1 [.Call ef ea ek ep] p6 _ (fun vs φ' => vs = [.rng rs.length] ∧ φ' = f2 sc rs (.val (.list (nl o))) s4 s5 s6 s7 s8) ΓL2 gn env fo base ow2 A _ _ _ c3 (rng_ev hs6 ⟨rfl, rfl⟩) EO AO F2 ?_
  rintro vs3 pvs φ3 ow3 h3 tk3 ⟨rfl, rfl⟩ F3 st3 vr3
  unfold VRs at vr3
  obtain ⟨v3, r3, rfl, vr3, vr3'⟩ := vr3
  unfold VRs at vr3'
  subst vr3'
  unfold VR at vr3
  obtain ⟨rg, t, u, v, rfl, fz, _, _⟩ := vr3
  have es := (st1.trans st2).trans st3
  have hP3 : h3.get? P = some (tabObj #[]) := es.keep _ _ hP
  have o3 : ow3 P = some 2 := es.low P 2 hP2 (Nat.le_refl _)
  have o1 : ow1 P = some 2 := st1.low P 2 hP2 (Nat.le_refl _)
  obtain ⟨cell, cv, e1, e2, e3, e4⟩ := F3.cel 1 "rights" rfl
  obtain ⟨cv', rfl, e5⟩ : ∃ v', cv = some v' ∧ VR (Fz ow3 h3) (.list (rtL rs)) v' := e4
  have ne : ∀ b, ow3 b ≠ some 2 → b ≠ P := fun b h e => h (e ▸ o3)
  refine kws_cons (make_lam Z Y EO F3.topIn hP3 rfl e1 hfre fun f cl qual pm c' ctv h4 tk4 ps k4 hP4 hcl hcd hf => kws_nil ?_)
  show wpAny (model prog w) A (call (.builtin "sorted") [.ref rg] [(Str.ofString "key", .ref f)]) _ _ _
  have top4 : ∀ b x, H.get? b = some x → h4.get? b = some x := fun b x e => k4 b x (fun q => by rw [q, Y.no] at e; cases e) (F3.topIn b x e)
  have cell4 : h4.IsCell cell (some cv') := by
    obtain ⟨ob, g1, g2⟩ := e2
    exact ⟨ob, k4 _ _ (ne cell (by rw [e3]; exact nofun)) g1, g2⟩
  have vr4 : VR (Fz (fun _ => none) h4) (.list (rtL rs)) cv' := VR.mono (fun b x f => ⟨rfl, k4 b x (ne b (by rw [f.1]; exact nofun)) f.2⟩) _ _ e5
  refine sorted_key (ks := fun k => ((rt rs k : Nat) : Int)) (n := rs.length) AO.hh (k4 _ _ (ne rg (by rw [fz.1]; exact nofun)) fz.2) (rng_small (by lia)) (rng_size _) (by lia) (by lia) (fun i t hi h tk k Q' hQ' => ?_) fun h5 tk5 D out c5 o' k5 hD _ p q r => ?_
  · refine call_lam (s := { s with heap := h, toks := tk }) (i := i) (k := ((rt rs i : Nat) : Int)) (xs := rtL rs) (c := cell) Z ⟨AO.hh, by have := AO.dep; show A.depth + 1 < _; lia, by have := AO.un; show A.units + 1 + 1 + 64 * (1 + 1) < _; lia⟩ (k _ _ hf) (hcd.keeps k) (hlim.keeps fun b x e => k b x (top4 b x e)) hcl ?_ (VR.mono (fun b x f => ⟨rfl, k b x f.2⟩) _ _ vr4) ?_ fun h' tk t' kk => hQ' h' tk t' kk
    · obtain ⟨ob, g1, g2⟩ := cell4
      exact ⟨ob, k _ _ g1, g2⟩
    · have := rt_at hi
      rwa [Int.toNat_natCast] at this
  · have hq : o'.Pairwise (Rt rs) := q.imp fun {x y} h => by
      rcases h with h | ⟨h, h'⟩
      · exact .inl (Int.ofNat_lt.mp h)
      · exact .inr ⟨Int.ofNat_inj.mp h, h'⟩
    obtain rfl : o' = o := strict_uniq (fun x y => Rt.anti x y) (p.trans ho.symm) hq hw
    have ho' : o'.length ≤ 6 := by
      have := p.length_eq
      rw [List.length_range] at this
      lia
    have hi := vrs_ints (P := Fz (fun _ => none) h5) r
    rw [← nl_map] at hi
    refine cmpop_ok (ow := fun _ => none) (a := .list (nl o')) (b := .list (nl o')) (K := fun b => b = true) (cmp_eq_nl rfl) (VR.mono (fun b x f => ⟨rfl, k5 b x (k4 b x (fun e => by have g := f.1; rw [e, o1] at g; cases g) ((st2.trans st3).keep b x f.2))⟩) _ _ vr1) ?_ (by have := AO.un; lia) fun cb hcb => ?_
    · unfold VR
      exact ⟨D, out.toList, c5, rfl, ⟨rfl, hD⟩, by rw [hi.length, nl_len]; exact Nat.le_trans ho' (by decide), hi⟩
    · subst hcb
      exact hQ h5 tk5 ps (fun b x hb e => k5 b x (k4 b x hb (F3.keep b x e))) (k5 _ _ hP4)
end
end Mine
end
section
set_option maxRecDepth 100000
namespace Mine

theorem execs_eq {env : Env} {ys : List Stmt} : ∀ xs : List Stmt, execs (xs ++ ys) env = execs xs env >>= fun fl => match fl with | .next => execs ys env | f => pure f
  | [] => by
    rw [show execs [] env = pure Flow.next from rfl, pure_bind]; rfl
  | x :: xs => by
    rw [List.cons_append, execs_cons, execs_cons, bind_assoc]
    congr 1
    funext fl
    cases fl with
    | next => exact execs_eq xs
    | _ => rw [pure_bind]
theorem execs_app {M : Model} {A : Around} {env : Env} {X : Value → Shared → Prop} {Q : Flow → Shared → Prop} {ys xs : List Stmt} {s : Shared} (h : wpAny M A (execs xs env) (fun fl s' => match fl with | .next => wpAny M A (execs ys env) Q X s' | fl => Q fl s') X s) : wpAny M A (execs (xs ++ ys) env) Q X s := by
  rw [execs_eq]
  exact wpAny_bind (wpAny_mono h (fun fl s' h' => by cases fl <;> first | exact h' | exact wpAny_pure h') fun _ _ e => e)
structure LawOk2 (K : Frag) (GT : List (Str × PV)) (a : Addr) : Prop where
  fn : fnChk K a ΓL2 gnL2 1 = true
  bind : ∀ vals : List Value, vals.length = 1 → bindArgs (fdAt K a) ⟨vals, []⟩ = pure (((ΓL2.map (·.1)).take 1).zip vals)
  init : chkB GT ΓL2 gnL2 bL2 (bodyOf (fdAt K a)).dropLast = true
  last : onSm (chkLast GT ΓL2 gnL2 "k" "rights") (bodyOf (fdAt K a)).getLast? = true
theorem body_split {l : List Stmt} {p : Stmt → Bool} (h : onSm p l.getLast? = true) : ∃ st, l = l.dropLast ++ [st] ∧ p st = true := by
  obtain ⟨st, e, h1⟩ := onSm_ok h
  refine ⟨st, ?_, h1⟩
  obtain ⟨ne, e2⟩ := List.getLast?_eq_some_iff.mp e
  rw [e2]
  simp
section
variable {prog : Program} {w : World} {K : Frag} {H : Heap} {a : Ad} {ex : List (Str × PV)}
theorem spec_ps {ps : Addr} (KX : K.In H) (L : Lib K a ex) (G : GlobOk H (gt a ex)) (hlim : H.NoLimit) (D : DefOk K (gt a ex) ps ΓPs gnPs 2 bPs) (m : Nat) {rs o : List Nat} (hr : ∀ v ∈ rs, v < 512) (hz : rs.length = 5 ∨ rs.length = 6) (ho : o.Perm (List.range rs.length)) :
    Spec prog w H (m + 2) (.ref ps) [.list (sgL rs), .list (nl o)] (.list (nl (bub (rt rs) o))) := by
  have hl : o.length = rs.length := by simpa using ho.length_eq
  exact def_spec (n := m + 1) (lib_tops KX L G hlim (m + 1)) hlim KX D.fn D.bind D.body rfl fun _ => ev_ps hr (fun k hk => List.mem_range.mp (ho.mem_iff.mp hk)) (by lia) (by lia) fun x y => spec_twc KX L G hlim m x y
theorem spec_ml {ml : Addr} (KX : K.In H) (L : Lib K a ex) (G : GlobOk H (gt a ex)) (hlim : H.NoLimit) (D : DefOk K (gt a ex) ml ΓMl gnMl 2 bMl) (m : Nat) {rs o : List Nat} (hz : rs.length = 5 ∨ rs.length = 6) (ho : o.Perm (List.range rs.length)) :
    Spec prog w H (m + 1) (.ref ml) [.list (rtL rs), .list (nl o)] (.list (mailL rs o rs.length)) :=
  def_spec (n := m) (lib_tops KX L G hlim m) hlim KX D.fn D.bind D.body rfl fun _ => ev_ml ho (by lia)
end
end Mine
end
section
set_option maxRecDepth 100000
namespace Mine

section
variable {prog : Program} {w : World} {K : Frag} {H : Heap} {a : Ad} {ex : List (Str × PV)}
theorem no_fre : ∀ (i : Nat) (x : Str), ΓL2[i]? ≠ some (x, Kd.fre) := fun i x e => by
  have h : ∀ p ∈ ΓL2, p.2 ≠ Kd.fre := by
    intro p hp
    simp only [ΓL2, List.mem_cons, List.mem_nil_iff, or_false] at hp
    rcases hp with rfl | rfl | rfl | rfl | rfl | rfl | rfl | rfl | rfl <;> exact nofun
  exact h _ (List.mem_of_getElem? e) rfl
theorem law2_run {ps ml la c P : Addr} (KX : K.In H) (L : Lib K a ex) (G : GlobOk H (gt a ex)) (hlim : H.NoLimit) (hx : (gt a ex)[18]? = some (("_law_passed" : Str), PV.raw (.ref ps))) (hy : (gt a ex)[19]? = some (("_law_mail" : Str), PV.raw (.ref ml)))
    (DP : DefOk K (gt a ex) ps ΓPs gnPs 2 bPs) (DM : DefOk K (gt a ex) ml ΓMl gnMl 2 bMl) (DL : LawOk2 K (gt a ex) la) (hcode : (fdAt K la).code = .ref c) (hcd : CodeHd H c P) (hno : H.get? P = none)
    (hbm : ∃ mg bm ob, H.Ns mainGlobals mg ∧ mg "__builtins__" = some (.ref bm) ∧ bm ≠ builtinsNs ∧ H.get? bm = some ob ∧ ob.cls = .type "module" ∧ ob.dict = some builtinsNs ∧ ob.data = .plain)
    {sc : List Int} (hz : sc.length ≤ 63) {s : Shared} {ow : Addr → Option Nat} {vs : List Value} {Q E : Value → Shared → Prop} (N : Now H ow s.heap) (hPo : ow P ≠ none) (hPs : s.heap.get? P = some (tabObj #[])) (hv : VRs (Fz ow s.heap) [.list (sc.map PV.int)] vs)
    (hQ : ∀ h' tk pt, (∀ b x, b ≠ P → s.heap.get? b = some x → h'.get? b = some x) → h'.get? P = some (tabObj pt) → Q (.bool true) { s with heap := h', toks := tk }) : wpAny (model prog w) callerA (call (.ref la) vs) Q E s := by
  obtain ⟨o, F⟩ := fn_at KX DL.fn DL.bind
  obtain ⟨os, FS⟩ := fn_at KX L.sld.fn L.sld.bind
  obtain ⟨st, eb, hst⟩ := body_split DL.last
  have hA : AOk 5 callerA := caller_ok.mono (by decide)
  have T := lib_tops (prog := prog) (w := w) KX L G hlim 4
  have hvl := hv.length
  have hnp := F.few
  refine wpAny_call (codeAny_call_cells (by have := hA.dep; omega) (N.top _ _ F.at') F.data (hlim.keeps N.top) (F.crec.keeps N.top) F.body (F.bind vs (by simpa using hvl)) F.clo ?_ (fun s₁ X => ?_) F.co F.ge F.sc.fn)
  · intro x hx
    have hm : x.1 ∈ ΓL2.map (·.1) := List.mem_of_mem_take (List.of_mem_zip (a := x.1) (b := x.2) hx).1
    obtain ⟨⟨y, k⟩, hy, e⟩ := List.mem_map.mp hm
    simp only at e
    subst e
    obtain ⟨k1, k2, _⟩ := F.sc.kinds _ hy
    cases k with
    | loc => exact .inl k1
    | fre => exact absurd rfl k2
    | cel =>
      refine .inr ⟨k1, ?_⟩
      have := cellsFrom_own (fdAt K la).scope.names (s.heap.push { cls := .type "frame", data := .dict #[] }) [] (x := x.1) (mem_lookup k1)
      rw [Heap.size_push] at this
      obtain ⟨c, e2, _⟩ := this
      rw [e2]; rfl
  · have F1 := (FR.call F N hv rfl X).hide (owNew_old hPo) no_fre
    have keep := X.toInCall.keep
    obtain ⟨h1, tk1, rfl⟩ := X.toInCall.same
    have hAd := hA.deep (callEnvC (fdAt K la) s.heap.objs.size la)
    have EO := envOk_call F s.heap.objs.size
    rw [eb]
    refine execs_app (sndB T bL2 _ (φ0 ΓL2 [.list (sc.map PV.int)]) ⟨fun ψ => ∃ o s4 s5 s6 s7 s8, o.Perm (List.range (rsOf sc).length) ∧ o.Pairwise (Rt (rsOf sc)) ∧ ψ = f2 sc (rsOf sc) (.val (.list (nl o))) s4 s5 s6 s7 s8, fun _ => False, fun _ => False⟩ ΓL2 gnL2 _ _ _ _ _ _ _ _ DL.init ?_ EO hAd F1 ?_)
    · refine ev_l2 hx hy hz (fun k hk => (spec_fm KX L G hlim 0 k hk).mono (by decide)) ?_ (fun o s4 s5 s6 s7 s8 p q => ⟨o, s4, s5, s6, s7, s8, p, q, rfl⟩)
      have five : (rsOf sc).length = 5 ∨ (rsOf sc).length = 6 := by
        rw [rsOf, List.length_map]
        exact nums2_len sc
      have h1 : 1 ≤ (rsOf sc).length := by omega
      have h6 : (rsOf sc).length ≤ 6 := by omega
      exact ⟨five, fun o p => (spec_ps KX L G hlim DP 0 (rs_lt sc) five p).mono (by decide), fun o p => (spec_ml KX L G hlim DM 0 five p).mono (by decide), fun cs h => spec_jn 4 h6 h, fun cs h => (spec_qdL KX L G hlim 0 h6 h).mono (by decide),
        fun cs h => spec_sp 4 h1 h6 h, fun ts us p q r t => spec_sort 4 p q r t, fun xs ys p q r => sld_specX (n := 3) (k := 17) (lib_tops KX L G hlim 3) hlim FS L.sld.body rfl ordS p q r hAd rfl rfl⟩
    · intro fl φ' ow' h' tk hf F2 l2
      cases fl with
      | brk => exact hf.elim
      | cont => exact hf.elim
      | ret v =>
        obtain ⟨pv, hf, _⟩ := hf
        exact hf.elim
      | next =>
        obtain ⟨o, s4, s5, s6, s7, s8, p, q, rfl⟩ := hf
        have five : (rsOf sc).length = 5 ∨ (rsOf sc).length = 6 := by
          rw [rsOf, List.length_map]
          exact nums2_len sc
        obtain ⟨g1, g2⟩ := l2.two P (tabObj #[]) (if_pos rfl) (keep _ _ hPs)
        refine wpAny_execs_cons (last_ok (c := c) (P := P) T hlim (by decide) hst EO hAd F2 ⟨hcode, hcd, hno, hbm⟩ g1 g2 five p q fun h3 tk3 pt k3 e3 => ?_)
        exact hQ h3 tk3 pt (fun b x hb e => k3 b x hb (hideAll_get _ e (by rw [List.mem_singleton]; exact hb))) e3
end
end Mine
end
section
namespace Mine

theorem ints_any {P P' : Addr → Obj → Prop} : ∀ {ns : List Int} {vs : List Value}, VRs P (ns.map PV.int) vs → VRs P' (ns.map PV.int) vs
  | [], vs, h => by
    unfold VRs at h
    subst h
    exact VRs.nil'
  | n :: ns, vs, h => by
    rw [List.map_cons] at h
    unfold VRs at h
    obtain ⟨v, r, rfl, h1, h2⟩ := h
    unfold VR at h1
    exact VRs.cons' (by unfold VR; exact h1) (ints_any h2)
noncomputable def owG (P b : Addr) : Option Nat := if b = P then some 2 else none
theorem ghost_arg {h : Heap} {P : Addr} {ps : Array Value} {ns : List Int} {v : Value} (hP : h.get? P = some (tabObj ps)) (w : VR (Fz (fun _ => none) h) (.list (ns.map PV.int)) v) : VR (Fz (owG P) h) (.list (ns.map PV.int)) v := by
  unfold VR at w ⊢
  obtain ⟨a, vs, n, rfl, f, l, r⟩ := w
  refine ⟨a, vs, n, rfl, ⟨if_neg fun e => ?_, f.2⟩, l, ints_any r⟩
  have := f.2
  rw [e, hP] at this
  cases this
theorem ghost_now {h : Heap} {P : Addr} {o : Obj} {m : Str → Option Value} (hP : h.get? P = some o) (g : h.Ns mainGlobals m) : Now (hideAll h [P]) (owG P) h := by
  refine ⟨fun b x e => of_hideAll _ e, fun b e => ?_, _, m, g⟩
  by_cases q : b = P
  · subst q
    exact ⟨hideAll_none _ List.mem_cons_self, by rw [hP]; rfl⟩
  · exact absurd (if_neg q) e
theorem ghost_in {K : Frag} {h : Heap} {P : Addr} (X : K.In h) (hK : K.lookup P = none) : K.In (hideAll h [P]) := fun b x e => hideAll_get _ (X b x e) fun q => by
  rw [List.mem_singleton.mp q, hK] at e
  cases e
theorem old_ghost {h h' : Heap} {c P : Addr} {pt : Array Value} (hC : CodeHd h c P) (hP : h.get? P = some (tabObj #[])) (k : ∀ b x, b ≠ P → h.get? b = some x → h'.get? b = some x) (e : h'.get? P = some (tabObj pt)) : OldK h h' := by
  refine ⟨fun b o q => ?_, fun b o q => ?_⟩
  · by_cases hb : b = P
    · subst hb
      rw [hP] at q
      cases q
      exact .inr (.inl ⟨(hC.tab hP).isCodeTable, rfl, #[], pt, rfl, by rw [Array.empty_append]; exact e⟩)
    · exact .inl (k b o hb q)
  · by_cases hb : b = P
    · subst hb
      exact ⟨_, e⟩
    · exact ⟨o, k b o hb q⟩
end Mine
end
set_option maxRecDepth 100000
set_option maxHeartbeats 8000000
/-! the program's tree with its texts spelt out: the tool that opens a row makes this pair itself where it is missing, with a proof of 29,000 nodes -/
noncomputable def PySem.W.Fast.tw13803691608558042558 : PySem.Program := by
  refine (fun (p : PySem.Program) (_ : PySem.Challenge.pw_un0007_02 = p) => p) ?_ ?h
  case h => conv => lhs; delta PySem.Challenge.pw_un0007_02; reduce
theorem PySem.W.Fast.te13803691608558042558 : PySem.Challenge.pw_un0007_02 = PySem.W.Fast.tw13803691608558042558 := by kernel_rfl
namespace Mine
open_top hd2 for PySem.Challenge.rw_un0007_02
noncomputable def ad2 : Ad := ⟨109, 69, 62, 45, 38, 50, 55⟩
noncomputable def ex2 : List (Str × PV) := [("_law_passed", .raw (.ref 116)), ("_law_mail", .raw (.ref 121))]
theorem defP (P : Params) : DefOk (hd2.heap_39 P) (gt ad2 ex2) 116 ΓPs gnPs 2 bPs := ⟨by kernel_rfl, fun vals h => by match vals, h with | [_, _], _ => rfl, by kernel_rfl⟩
theorem defM (P : Params) : DefOk (hd2.heap_39 P) (gt ad2 ex2) 121 ΓMl gnMl 2 bMl := ⟨by kernel_rfl, fun vals h => by match vals, h with | [_, _], _ => rfl, by kernel_rfl⟩
theorem law2 (P : Params) : LawOk2 (hd2.heap_39 P) (gt ad2 ex2) 126 := ⟨by kernel_rfl, fun vals h => by match vals, h with | [_], _ => rfl, by kernel_rfl, by kernel_rfl⟩
theorem lib2 (P : Params) : Lib (hd2.heap_39 P) ad2 ex2 where
  glob := by kernel_rfl
  fm := ⟨by kernel_rfl, fun vals h => by match vals, h with | [_], _ => rfl, by kernel_rfl⟩
  ifmt := ⟨by kernel_rfl, fun vals h => by match vals, h with | [_], _ => rfl, by kernel_rfl⟩
  qd := ⟨by kernel_rfl, fun vals h => by match vals, h with | [_], _ => rfl, by kernel_rfl⟩
  twc := ⟨by kernel_rfl, fun vals h => by match vals, h with | [_, _], _ => rfl, by kernel_rfl⟩
  sld := ⟨by kernel_rfl, fun vals h => by match vals, h with | [_, _], _ => rfl, by kernel_rfl⟩
  r1 := by kernel_rfl
  r2 := by kernel_rfl
theorem find2 (P : Params) : isDictAt (hd2.heap_39 P) mainGlobals = true ∧ nsFind (entriesOf (hd2.heap_39 P) mainGlobals) "law" = some (.ref 126) := ⟨by kernel_rfl, by kernel_rfl⟩
theorem lawcd2 (P : Params) : codeHdIn (hd2.heap_39 P) 125 123 = true ∧ (hd2.heap_39 P).lookup 123 = none ∧ (fdAt (hd2.heap_39 P) 126).code = .ref 125 := ⟨by kernel_rfl, by kernel_rfl, by kernel_rfl⟩
end Mine
theorem PySem.Challenge.cw_un0007_02_holds : PySem.Challenge.rw_un0007_02.Holds := by
  refine Mine.hd2 ?_
  k_fill
  intro w s₀ s₁ mg mb G Y fa o pm cd doc dV kV ho hd hcd hD hmg hg args vals as hpre hlay hrd hwl hlo
  have KX := km_in_of Y
  have PX := km_tabs_of Y 123 List.mem_cons_self
  refine Ground.open G ?_
  intro T B D TE TW
  clear ho hd hcd hD
  wrow_args hpre hlay hrd hwl hlo
  rename_i ns hs hlay0 hL1 hr1 hl2 wa wb l vs wc hL ra w1 r0 hI hr hc1 hc2
  have hz : ns.length ≤ 63 := by omega
  obtain ⟨f0, f1⟩ := Mine.find2 w.params
  have ef := Mine.glob_name KX T f0 f1
  have e2 := hmg.symm.trans ef
  cases e2
  have L := Mine.lib2 w.params
  obtain ⟨k1, k2, k3⟩ := Mine.lawcd2 w.params
  have HD := codeHd_of_K KX k1
  have hT : TabsAt [(125, 123)] s₁.heap := List.forall_mem_cons.mpr ⟨⟨HD, PX⟩, nofun⟩
  have KG := Mine.ghost_in KX k2
  have TG := ghost_top hT T
  obtain ⟨bm, ob, b1, b2, b3, b4, b5, b6⟩ := TG.bmain
  refine Mine.law2_run (ps := 116) (ml := 121) (c := 125) (P := 123) (ow := Mine.owG 123) KG L (Mine.glob_ok KG TG L.glob) TG.nolimit rfl rfl (Mine.defP w.params) (Mine.defM w.params) (Mine.law2 w.params) k3 (codeHd_of_K KG k1) (hideAll_none _ List.mem_cons_self) ⟨mg, bm, ob, TG.g, b1, b2, b3, b4, b5, b6⟩
    hz (Mine.ghost_now PX T.g) nofun PX (Mine.VRs.one (Mine.ghost_arg PX (Mine.well_list (Nat.le_trans hz (by decide)) w1))) ?_
  intro h' tk pt keep e
  exact ⟨.inl ⟨.bool true, .bool true, [], rfl, fun cls => rfl, .bool _, by kernel_rfl, fun _ => ⟨.nil, nofun⟩⟩, Mine.old_ghost HD PX keep e, rfl, .of_eq hg⟩
