import PyProof.Rows.All
import Wide.All
import OpenK.AllK
import Wide.FinOn
import PySem.Challenge.RW_io0064_05
set_option Elab.async false
noncomputable section
open PySem PySem.W PyProof.Rows
set_option Elab.async false
set_option genSizeOf false
set_option genInjectivity false
namespace Mine

/-- plain values -/
inductive V where
  | none
  | bool (b : Bool)
  | int (i : Int)
  | str (s : Str)
  | bytes (b : Array UInt8)
  | ref (i : Nat)
  | tup (l : List V)
  | row (l : List V) (d : Nat)
  | code (d : Nat)
  | range (a b s : Int)
  | ty (t : String)
  | ecls
  | fixed (a : Addr)
  | lst (l : List V)


/-- what the store holds -/
inductive O where
  | list (l : List V)
  | iter (src k : Nat)
  | dead
  | biter (b : Array UInt8) (k : Nat)
  | bdead
  | attr (n : Str) (v : Option V)


abbrev Vars := List (Str × V)

/-- EC, UC: the addresses of the classes of entries and of `_Unknown` -/
structure Cls where
  EC : Addr
  UC : Addr

abbrev rangeObj (a b s : Int) (ta tb ts : Tok) : Obj := { cls := .type "range", data := .fields #[.int a ta, .int b tb, .int s ts] }

mutual
inductive VR (C : Cls) (φ : List Addr) (h : Heap) : V → Value → Prop
  | none : VR C φ h .none .none
  | bool (b : Bool) : VR C φ h (.bool b) (.bool b)
  | int (i : Int) (t : Tok) : VR C φ h (.int i) (.int i t)
  | str (s : Str) (t : Tok) : VR C φ h (.str s) (.str s t)
  | bytes (b : Array UInt8) (t : Tok) : VR C φ h (.bytes b) (.bytes b t)
  | ref {i : Nat} {a : Addr} (e : φ[i]? = some a) : VR C φ h (.ref i) (.ref a)
  | tup {l : List V} {a : Addr} {vs : List Value} {n : Nat} (e : h.get? a = some { cls := .type "tuple", data := .seq vs.toArray n }) (off : a ∉ φ) (r : VRs C φ h l vs) : VR C φ h (.tup l) (.ref a)
  | row {l : List V} {d : Nat} {a dx : Addr} {vs : List Value} {n : Nat} (e : h.get? a = some { cls := .ref C.EC, dict := some dx, data := .seq vs.toArray n }) (off : a ∉ φ) (ed : φ[d]? = some dx) (r : VRs C φ h l vs) : VR C φ h (.row l d) (.ref a)
  | code {d : Nat} {a dx : Addr} (e : h.get? a = some (instObj C.UC dx)) (off : a ∉ φ) (ed : φ[d]? = some dx) : VR C φ h (.code d) (.ref a)
  | range {a : Addr} {x y z : Int} {tx ty tz : Tok} (e : h.get? a = some (rangeObj x y z tx ty tz)) (off : a ∉ φ) : VR C φ h (.range x y z) (.ref a)
  | ty (t : String) : VR C φ h (.ty t) (.type t)
  | ecls : VR C φ h .ecls (.ref C.EC)
  | fixed (a : Addr) : VR C φ h (.fixed a) (.ref a)
  | lst {l : List V} {a : Addr} {vs : List Value} {n : Nat} (e : h.get? a = some { cls := .type "list", data := .seq vs.toArray n }) (off : a ∉ φ) (r : VRs C φ h l vs) : VR C φ h (.lst l) (.ref a)
inductive VRs (C : Cls) (φ : List Addr) (h : Heap) : List V → List Value → Prop
  | nil : VRs C φ h [] []
  | cons {v : V} {v' : Value} {l : List V} {vs : List Value} (x : VR C φ h v v') (r : VRs C φ h l vs) : VRs C φ h (v :: l) (v' :: vs)
end

/-- an object that no step of ours changes in place, unless it is in φ -/
def imm (o : Obj) : Bool := match o.data with
  | .seq .. | .plain => true
  | .fields .. => o.cls == .type "range"
  | _ => false

/-- a dict's object (a frame is one: its slots may change where an exception passes by) -/
def isD (o : Obj) : Prop := ∃ es n, o.data = .dict es n
/-- the heap that the calls stand on, and the frames that stand -/
structure HB where
  heap : Heap
  fs : List Addr

structure Step (W : Addr → Prop) (φ : List Addr) (h : Heap) (φ' : List Addr) (h' : Heap) : Prop where
  pre : φ <+: φ'
  fresh : ∀ a ∈ φ', a ∈ φ ∨ (h.get? a = none ∧ ¬ W a)
  live : ∀ b o, h.get? b = some o → ¬ W b → ∃ o', h'.get? b = some o'
  keep : ∀ b o, h.get? b = some o → b ∉ φ → ¬ W b → h'.get? b = some o ∨ (isD o ∧ ∃ sl, h'.get? b = some { o with slots := sl })
abbrev noW : Addr → Prop := fun _ => False
def Hard (W : Addr → Prop) (h : Heap) : Prop := ∀ a o, W a → h.get? a = some o → imm o = false
theorem hard_no {h : Heap} : Hard noW h := fun _ _ x _ => x.elim

section
variable {W : Addr → Prop} {φ φ₁ φ₂ : List Addr} {h h₁ h₂ : Heap}
theorem Step.refl : Step W φ h φ h := ⟨List.prefix_refl _, fun _ ha => .inl ha, fun _ o e _ => ⟨o, e⟩, fun _ _ e _ _ => .inl e⟩
theorem Step.off (x : Step W φ h φ₁ h₁) {b : Addr} {o : Obj} (e : h.get? b = some o) (n : b ∉ φ) : b ∉ φ₁ := fun m => by
  rcases x.fresh b m with q | q
  · exact n q
  · rw [q.1] at e; cases e
theorem Step.trans (x : Step W φ h φ₁ h₁) (y : Step W φ₁ h₁ φ₂ h₂) : Step W φ h φ₂ h₂ := by
  refine ⟨x.pre.trans y.pre, fun a ha => ?_, fun b o e w => ?_, fun b o e n w => ?_⟩
  · rcases y.fresh a ha with q | q
    · exact x.fresh a q
    · cases hq : h.get? a with
      | none => exact .inr ⟨rfl, q.2⟩
      | some o =>
        obtain ⟨o', e'⟩ := x.live a o hq q.2
        rw [q.1] at e'; cases e'
  · obtain ⟨o', e'⟩ := x.live b o e w
    exact y.live b o' e' w
  · rcases x.keep b o e n w with e1 | ⟨d, sl, e1⟩
    · exact y.keep b o e1 (x.off e n) w
    · rcases y.keep b _ e1 (x.off e n) w with e2 | ⟨_, sl2, e2⟩
      · exact .inr ⟨d, sl, e2⟩
      · exact .inr ⟨d, sl2, e2⟩
theorem Step.wide {W' : Addr → Prop} (x : Step W φ h φ₁ h₁) (hw : ∀ a, W a → W' a) (hl : ∀ a, W' a → ∃ o, h.get? a = some o) : Step W' φ h φ₁ h₁ :=
  ⟨x.pre, fun a m => (x.fresh a m).imp id fun q => ⟨q.1, fun w => by obtain ⟨o, e⟩ := hl a w; rw [q.1] at e; cases e⟩, fun b o e w => x.live b o e fun q => w (hw b q), fun b o e n w => x.keep b o e n fun q => w (hw b q)⟩
theorem Step.look (x : Step W φ h φ₁ h₁) {i : Nat} {a : Addr} (e : φ[i]? = some a) : φ₁[i]? = some a := by
  obtain ⟨t, rfl⟩ := x.pre
  rw [List.getElem?_append_left (List.getElem?_eq_some_iff.mp e).1]; exact e
theorem Step.exact (x : Step W φ h φ₁ h₁) {b : Addr} {o : Obj} (e : h.get? b = some o) (n : b ∉ φ) (w : ¬ W b) (d : ¬ isD o) : h₁.get? b = some o :=
  (x.keep b o e n w).elim id fun q => (d q.1).elim
theorem imm_not {o : Obj} (i : imm o = true) : ¬ isD o := by
  rintro ⟨es, n, e⟩
  unfold imm at i; rw [e] at i; cases i
theorem Step.kept (x : Step W φ h φ₁ h₁) (hw : Hard W h) {b : Addr} {o : Obj} (e : h.get? b = some o) (n : b ∉ φ) (i : imm o = true) : h₁.get? b = some o :=
  x.exact e n (fun q => by rw [hw b o q e] at i; cases i) (imm_not i)
end

mutual
theorem VR.step {C : Cls} {W : Addr → Prop} {φ φ₁ : List Addr} {h h₁ : Heap} {v : V} {v' : Value} (r : VR C φ h v v') (x : Step W φ h φ₁ h₁) (hw : Hard W h) : VR C φ₁ h₁ v v' := by
  cases r with
  | none => exact .none
  | bool b => exact .bool b
  | int i t => exact .int i t
  | str s t => exact .str s t
  | bytes b t => exact .bytes b t
  | ref e => exact .ref (x.look e)
  | tup e off r => exact .tup (x.kept hw e off rfl) (x.off e off) (VRs.step r x hw)
  | row e off ed r => exact .row (x.kept hw e off rfl) (x.off e off) (x.look ed) (VRs.step r x hw)
  | code e off ed => exact .code (x.kept hw e off rfl) (x.off e off) (x.look ed)
  | range e off => exact .range (x.kept hw e off rfl) (x.off e off)
  | ty t => exact .ty t
  | ecls => exact .ecls
  | fixed a => exact .fixed a
  | lst e off r => exact .lst (x.kept hw e off rfl) (x.off e off) (VRs.step r x hw)
theorem VRs.step {C : Cls} {W : Addr → Prop} {φ φ₁ : List Addr} {h h₁ : Heap} {l : List V} {vs : List Value} (r : VRs C φ h l vs) (x : Step W φ h φ₁ h₁) (hw : Hard W h) : VRs C φ₁ h₁ l vs := by
  cases r with
  | nil => exact .nil
  | cons a b => exact .cons (VR.step a x hw) (VRs.step b x hw)
end

section
variable {C : Cls} {φ : List Addr} {h : Heap} {v' : Value}
theorem VR.none_inv (r : VR C φ h .none v') : v' = .none := by cases r; rfl
theorem VR.bool_inv {b : Bool} (r : VR C φ h (.bool b) v') : v' = .bool b := by cases r; rfl
theorem VR.int_inv {i : Int} (r : VR C φ h (.int i) v') : ∃ t, v' = .int i t := by cases r; exact ⟨_, rfl⟩
theorem VR.str_inv {i : Str} (r : VR C φ h (.str i) v') : ∃ t, v' = .str i t := by cases r; exact ⟨_, rfl⟩
theorem VR.bytes_inv {i : Array UInt8} (r : VR C φ h (.bytes i) v') : ∃ t, v' = .bytes i t := by cases r; exact ⟨_, rfl⟩
theorem VR.ty_inv {t : String} (r : VR C φ h (.ty t) v') : v' = .type t := by cases r; rfl
theorem VR.ecls_inv (r : VR C φ h .ecls v') : v' = .ref C.EC := by cases r; rfl
theorem VR.ref_inv {i : Nat} (r : VR C φ h (.ref i) v') : ∃ a, v' = .ref a ∧ φ[i]? = some a := by cases r with | ref e => exact ⟨_, rfl, e⟩
theorem VR.tup_inv {l : List V} (r : VR C φ h (.tup l) v') : ∃ a vs n, v' = .ref a ∧ h.get? a = some { cls := .type "tuple", data := .seq vs.toArray n } ∧ a ∉ φ ∧ VRs C φ h l vs := by cases r with | tup e off r => exact ⟨_, _, _, rfl, e, off, r⟩
theorem VR.lst_inv {l : List V} (r : VR C φ h (.lst l) v') : ∃ a vs n, v' = .ref a ∧ h.get? a = some { cls := .type "list", data := .seq vs.toArray n } ∧ a ∉ φ ∧ VRs C φ h l vs := by cases r with | lst e off r => exact ⟨_, _, _, rfl, e, off, r⟩
theorem VR.row_inv {l : List V} {d : Nat} (r : VR C φ h (.row l d) v') : ∃ a dx vs n, v' = .ref a ∧ h.get? a = some { cls := .ref C.EC, dict := some dx, data := .seq vs.toArray n } ∧ a ∉ φ ∧ φ[d]? = some dx ∧ VRs C φ h l vs := by cases r with | row e off ed r => exact ⟨_, _, _, _, rfl, e, off, ed, r⟩
theorem VR.range_inv {x y z : Int} (r : VR C φ h (.range x y z) v') : ∃ a tx ty tz, v' = .ref a ∧ h.get? a = some (rangeObj x y z tx ty tz) ∧ a ∉ φ := by cases r with | range e off => exact ⟨_, _, _, _, rfl, e, off⟩
theorem VRs.cons_inv {v : V} {l : List V} {ws : List Value} (r : VRs C φ h (v :: l) ws) : ∃ w vs, ws = w :: vs ∧ VR C φ h v w ∧ VRs C φ h l vs := by cases r with | cons a b => exact ⟨_, _, rfl, a, b⟩
theorem VRs.nil_inv {ws : List Value} (r : VRs C φ h [] ws) : ws = [] := by cases r; rfl
end
section
variable {C : Cls} {φ : List Addr} {h : Heap}
theorem VRs.length {l : List V} {vs : List Value} (r : VRs C φ h l vs) : l.length = vs.length := by
  induction l generalizing vs with
  | nil => cases r; rfl
  | cons v l ih => cases r with | cons a b => rw [List.length_cons, List.length_cons, ih b]
theorem VRs.get {l : List V} {vs : List Value} (r : VRs C φ h l vs) {i : Nat} {v : V} (e : l[i]? = some v) : ∃ v', vs[i]? = some v' ∧ VR C φ h v v' := by
  induction l generalizing vs i with
  | nil => cases e
  | cons u l ih =>
    cases r with
    | cons a b =>
      cases i with
      | zero => cases e; exact ⟨_, rfl, a⟩
      | succ i => exact ih b e
theorem VRs.append {l m : List V} {vs ws : List Value} (r : VRs C φ h l vs) (q : VRs C φ h m ws) : VRs C φ h (l ++ m) (vs ++ ws) := by
  induction l generalizing vs with
  | nil => cases r; exact q
  | cons u l ih => cases r with | cons a b => exact .cons a (ih b)
theorem VRs.take {l : List V} {vs : List Value} (r : VRs C φ h l vs) (n : Nat) : VRs C φ h (l.take n) (vs.take n) := by
  induction n generalizing l vs with
  | zero => exact .nil
  | succ n ih => cases r with
    | nil => exact .nil
    | cons a b => exact .cons a (ih b)
theorem VRs.drop {l : List V} {vs : List Value} (r : VRs C φ h l vs) (n : Nat) : VRs C φ h (l.drop n) (vs.drop n) := by
  induction n generalizing l vs with
  | zero => exact r
  | succ n ih => cases r with
    | nil => exact .nil
    | cons a b => exact ih b
end

abbrev listObj (vs : List Value) (n : Nat) : Obj := { cls := .type "list", data := .seq vs.toArray n }
abbrev iterObj (l : Addr) (k : Nat) : Obj := { cls := .type "list_iterator", data := .fields #[.ref l, .int k 0] }
abbrev biterObj (b : Array UInt8) (t : Tok) (k : Nat) : Obj := { cls := .type "bytes_iterator", data := .fields #[.bytes b t, .int k 0] }
abbrev bdeadObj (x : Value) : Obj := { cls := .type "bytes_iterator", data := .fields #[.none, x] }
abbrev deadObj (x : Value) : Obj := { cls := .type "list_iterator", data := .fields #[.none, x] }
def OR (C : Cls) (φ : List Addr) (h : Heap) : O → Obj → Prop
  | .list l, o => ∃ vs n, o = listObj vs n ∧ VRs C φ h l vs
  | .iter s k, o => ∃ a, φ[s]? = some a ∧ o = iterObj a k
  | .dead, o => ∃ x, o = deadObj x
  | .biter b k, o => ∃ t, o = biterObj b t k
  | .bdead, o => ∃ x, o = bdeadObj x
  | .attr _ none, o => ∃ n, o = { cls := .type "dict", data := .dict #[] n }
  | .attr x (some v), o => ∃ n hs tk v', o = { cls := .type "dict", data := .dict #[⟨hs, .str x tk, v'⟩] n } ∧ VR C φ h v v'
theorem OR.step {C : Cls} {W : Addr → Prop} {φ φ₁ : List Addr} {h h₁ : Heap} {o : O} {ob : Obj} (r : OR C φ h o ob) (x : Step W φ h φ₁ h₁) (hw : Hard W h) : OR C φ₁ h₁ o ob := by
  cases o with
  | list l => obtain ⟨vs, n, e, q⟩ := r; exact ⟨vs, n, e, q.step x hw⟩
  | iter s k => obtain ⟨a, e, q⟩ := r; exact ⟨a, x.look e, q⟩
  | dead => exact r
  | biter b k => exact r
  | bdead => exact r
  | attr n v =>
    cases v with
    | none => exact r
    | some v => obtain ⟨n, hs, tk, v', e, q⟩ := r; exact ⟨n, hs, tk, v', e, q.step x hw⟩

structure SR (C : Cls) (hb : HB) (φ : List Addr) (h : Heap) (σ : List O) : Prop where
  len : φ.length = σ.length
  nd : φ.Nodup
  base : ∀ b o, hb.heap.get? b = some o → h.get? b = some o
  off : ∀ a ∈ φ, hb.heap.get? a = none
  fr : ∀ a ∈ hb.fs, a ∉ φ ∧ hb.heap.get? a = none ∧ ∃ o, h.get? a = some o ∧ isD o
  cell : ∀ (i : Nat) (a : Addr) (o : O), φ[i]? = some a → σ[i]? = some o → ∃ ob, h.get? a = some ob ∧ OR C φ h o ob

section
variable {C : Cls} {hb : HB} {h h' : Heap} {φ : List Addr} {σ : List O}
theorem SR.atRef (S : SR C hb φ h σ) {i : Nat} {a : Addr} {o : O} (ea : φ[i]? = some a) (e : σ[i]? = some o) : a ∈ φ ∧ ∃ ob, h.get? a = some ob ∧ OR C φ h o ob :=
  ⟨List.mem_of_getElem? ea, S.cell i a o ea e⟩
theorem SR.hold (S : SR C hb φ h σ) {a : Addr} (m : a ∈ φ) : ∃ ob, h.get? a = some ob := by
  obtain ⟨i, hi, rfl⟩ := List.mem_iff_getElem.mp m
  have hl : i < σ.length := by rw [← S.len]; exact hi
  obtain ⟨ob, h1, _⟩ := S.cell i φ[i] σ[i] (List.getElem?_eq_getElem hi) (List.getElem?_eq_getElem hl)
  exact ⟨ob, h1⟩
/-- nothing of the store turned -/
theorem SR.same (S : SR C hb φ h σ) {W : Addr → Prop} (x : Step W φ h φ h') (hw : Hard W h) (hφ : ∀ a ∈ φ, ∀ o, h.get? a = some o → h'.get? a = some o)
    (kb : ∀ b o, hb.heap.get? b = some o → h.get? b = some o → h'.get? b = some o) (kf : ∀ a ∈ hb.fs, ∀ o, h.get? a = some o → isD o → ∃ o', h'.get? a = some o' ∧ isD o') : SR C hb φ h' σ := by
  refine ⟨S.len, S.nd, fun b o e => kb b o e (S.base b o e), S.off, fun a m => ?_, fun i a o ea eo => ?_⟩
  · obtain ⟨a1, a2, o, a3, a4⟩ := S.fr a m
    exact ⟨a1, a2, kf a m o a3 a4⟩
  · obtain ⟨ob, h1, h2⟩ := S.cell i a o ea eo
    exact ⟨ob, hφ a (List.mem_of_getElem? ea) ob h1, h2.step x hw⟩
/-- one thing of the store is changed -/
theorem SR.put (S : SR C hb φ h σ) {i : Nat} {a : Addr} {ob : Obj} {o : O} (ea : φ[i]? = some a) (hs : Heap.SameBut a h h') (e : h'.get? a = some ob) (r : OR C φ h' o ob) : Step noW φ h φ h' ∧ SR C hb φ h' (σ.set i o) := by
  have ma := List.mem_of_getElem? ea
  have x : Step noW φ h φ h' := by
    refine ⟨List.prefix_refl _, fun _ q => .inl q, fun b o' eb _ => ?_, fun b o' eb n _ => ?_⟩
    · by_cases q : b = a
      · subst q; exact ⟨ob, e⟩
      · exact ⟨o', (hs.2 b q).trans eb⟩
    · exact .inl ((hs.2 b fun q => n (q ▸ ma)).trans eb)
  refine ⟨x, by rw [List.length_set]; exact S.len, S.nd, fun b o' e' => (hs.2 b fun q => by rw [q, S.off a ma] at e'; cases e').trans (S.base b o' e'), S.off, fun a' m => ?_, fun j b o' eb eo => ?_⟩
  · obtain ⟨a1, a2, o', a3, a4⟩ := S.fr a' m
    exact ⟨a1, a2, o', (hs.2 a' fun q => a1 (q ▸ ma)).trans a3, a4⟩
  by_cases hj : i = j
  · subst hj
    rw [ea] at eb; cases eb
    rw [List.getElem?_set_self (by rw [← S.len]; exact (List.getElem?_eq_some_iff.mp ea).1)] at eo
    cases eo
    exact ⟨ob, e, r⟩
  · rw [List.getElem?_set_ne hj] at eo
    obtain ⟨ob', h1, h2⟩ := S.cell j b o' eb eo
    have ne : b ≠ a := fun q => by
      subst q
      obtain ⟨l1, e1⟩ := List.getElem?_eq_some_iff.mp ea
      obtain ⟨l2, e2⟩ := List.getElem?_eq_some_iff.mp eb
      exact hj ((List.getElem_inj S.nd).mp (e1.trans e2.symm))
    exact ⟨ob', (hs.2 b ne).trans h1, h2.step x hard_no⟩
/-- one new thing -/
theorem SR.add (S : SR C hb φ h σ) {a : Addr} {ob : Obj} {o : O} (n : h.get? a = none) (keep : ∀ b o, h.get? b = some o → h'.get? b = some o) (e : h'.get? a = some ob) (r : OR C (φ ++ [a]) h' o ob) : Step noW φ h (φ ++ [a]) h' ∧ SR C hb (φ ++ [a]) h' (σ ++ [o]) := by
  have na : a ∉ φ := fun m => by obtain ⟨_, q⟩ := S.hold m; rw [n] at q; cases q
  have x : Step noW φ h (φ ++ [a]) h' := by
    refine ⟨⟨_, rfl⟩, fun b m => ?_, fun b o' eb _ => ⟨o', keep b o' eb⟩, fun b o' eb _ _ => .inl (keep b o' eb)⟩
    rcases List.mem_append.mp m with m | m
    · exact .inl m
    · rw [List.mem_singleton.mp m]; exact .inr ⟨n, id⟩
  refine ⟨x, by rw [List.length_append, List.length_append, S.len]; rfl, ?_, fun b o' e' => keep b o' (S.base b o' e'), fun b m => ?_, fun a' m => ?_, fun j b o' eb eo => ?_⟩
  · exact List.nodup_append.mpr ⟨S.nd, by simp, fun b hb c hc => by rw [List.mem_singleton.mp hc]; exact fun q => na (q ▸ hb)⟩
  · rcases List.mem_append.mp m with m | m
    · exact S.off b m
    · rw [List.mem_singleton.mp m]
      cases q : hb.heap.get? a with
      | none => rfl
      | some o' => have := S.base a o' q; rw [n] at this; cases this
  · obtain ⟨a1, a2, o', a3, a4⟩ := S.fr a' m
    refine ⟨fun q => ?_, a2, o', keep a' o' a3, a4⟩
    rcases List.mem_append.mp q with q | q
    · exact a1 q
    · rw [List.mem_singleton.mp q, n] at a3; cases a3
  · by_cases hj : j < φ.length
    · rw [List.getElem?_append_left hj] at eb
      rw [List.getElem?_append_left (by rw [← S.len]; exact hj)] at eo
      obtain ⟨ob', h1, h2⟩ := S.cell j b o' eb eo
      exact ⟨ob', keep b ob' h1, h2.step x hard_no⟩
    · have hj' : φ.length ≤ j := Nat.le_of_not_lt hj
      rw [List.getElem?_append_right hj'] at eb
      rw [List.getElem?_append_right (by rw [← S.len]; exact hj'), ← S.len] at eo
      cases q : j - φ.length with
      | zero => rw [q] at eb eo; cases eb; cases eo; exact ⟨ob, e, r⟩
      | succ k => rw [q] at eb; cases eb
end
end Mine
end
noncomputable section
open PySem PySem.W PyProof.Rows
set_option Elab.async false
set_option genSizeOf false
set_option genInjectivity false
namespace Mine

structure EnvR (C : Cls) (hb : Heap) (φ : List Addr) (h : Heap) (sc : Scope) (ν : Vars) (env : Env) : Prop where
  isSc : env.scope = sc
  fk : sc.kind = .function
  gl : env.globals = mainGlobals
  bi : env.builtins = builtinsNs
  Lφ : env.locals ∉ φ
  Lb : hb.get? env.locals = none
  cφ : ∀ p ∈ env.cells, p.2 ∉ φ ∧ hb.get? p.2 = none ∧ p.2 ≠ env.locals
  apart : env.cells.Pairwise fun x y => x.2 ≠ y.2
  cell : ∀ p ∈ env.cells, ∃ v, h.IsCell p.2 v
  has : ∀ x, sc.names.lookup x = some .cell → ∃ c, env.cells.lookup x = some c
  ns : ∃ m, h.Ns env.locals m ∧ ∀ x v, ν.lookup x = some v → ∃ v', VR C φ h v v' ∧ ((sc.names.lookup x = some .local ∧ m x = some v') ∨
    ((sc.names.lookup x = some .cell ∨ sc.names.lookup x = some .free) ∧ ∃ c, env.cells.lookup x = some c ∧ h.IsCell c (some v')))

def WE (env : Env) (a : Addr) : Prop := a = env.locals ∨ ∃ p ∈ env.cells, p.2 = a

section
variable {C : Cls} {hb h h' : Heap} {φ φ' : List Addr} {sc : Scope} {ν : Vars} {env : Env}
theorem ns_get {m : Str → Option Value} {L : Addr} (n : h.Ns L m) : ∃ o, h.get? L = some o ∧ imm o = false := by
  obtain ⟨o, es, ep, ho, hd, _⟩ := n
  exact ⟨o, ho, by unfold imm; rw [hd]⟩
theorem cell_get {c : Addr} {v : Option Value} (n : h.IsCell c v) : ∃ o, h.get? c = some o ∧ imm o = false := by
  obtain ⟨o, ho, hd⟩ := n
  exact ⟨o, ho, by unfold imm; rw [hd]⟩
theorem EnvR.hard (E : EnvR C hb φ h sc ν env) : Hard (WE env) h := by
  rintro a o (rfl | ⟨p, hp, rfl⟩) e
  · obtain ⟨m, n, _⟩ := E.ns
    obtain ⟨o', h1, h2⟩ := ns_get n
    rw [h1] at e; cases e; exact h2
  · obtain ⟨v, n⟩ := E.cell p hp
    obtain ⟨o', h1, h2⟩ := cell_get n
    rw [h1] at e; cases e; exact h2
theorem EnvR.base (E : EnvR C hb φ h sc ν env) : ∀ b o, hb.get? b = some o → ¬ WE env b := by
  rintro b o e (rfl | ⟨p, hp, rfl⟩)
  · rw [E.Lb] at e; cases e
  · rw [(E.cφ p hp).2.1] at e; cases e
theorem IsCell.at {c : Addr} {v : Option Value} (n : h.IsCell c v) (k : ∀ o, h.get? c = some o → h'.get? c = some o) : h'.IsCell c v := let ⟨o, a, b⟩ := n; ⟨o, k o a, b⟩
theorem Ns.weak {L : Addr} {m : Str → Option Value} (n : h.Ns L m) (k : ∀ o, h.get? L = some o → h'.get? L = some o ∨ (isD o ∧ ∃ sl, h'.get? L = some { o with slots := sl })) : h'.Ns L m := by
  obtain ⟨o, es, ep, ho, hd, r⟩ := n
  rcases k o ho with q | ⟨_, sl, q⟩
  · exact ⟨o, es, ep, q, hd, r⟩
  · exact ⟨_, es, ep, q, hd, r⟩
theorem IsCell.weak {c : Addr} {v : Option Value} (n : h.IsCell c v) (k : ∀ o, h.get? c = some o → h'.get? c = some o ∨ (isD o ∧ ∃ sl, h'.get? c = some { o with slots := sl })) : h'.IsCell c v := by
  obtain ⟨o, ho, hd⟩ := n
  rcases k o ho with q | ⟨⟨es, m, q⟩, _⟩
  · exact ⟨o, q, hd⟩
  · rw [hd] at q; cases q
theorem EnvR.keep {W : Addr → Prop} (E : EnvR C hb φ h sc ν env) (x : Step W φ h φ' h') (hw : Hard W h) (nw : ∀ a, WE env a → ¬ W a) : EnvR C hb φ' h' sc ν env := by
  obtain ⟨m, n, hm⟩ := E.ns
  have kL : ∀ o, h.get? env.locals = some o → _ := fun o e => x.keep _ o e E.Lφ (nw _ (.inl rfl))
  have kC : ∀ p ∈ env.cells, ∀ o, h.get? p.2 = some o → _ := fun p hp o e => x.keep _ o e (E.cφ p hp).1 (nw _ (.inr ⟨p, hp, rfl⟩))
  refine ⟨E.isSc, E.fk, E.gl, E.bi, ?_, E.Lb, fun p hp => ⟨?_, (E.cφ p hp).2⟩, E.apart, fun p hp => ?_, E.has, m, Ns.weak n kL, fun y v e => ?_⟩
  · obtain ⟨o, ho, _⟩ := ns_get n
    exact x.off ho E.Lφ
  · obtain ⟨v, hv⟩ := E.cell p hp
    obtain ⟨o, ho, _⟩ := cell_get hv
    exact x.off ho (E.cφ p hp).1
  · obtain ⟨v, hv⟩ := E.cell p hp
    exact ⟨v, IsCell.weak hv (kC p hp)⟩
  · obtain ⟨v', r, q⟩ := hm y v e
    refine ⟨v', r.step x hw, q.imp id ?_⟩
    rintro ⟨k, c, hc, hv⟩
    exact ⟨k, c, hc, IsCell.weak hv (kC _ (mem_of_lookup hc))⟩
theorem EnvR.step (E : EnvR C hb φ h sc ν env) (x : Step noW φ h φ' h') : EnvR C hb φ' h' sc ν env := E.keep x hard_no fun _ _ q => q
end

structure FrL (l : List Env) (fs : List Addr) : Prop where
  at_ : l.map (·.frame) = fs.map some
  kind : ∀ env ∈ l, env.scope.kind ≠ .module
structure AOk (fs : List Addr) (d : Nat) (A : Around) : Prop where
  hd : A.handled = none
  dep : A.depth + 10 * d + 20 < recursionLimit
  un : A.units + 100 * d + 1000 < cLine
  fr : ∃ l, A.frames = some l ∧ FrL l fs
theorem AOk.deeper {fs : List Addr} {d : Nat} {A : Around} (x : AOk fs (d + 1) A) {env : Env} {L : Addr} (hf : env.frame = some L) (hk : env.scope.kind ≠ .module) : AOk (L :: fs) d (A.deeper env) := by
  refine ⟨x.hd, ?_, ?_, ?_⟩
  · have := x.dep; show A.depth + 1 + _ + _ < _; omega
  · have := x.un; show A.units + 3 + _ + _ < _; omega
  · obtain ⟨l, e, q⟩ := x.fr
    refine ⟨env :: l, Around.frames_deeper e, ?_, fun e' m => ?_⟩
    · rw [List.map_cons, List.map_cons, q.at_, hf]
    · rcases List.mem_cons.mp m with rfl | m
      · exact hk
      · exact q.kind e' m
/-- what the world of a call is built on -/
structure Wd where
  prog : Program
  w : World
  C : Cls
  hb : HB
  K : Frag
  G : Str → Option Value
variable {wd : Wd}
structure Bd (wd : Wd) : Prop where
  glob : ∀ x v, wd.G x = some v → ∃ mg mb, wd.hb.heap.Ns mainGlobals mg ∧ wd.hb.heap.Ns builtinsNs mb ∧ (mg x = some v ∨ (mg x = none ∧ mb x = some v))
  lim : wd.hb.heap.NoLimit
  X : wd.K.In wd.hb.heap

/-- a tree that turns no name of the frame -/
def PG {α β : Type} (wd : Wd) (rel : List Addr → Heap → β → α → Prop) (d : Nat) (sc : Scope) (ν : Vars) (σ : List O) (t : Env → Sem α) (Q : β → List O → Prop) : Prop :=
  ∀ (A : Around) (env : Env) (φ : List Addr) (s : Shared), AOk wd.hb.fs d A → EnvR wd.C wd.hb.heap φ s.heap sc ν env → SR wd.C wd.hb φ s.heap σ →
    ∀ (R : α → Shared → Prop) (E : Value → Shared → Prop), (∀ b σ' φ' h' tk a, Q b σ' → Step noW φ s.heap φ' h' → SR wd.C wd.hb φ' h' σ' → rel φ' h' b a → R a { s with heap := h', toks := tk }) →
      wpAny (model wd.prog wd.w) A (t env) R E s
abbrev PV (wd : Wd) := PG (α := Value) (β := V) wd (VR wd.C)
abbrev PVs (wd : Wd) := PG (α := List Value) (β := List V) wd (VRs wd.C)
abbrev PB (wd : Wd) := PG (α := Bool) (β := Bool) wd (fun _ _ b a => a = b)

inductive Fl where
  | next
  | ret (v : V)
inductive FR (C : Cls) (φ : List Addr) (h : Heap) : Fl → Flow → Prop
  | next : FR C φ h .next .next
  | ret {v : V} {v' : Value} (r : VR C φ h v v') : FR C φ h (.ret v) (.ret v')
/-- a tree that may turn names -/
def PF (wd : Wd) (d : Nat) (sc : Scope) (ν : Vars) (σ : List O) (t : Env → Sem Flow) (Q : Fl → Vars → List O → Prop) : Prop :=
  ∀ (A : Around) (env : Env) (φ : List Addr) (s : Shared), AOk wd.hb.fs d A → EnvR wd.C wd.hb.heap φ s.heap sc ν env → SR wd.C wd.hb φ s.heap σ →
    ∀ (R : Flow → Shared → Prop) (E : Value → Shared → Prop), (∀ f ν' σ' φ' h' tk f', Q f ν' σ' → Step (WE env) φ s.heap φ' h' → SR wd.C wd.hb φ' h' σ' → EnvR wd.C wd.hb.heap φ' h' sc ν' env → FR wd.C φ' h' f f' → R f' { s with heap := h', toks := tk }) →
      wpAny (model wd.prog wd.w) A (t env) R E s
section
variable {d : Nat} {sc : Scope} {ν : Vars} {σ : List O} {Q Q' : V → List O → Prop}
theorem PG.mono {α β : Type} {rel : List Addr → Heap → β → α → Prop} {t : Env → Sem α} {Q Q' : β → List O → Prop} (h : PG wd rel d sc ν σ t Q) (q : ∀ b σ', Q b σ' → Q' b σ') : PG wd rel d sc ν σ t Q' :=
  fun A env φ s hA hE hS R E hR => h A env φ s hA hE hS R E fun b σ' φ' h' tk a hq => hR b σ' φ' h' tk a (q _ _ hq)
theorem PF.mono {t : Env → Sem Flow} {Q Q' : Fl → Vars → List O → Prop} (h : PF wd d sc ν σ t Q) (q : ∀ f ν' σ', Q f ν' σ' → Q' f ν' σ') : PF wd d sc ν σ t Q' :=
  fun A env φ s hA hE hS R E hR => h A env φ s hA hE hS R E fun f ν' σ' φ' h' tk f' hq => hR f ν' σ' φ' h' tk f' (q _ _ _ hq)

theorem PV.name {x : Str} {p : Pos} {v : V} (e : ν.lookup x = some v) (hq : Q v σ) (hd : (x == ("__debug__" : Str)) = false := by decide) (hn : (x == ("__classdict__" : Str)) = false := by decide) : PV wd d sc ν σ (eval (.Name x p)) Q := by
  intro A env φ s hA hE hS R E hR
  obtain ⟨m, n, hm⟩ := hE.ns
  obtain ⟨v', r, q⟩ := hm x v e
  have fin := hR v σ φ s.heap s.toks v' hq .refl hS r
  have hk : env.scope.kind = .function := by rw [hE.isSc]; exact hE.fk
  have ek : ∀ k, sc.names.lookup x = some k → env.kindOf x = some k := fun k q => by rw [← hE.isSc] at q; exact q
  rcases q with ⟨k, hx⟩ | ⟨k | k, c, hc, hv⟩
  · exact wpAny_Name (wpAny_loadName_local hk (ek _ k) n hx fin) hd
  · exact wpAny_Name (wpAny_loadName_cell hk (ek _ k) hc hv fin) hd
  · exact wpAny_Name (wpAny_loadName_free hk (ek _ k) hc hv fin hn) hd

theorem PV.cint {i : Int} {k : Nat} {p : Pos} (hq : Q (.int i) σ) : PV wd d sc ν σ (eval (.Constant (.int i) k p)) Q :=
  fun _ _ φ s _ _ hS _ _ hR => wpAny_Constant_int (hR _ σ φ s.heap _ _ hq .refl hS (.int i _))
theorem PV.cnone {k : Nat} {p : Pos} (hq : Q .none σ) : PV wd d sc ν σ (eval (.Constant .none k p)) Q :=
  fun _ _ φ s _ _ hS _ _ hR => wpAny_Constant_none (hR _ σ φ s.heap s.toks _ hq .refl hS .none)
theorem PV.cbool {b : Bool} {k : Nat} {p : Pos} (hq : Q (.bool b) σ) : PV wd d sc ν σ (eval (.Constant (.bool b) k p)) Q :=
  fun _ _ φ s _ _ hS _ _ hR => wpAny_Constant_bool (hR _ σ φ s.heap s.toks _ hq .refl hS (.bool b))
theorem PV.cstr {x : Str} {k : Nat} {p : Pos} (hq : Q (.str x) σ) : PV wd d sc ν σ (eval (.Constant (.str x) k p)) Q :=
  fun _ _ φ s _ _ hS _ _ hR => wpAny_Constant_str (hR _ σ φ s.heap _ _ hq .refl hS (.str x _))

/-- two values in turn -/
theorem PV.two {e₁ e₂ : Expr} {Q₂ : V → V → List O → Prop} {A : Around} {env : Env} {φ : List Addr} {s : Shared} {E : Value → Shared → Prop} {R : Value → Value → Shared → Prop}
    (h : PV wd d sc ν σ (eval e₁) fun a σ₁ => PV wd d sc ν σ₁ (eval e₂) fun b σ₂ => Q₂ a b σ₂)
    (hA : AOk wd.hb.fs d A) (hE : EnvR wd.C wd.hb.heap φ s.heap sc ν env) (hS : SR wd.C wd.hb φ s.heap σ)
    (hR : ∀ a b σ' φ' h' tk a' b', Q₂ a b σ' → Step noW φ s.heap φ' h' → SR wd.C wd.hb φ' h' σ' → VR wd.C φ' h' a a' → VR wd.C φ' h' b b' → R a' b' { s with heap := h', toks := tk }) :
    wpAny (model wd.prog wd.w) A (eval e₁ env) (fun a s₁ => wpAny (model wd.prog wd.w) A (eval e₂ env) (fun b s₂ => R a b s₂) E s₁) E s := by
  refine h A env φ s hA hE hS _ _ fun a σ₁ φ₁ h₁ tk₁ a' h2 x₁ S₁ ra => ?_
  refine h2 A env φ₁ _ hA (hE.step x₁) S₁ _ _ fun b σ₂ φ₂ h₂ tk₂ b' hq x₂ S₂ rb => ?_
  exact hR a b σ₂ φ₂ h₂ tk₂ a' b' hq (x₁.trans x₂) S₂ (ra.step x₂ hard_no) rb

inductive BinI : Operator → Int → Int → Int → Prop
  | add {a b : Int} : BinI .Add a b (a + b)
  | sub {a b : Int} : BinI .Sub a b (a - b)
  | mul {a b : Int} (h : IntMulOk a b) : BinI .Mult a b (a * b)
  | div {a b : Int} (h : 0 < b) (h2 : b < 1073741824) : BinI .FloorDiv a b (a / b)
  | mod {a b : Int} (h : 0 < b) : BinI .Mod a b (a % b)
  | band {a b : Int} : BinI .BitAnd a b (Builtin.bitAnd a b)
  | shr {a : Int} {n : Nat} : BinI .RShift a n (a.fdiv (2 ^ n))
  | pow {a : Int} {n : Nat} (h : (Builtin.Int.intBits a : Int) * n ≤ 2 ^ 27) : BinI .Pow a n (a ^ n)
theorem BinI.sound {op : Operator} {a b c : Int} {t u : Tok} {M : Program} {w : World} {A : Around} {s : Shared} {R : Value → Shared → Prop} {E : Value → Shared → Prop} (x : BinI op a b c) (h : ∀ tk tk', R (.int c tk) { s with toks := tk' }) :
    wpAny (model M w) A (binaryOp op (.int a t) (.int b u)) R E s := by
  cases x with
  | add => exact PyProof.Rows.add_int (h _ _)
  | sub => exact PyProof.Rows.sub_int (h _ _)
  | mul hm => exact PyProof.Rows.mul_int (h _ _) hm
  | div hb hb2 => exact PyProof.Rows.floordiv_int (by omega) (by rw [Int.fdiv_eq_ediv_of_nonneg _ (Int.le_of_lt hb)]; exact h _ _) (.inl (PyProof.noPylong_small (by omega)))
  | mod hb => exact PyProof.Rows.mod_int' (by omega) (by rw [Int.fmod_eq_emod_of_nonneg _ (Int.le_of_lt hb)]; exact h _ _)
  | band => exact PyProof.Rows.and_int (h _ _)
  | shr => exact PyProof.Rows.rshift_int (Int.natCast_nonneg _) (by rw [Int.toNat_natCast]; exact h _ _)
  | pow hz => exact PyProof.Rows.pow_int (Int.natCast_nonneg _) hz (by rw [Int.toNat_natCast]; exact h _ _)

theorem PV.bin {l r : Expr} {op : Operator} {p : Pos} (h : PV wd d sc ν σ (eval l) fun a σ₁ => PV wd d sc ν σ₁ (eval r) fun b σ₂ => ∃ i j k, a = .int i ∧ b = .int j ∧ BinI op i j k ∧ Q (.int k) σ₂) :
    PV wd d sc ν σ (eval (.BinOp l op r p)) Q := by
  intro A env φ s hA hE hS R E hR
  refine wpAny_BinOp (PV.two h hA hE hS fun a b σ' φ' h' tk a' b' hq x S ra rb => ?_)
  obtain ⟨i, j, k, rfl, rfl, hb, hq⟩ := hq
  obtain ⟨_, rfl⟩ := ra.int_inv
  obtain ⟨_, rfl⟩ := rb.int_inv
  exact hb.sound fun tk tk' => hR _ σ' φ' h' tk' _ hq x S (.int k tk)
end
end Mine
end
noncomputable section
open PySem PySem.W PyProof.Rows PySem.SeqAt
set_option Elab.async false
set_option genSizeOf false
set_option genInjectivity false
namespace Mine
variable {wd : Wd}

/-- two plain values that == may be asked of -/
inductive EqS : V → V → Bool → Prop
  | none : EqS .none .none true
  | bool (a b : Bool) : EqS (.bool a) (.bool b) (a == b)
  | int (a b : Int) : EqS (.int a) (.int b) (a == b)
  | str (a b : Str) : EqS (.str a) (.str b) (a == b)
inductive EqSs : List V → List V → Bool → Prop
  | nil : EqSs [] [] true
  | cons {a b : V} {l m : List V} {x y : Bool} (h : EqS a b x) (r : EqSs l m y) : EqSs (a :: l) (b :: m) (x && y)
inductive EqV : V → V → Bool → Prop
  | s {a b : V} {x : Bool} (h : EqS a b x) : EqV a b x
  | tup {l m : List V} {x : Bool} (h : EqSs l m x) : EqV (.tup l) (.tup m) x
inductive EqVs : List V → List V → Bool → Prop
  | nil : EqVs [] [] true
  | cons {a b : V} {l m : List V} {x y : Bool} (h : EqV a b x) (r : EqVs l m y) : EqVs (a :: l) (b :: m) (x && y)
inductive EqL : List V → List V → Bool → Prop
  | len {l m : List V} (h : l.length ≠ m.length) : EqL l m false
  | all {l m : List V} {x : Bool} (h : EqVs l m x) : EqL l m x

section
variable {C : Cls} {φ : List Addr} {s : Shared} {A : Around}
theorem EqS.sound {a b : V} {x : Bool} {a' b' : Value} (h : EqS a b x) (ra : VR C φ s.heap a a') (rb : VR C φ s.heap b b') : EqAt A s a' b' x ∧ RcAt A s a' b' x ∧ RcNeAt A s a' b' (!x) := by
  cases h with
  | none => obtain rfl := ra.none_inv; obtain rfl := rb.none_inv; exact ⟨.same _, .none_none, .none_none⟩
  | bool a b => obtain rfl := ra.bool_inv; obtain rfl := rb.bool_inv; exact ⟨.bool_bool a b, .bool_bool a b, .bool_bool a b⟩
  | int a b => obtain ⟨_, rfl⟩ := ra.int_inv; obtain ⟨_, rfl⟩ := rb.int_inv; exact ⟨.int_int a _ b _, .int_int a _ b _, .int_int a _ b _⟩
  | str a b => obtain ⟨_, rfl⟩ := ra.str_inv; obtain ⟨_, rfl⟩ := rb.str_inv; exact ⟨.str_str a _ b _, .str_str a _ b _, .str_str a _ b _⟩
theorem EqS.self {a b : V} {x : Bool} {v : Value} {h : Heap} (k : EqS a b x) (ra : VR C φ h a v) (rb : VR C φ h b v) : x = true := by
  cases k <;> cases ra <;> cases rb <;> simp
theorem EqSs.get {l m : List V} {x : Bool} (h : EqSs l m x) : l.length = m.length ∧ ∃ e : Nat → Bool, (∀ j a b, l[j]? = some a → m[j]? = some b → EqS a b (e j)) ∧ (List.range l.length).all e = x := by
  induction h with
  | nil => exact ⟨rfl, fun _ => true, fun j a b e => (by cases e), rfl⟩
  | @cons a b l m x y h r ih =>
    obtain ⟨hl, e, he, hx⟩ := ih
    refine ⟨by rw [List.length_cons, List.length_cons, hl], fun j => match j with | 0 => x | j + 1 => e j, fun j a' b' ea eb => ?_, ?_⟩
    · cases j with
      | zero => cases ea; cases eb; exact h
      | succ j => exact he j a' b' ea eb
    · rw [List.length_cons, List.range_succ_eq_map, List.all_cons, List.all_map, ← hx]; rfl
theorem EqVs.get {l m : List V} {x : Bool} (h : EqVs l m x) : l.length = m.length ∧ ∃ e : Nat → Bool, (∀ j a b, l[j]? = some a → m[j]? = some b → EqV a b (e j)) ∧ (List.range l.length).all e = x := by
  induction h with
  | nil => exact ⟨rfl, fun _ => true, fun j a b e => (by cases e), rfl⟩
  | @cons a b l m x y h r ih =>
    obtain ⟨hl, e, he, hx⟩ := ih
    refine ⟨by rw [List.length_cons, List.length_cons, hl], fun j => match j with | 0 => x | j + 1 => e j, fun j a' b' ea eb => ?_, ?_⟩
    · cases j with
      | zero => cases ea; cases eb; exact h
      | succ j => exact he j a' b' ea eb
    · rw [List.length_cons, List.range_succ_eq_map, List.all_cons, List.all_map, ← hx]; rfl
theorem VRs.at {l : List V} {vs : List Value} (r : VRs C φ s.heap l vs) {j : Nat} (h : j < vs.toArray.size) : ∃ v, l[j]? = some v ∧ VR C φ s.heap v vs.toArray[j] := by
  have hl := r.length
  have h' : j < vs.length := by simpa using h
  have e : l[j]? = some (l[j]'(by omega)) := List.getElem?_eq_getElem _
  obtain ⟨v', h1, h2⟩ := r.get e
  refine ⟨_, e, ?_⟩
  have : vs.toArray[j] = v' := by
    rw [List.getElem?_eq_getElem h'] at h1
    simpa using Option.some.inj h1
  rw [this]; exact h2
theorem EqV.sound {a b : V} {x : Bool} {a' b' : Value} (h : EqV a b x) (hu : A.units + 10 < cLine) (ra : VR C φ s.heap a a') (rb : VR C φ s.heap b b') : EqAt A s a' b' x := by
  cases h with
  | s h => exact (h.sound ra rb).1
  | @tup l m x h =>
    cases ra with
    | @tup _ p vs n e1 o1 r1 =>
      cases rb with
      | @tup _ q ws k e2 o2 r2 =>
        obtain ⟨hl, e, he, hx⟩ := h.get
        have hsz : vs.toArray.size = ws.toArray.size := by rw [List.size_toArray, List.size_toArray, ← r1.length, ← r2.length, hl]
        by_cases hpq : p = q
        · subst hpq
          rw [e1] at e2
          have hvw : vs = ws := by
            have := congrArg Obj.data (Option.some.inj e2)
            injection this with h1 _
            exact congrArg Array.toList h1
          subst hvw
          have hall : x = true := by
            rw [← hx, List.all_eq_true]
            intro j hj
            have hj' : j < l.length := List.mem_range.mp hj
            have hj2 : j < m.length := by omega
            have k1 : l[j]? = some (l[j]'hj') := List.getElem?_eq_getElem hj'
            have k2 : m[j]? = some (m[j]'hj2) := List.getElem?_eq_getElem hj2
            have k3 := he j _ _ k1 k2
            obtain ⟨v1, h1, h2⟩ := r1.get k1
            obtain ⟨v2, h3, h4⟩ := r2.get k2
            rw [h1] at h3; cases h3
            exact k3.self h2 h4
          rw [hall]; exact .same _
        · refine .of_refs hpq ?_
          have := RcAt.tuples (A := A) (s := s) (e := e) ⟨_, e1, rfl, _, rfl⟩ ⟨_, e2, rfl, _, rfl⟩ (by omega) fun j h1 h2 => by
            obtain ⟨u, hu1, hu2⟩ := r1.at h1
            obtain ⟨w, hw1, hw2⟩ := r2.at h2
            exact ((he j u w hu1 hw1).sound hu2 hw2).1
          rw [← hsz, Nat.min_self, List.size_toArray, ← r1.length, hx] at this
          rw [beq_self_eq_true, Bool.and_true] at this
          exact this
theorem EqL.sound {l m : List V} {x : Bool} {a b : Addr} {vs ws : List Value} (h : EqL l m x) (hu : A.units + 20 < cLine) (ha : s.heap.IsList a vs.toArray) (hb : s.heap.IsList b ws.toArray) (r1 : VRs C φ s.heap l vs) (r2 : VRs C φ s.heap m ws) :
    RcAt A s (.ref a) (.ref b) x ∧ RcNeAt A s (.ref a) (.ref b) (!x) := by
  cases h with
  | len h =>
    have hsz : (vs.toArray.size != ws.toArray.size) = true := by rw [List.size_toArray, List.size_toArray, ← r1.length, ← r2.length]; simpa using h
    exact ⟨.lists_lengths ha hb hsz (by omega), .lists_lengths ha hb hsz (by omega)⟩
  | all h =>
    obtain ⟨hl, e, he, hx⟩ := h.get
    have hsz : vs.toArray.size = ws.toArray.size := by rw [List.size_toArray, List.size_toArray, ← r1.length, ← r2.length, hl]
    have hh : ∀ j (h1 : j < vs.toArray.size) (h2 : j < ws.toArray.size), EqAt A.in1 s vs.toArray[j] ws.toArray[j] (e j) := fun j h1 h2 => by
      obtain ⟨u, hu1, hu2⟩ := r1.at h1
      obtain ⟨w, hw1, hw2⟩ := r2.at h2
      exact (he j u w hu1 hw1).sound (by show A.units + 1 + 10 < _; omega) hu2 hw2
    have h1 := RcAt.lists ha hb hsz (by omega) hh
    have h2 := RcNeAt.lists ha hb hsz (by omega) hh
    rw [List.size_toArray, ← r1.length, hx] at h1 h2
    exact ⟨h1, h2⟩
end

inductive CmpR (σ : List O) : CmpOp → V → V → Bool → Prop
  | lt (a b : Int) : CmpR σ .Lt (.int a) (.int b) (decide (a < b))
  | le (a b : Int) : CmpR σ .LtE (.int a) (.int b) (decide (a ≤ b))
  | gt (a b : Int) : CmpR σ .Gt (.int a) (.int b) (decide (b < a))
  | ge (a b : Int) : CmpR σ .GtE (.int a) (.int b) (decide (b ≤ a))
  | eq {a b : V} {x : Bool} (h : EqS a b x) : CmpR σ .Eq a b x
  | ne {a b : V} {x : Bool} (h : EqS a b x) : CmpR σ .NotEq a b (!x)
  | eqL {i j : Nat} {l m : List V} {x : Bool} (hi : σ[i]? = some (.list l)) (hj : σ[j]? = some (.list m)) (h : EqL l m x) : CmpR σ .Eq (.ref i) (.ref j) x
  | neL {i j : Nat} {l m : List V} {x : Bool} (hi : σ[i]? = some (.list l)) (hj : σ[j]? = some (.list m)) (h : EqL l m x) : CmpR σ .NotEq (.ref i) (.ref j) (!x)
  | isNone : CmpR σ .Is .none .none true
  | isNoneI (a : Int) : CmpR σ .Is (.int a) .none false
  | isNoneR (l : List V) (d : Nat) : CmpR σ .Is (.row l d) .none false
  | isNotNone : CmpR σ .IsNot .none .none false
  | isNotNoneI (a : Int) : CmpR σ .IsNot (.int a) .none true
  | mem {a : Int} {j : Nat} {ns : List Int} (hj : σ[j]? = some (.list (ns.map .int))) : CmpR σ .In (.int a) (.ref j) (ns.contains a)

theorem VRs.ints {C : Cls} {φ : List Addr} {h : Heap} {ns : List Int} {vs : List Value} (r : VRs C φ h (ns.map .int) vs) : ∀ y ∈ vs, ∃ n t, y = .int n t := by
  induction ns generalizing vs with
  | nil => cases r; intro y hy; cases hy
  | cons n ns ih =>
    cases r with
    | cons x r =>
      intro y hy
      rcases List.mem_cons.mp hy with rfl | hy
      · cases x; exact ⟨_, _, rfl⟩
      · exact ih r y hy
def isInt (a : Int) : Value → Bool
  | .int n _ => n == a
  | _ => false
theorem VRs.anyInt {C : Cls} {φ : List Addr} {h : Heap} {ns : List Int} {vs : List Value} (r : VRs C φ h (ns.map .int) vs) (a : Int) : vs.any (isInt a) = ns.contains a := by
  induction ns generalizing vs with
  | nil => cases r; rfl
  | cons n ns ih =>
    cases r with
    | cons x r =>
      cases x
      rw [List.any_cons, ih r, List.contains_cons]
      show (n == a || _) = (a == n || _)
      rw [Bool.beq_comm]

theorem CmpR.sound {op : CmpOp} {a b : V} {x : Bool} {a' b' : Value} {σ : List O} {φ : List Addr} {s : Shared} {A : Around} {d : Nat} {R : Value → Shared → Prop} {E : Value → Shared → Prop}
    (h : CmpR σ op a b x) (hA : AOk wd.hb.fs d A) (S : SR wd.C wd.hb φ s.heap σ) (ra : VR wd.C φ s.heap a a') (rb : VR wd.C φ s.heap b b') (hR : R (.bool x) s) : wpAny (model wd.prog wd.w) A (compareOp op a' b') R E s := by
  have hu : A.units + 1000 < cLine := by have := hA.un; omega
  cases h with
  | lt a b => obtain ⟨_, rfl⟩ := ra.int_inv; obtain ⟨_, rfl⟩ := rb.int_inv; exact PyProof.Rows.lt_int hR
  | le a b => obtain ⟨_, rfl⟩ := ra.int_inv; obtain ⟨_, rfl⟩ := rb.int_inv; exact PyProof.Rows.le_int hR
  | gt a b => obtain ⟨_, rfl⟩ := ra.int_inv; obtain ⟨_, rfl⟩ := rb.int_inv; exact PyProof.Rows.gt_int hR
  | ge a b => obtain ⟨_, rfl⟩ := ra.int_inv; obtain ⟨_, rfl⟩ := rb.int_inv; exact PyProof.Rows.ge_int hR
  | eq h => exact (h.sound ra rb).2.1 wd.prog wd.w E _ hR
  | ne h => exact (h.sound ra rb).2.2 wd.prog wd.w E _ hR
  | eqL hi hj h =>
    obtain ⟨_, rfl, ea⟩ := ra.ref_inv; obtain ⟨_, rfl, eb⟩ := rb.ref_inv
    obtain ⟨_, o1, g1, vs, n, rfl, r1⟩ := S.atRef ea hi
    obtain ⟨_, o2, g2, ws, m, rfl, r2⟩ := S.atRef eb hj
    exact (h.sound (by omega) ⟨_, g1, rfl, _, rfl⟩ ⟨_, g2, rfl, _, rfl⟩ r1 r2).1 wd.prog wd.w E _ hR
  | neL hi hj h =>
    obtain ⟨_, rfl, ea⟩ := ra.ref_inv; obtain ⟨_, rfl, eb⟩ := rb.ref_inv
    obtain ⟨_, o1, g1, vs, n, rfl, r1⟩ := S.atRef ea hi
    obtain ⟨_, o2, g2, ws, m, rfl, r2⟩ := S.atRef eb hj
    exact (h.sound (by omega) ⟨_, g1, rfl, _, rfl⟩ ⟨_, g2, rfl, _, rfl⟩ r1 r2).2 wd.prog wd.w E _ hR
  | isNone => obtain rfl := ra.none_inv; obtain rfl := rb.none_inv; exact is_none hR
  | isNoneI a => obtain ⟨_, rfl⟩ := ra.int_inv; obtain rfl := rb.none_inv; exact is_none hR
  | isNoneR l d => obtain ⟨_, _, _, _, rfl, _⟩ := ra.row_inv; obtain rfl := rb.none_inv; exact is_none hR
  | isNotNone => obtain rfl := ra.none_inv; obtain rfl := rb.none_inv; exact isNot_none hR
  | isNotNoneI a => obtain ⟨_, rfl⟩ := ra.int_inv; obtain rfl := rb.none_inv; exact isNot_none hR
  | @mem a j ns hj =>
    obtain ⟨t, rfl⟩ := ra.int_inv; obtain ⟨_, rfl, eb⟩ := rb.ref_inv
    obtain ⟨_, o2, g2, ws, m, rfl, r2⟩ := S.atRef eb hj
    refine in_listAt (isInt a) ⟨_, g2, rfl, _, rfl⟩ (fun y hy => ?_) ?_
    · obtain ⟨n, t, rfl⟩ := r2.ints y (by simpa using hy)
      exact EqAt.int_int n t a _
    · rw [List.any_toArray, r2.anyInt]; exact hR

section
variable {d : Nat} {sc : Scope} {ν : Vars} {σ : List O} {Q : V → List O → Prop} {T : Bool → List O → Prop}
theorem PV.cmp {l r : Expr} {op : CmpOp} {p : Pos} (h : PV wd d sc ν σ (eval l) fun a σ₁ => PV wd d sc ν σ₁ (eval r) fun b σ₂ => ∃ x, CmpR σ₂ op a b x ∧ Q (.bool x) σ₂) (hm : behindInMarks op r = false := by with_unfolding_all rfl) :
    PV wd d sc ν σ (eval (.Compare l [op] [r] p)) Q := by
  intro A env φ s hA hE hS R E hR
  refine wpAny_Compare1 (PV.two h hA hE hS fun a b σ' φ' h' tk a' b' hq x S ra rb => ?_) hm
  obtain ⟨y, hc, hq⟩ := hq
  exact hc.sound hA S ra rb (hR _ σ' φ' h' tk _ hq x S (.bool y))
theorem PB.cmp {l r : Expr} {op : CmpOp} {p : Pos} {t : Env → Sem Value} (h : PV wd d sc ν σ (eval l) fun a σ₁ => PV wd d sc ν σ₁ (eval r) fun b σ₂ => ∃ x, CmpR σ₂ op a b x ∧ T x σ₂) (hm : behindInMarks op r = false := by with_unfolding_all rfl) :
    PB wd d sc ν σ (fun env => isTrue (.Compare l [op] [r] p) env (t env)) T := by
  intro A env φ s hA hE hS R E hR
  refine wpAny_isTrue_Compare1 (PV.two h hA hE hS fun a b σ' φ' h' tk a' b' hq x S ra rb => ?_) hm
  obtain ⟨y, hc, hq⟩ := hq
  exact hc.sound hA S ra rb (wpAny_truthy_bool (hR _ σ' φ' h' tk _ hq x S rfl))
theorem PB.not {x : Expr} {p : Pos} {t : Env → Sem Value} (h : PB wd d sc ν σ (fun env => isTrue x env (eval x env)) fun b σ' => T (!b) σ') : PB wd d sc ν σ (fun env => isTrue (.UnaryOp .Not x p) env (t env)) T :=
  fun A env φ s hA hE hS R E hR => wpAny_isTrue_Not (h A env φ s hA hE hS _ _ fun b σ' φ' h' tk a hq x S e => hR (!b) σ' φ' h' tk (!a) hq x S (by rw [e]))
theorem PB.bools {op : BoolOp} {vs : List Expr} {p : Pos} {t : Env → Sem Value} (h : PB wd d sc ν σ (allTrue op vs) T) : PB wd d sc ν σ (fun env => isTrue (.BoolOp op vs p) env (t env)) T :=
  fun A env φ s hA hE hS R E hR => wpAny_isTrue_BoolOp (h A env φ s hA hE hS R E hR)
theorem PB.or_nil (h : T false σ) : PB wd d sc ν σ (allTrue .Or []) T := fun _ _ φ s _ _ hS _ _ hR => wpAny_allTrue_Or_nil (hR false σ φ s.heap s.toks _ h .refl hS rfl)
theorem PB.or_cons {x : Expr} {r : List Expr} (h : PB wd d sc ν σ (fun env => isTrue x env (eval x env)) fun b σ₁ => if b then T true σ₁ else PB wd d sc ν σ₁ (allTrue .Or r) T) : PB wd d sc ν σ (allTrue .Or (x :: r)) T := by
  intro A env φ s hA hE hS R E hR
  refine wpAny_allTrue_Or_cons (h A env φ s hA hE hS _ _ fun b σ₁ φ₁ h₁ tk a hq x₁ S₁ e => ?_)
  subst e
  cases a with
  | true => exact hR true σ₁ φ₁ h₁ tk true hq x₁ S₁ rfl
  | false => exact hq A env φ₁ _ hA (hE.step x₁) S₁ _ _ fun b σ₂ φ₂ h₂ tk₂ a hq x₂ S₂ e => hR b σ₂ φ₂ h₂ tk₂ a hq (x₁.trans x₂) S₂ e
/-- the truth of a bool -/
theorem PB.val {e : Expr} (h : PV wd d sc ν σ (eval e) fun v σ₁ => ∃ b, v = .bool b ∧ T b σ₁) (he : ∀ env whole, isTrue e env whole = (do let v ← whole; standAt e.pos; holding [v] (truthy v)) := by intro _ _; rfl) :
    PB wd d sc ν σ (fun env => isTrue e env (eval e env)) T := by
  intro A env φ s hA hE hS R E hR
  refine wpAny_isTrue_value (h A env φ s hA hE hS _ _ fun v σ₁ φ₁ h₁ tk a hq x₁ S₁ r => ?_) (he _ _)
  obtain ⟨b, rfl, hq⟩ := hq
  cases r
  exact wpAny_truthy_bool (hR b σ₁ φ₁ h₁ tk b hq x₁ S₁ rfl)
end

section
variable {d : Nat} {sc : Scope} {ν : Vars} {σ : List O} {Q : V → List O → Prop} {Qs : List V → List O → Prop}
abbrev items (es : List Expr) (p : Pos) (env : Env) : Sem (List Value) := spliced (backTo p (starEach es env))
theorem PVs.nil {p : Pos} (h : Qs [] σ) : PVs wd d sc ν σ (items [] p) Qs := fun _ _ φ s _ _ hS _ _ hR => wpAny_items_nil (hR [] σ φ s.heap s.toks _ h .refl hS .nil)
theorem PVs.cons {e : Expr} {r : List Expr} {p : Pos} (h : PV wd d sc ν σ (eval e) fun v σ₁ => PVs wd d sc ν σ₁ (items r p) fun l σ₂ => Qs (v :: l) σ₂) (he : ∀ env, starEach (e :: r) env = (false, eval e env) :: starEach r env := by intro _; rfl) : PVs wd d sc ν σ (items (e :: r) p) Qs := by
  intro A env φ s hA hE hS R E hR
  refine wpAny_items_cons (h A env φ s hA hE hS _ _ fun v σ₁ φ₁ h₁ tk a hq x₁ S₁ ra => ?_) (he env)
  exact hq A env φ₁ _ hA (hE.step x₁) S₁ _ _ fun l σ₂ φ₂ h₂ tk₂ vs hq x₂ S₂ rs => hR (v :: l) σ₂ φ₂ h₂ tk₂ (a :: vs) hq (x₁.trans x₂) S₂ (.cons (ra.step x₂ hard_no) rs)

theorem get_size_none (h : Heap) : h.get? h.objs.size = none := by
  cases q : h.get? h.objs.size with
  | none => rfl
  | some o => exact absurd (Heap.lt_size q) (Nat.lt_irrefl _)
/-- a new object of the store -/
theorem SR.push {C : Cls} {hb : HB} {h : Heap} {φ : List Addr} {σ : List O} (S : SR C hb φ h σ) (ob : Obj) (o : O) (hf : ob.isFreed = false) (r : OR C (φ ++ [h.objs.size]) (h.push ob) o ob) :
    Step noW φ h (φ ++ [h.objs.size]) (h.push ob) ∧ SR C hb (φ ++ [h.objs.size]) (h.push ob) (σ ++ [o]) ∧ VR C (φ ++ [h.objs.size]) (h.push ob) (.ref σ.length) (.ref h.objs.size) := by
  obtain ⟨x, S'⟩ := S.add (get_size_none h) (fun b o e => Heap.get?_push_of_some _ e) (Heap.get?_push_size _ hf) r
  refine ⟨x, S', .ref ?_⟩
  rw [← S.len, List.getElem?_append_right (Nat.le_refl _), Nat.sub_self]; rfl
/-- a new object that is none of the store's -/
theorem Step.pushed {φ : List Addr} {h : Heap} (ob : Obj) : Step noW φ h φ (h.push ob) := ⟨List.prefix_refl _, fun _ ha => .inl ha, fun _ o e _ => ⟨o, Heap.get?_push_of_some _ e⟩, fun _ _ e _ _ => .inl (Heap.get?_push_of_some _ e)⟩
theorem SR.pushed {C : Cls} {hb : HB} {h : Heap} {φ : List Addr} {σ : List O} (S : SR C hb φ h σ) (ob : Obj) : SR C hb φ (h.push ob) σ := S.same (Step.pushed ob) hard_no (fun _ _ _ e => Heap.get?_push_of_some _ e) (fun _ _ _ e => Heap.get?_push_of_some _ e) (fun _ _ o e d => ⟨o, Heap.get?_push_of_some _ e, d⟩)
theorem VR.fresh {C : Cls} {hb : HB} {h : Heap} {φ : List Addr} {σ : List O} (S : SR C hb φ h σ) : h.objs.size ∉ φ := fun m => by
  obtain ⟨o, e⟩ := S.hold m
  rw [get_size_none] at e; cases e

theorem PV.tuple {es : List Expr} {k : Nat} {p : Pos} (h : PVs wd d sc ν σ (items es p) fun l σ₁ => l.length ≤ 1000 ∧ Q (.tup l) σ₁) : PV wd d sc ν σ (eval (.Tuple es k p)) Q := by
  intro A env φ s hA hE hS R E hR
  refine wpAny_Tuple (h A env φ s hA hE hS _ _ fun l σ₁ φ₁ h₁ tk vs hq x₁ S₁ rs => ?_)
  refine ⟨by rw [sizeLine_eq, ← rs.length]; omega, ?_⟩
  have x₂ := Step.pushed (φ := φ₁) (h := h₁) { cls := .type "tuple", data := .seq vs.toArray }
  exact hR _ σ₁ φ₁ _ tk _ hq.2 (x₁.trans x₂) (S₁.pushed _) (.tup (Heap.get?_push_size _ rfl) (VR.fresh S₁) (rs.step x₂ hard_no))
theorem PV.list {es : List Expr} {p : Pos} (h : PVs wd d sc ν σ (items es p) fun l σ₁ => l.length ≤ 1000 ∧ Q (.ref σ₁.length) (σ₁ ++ [.list l])) : PV wd d sc ν σ (eval (.List es p)) Q := by
  intro A env φ s hA hE hS R E hR
  refine wpAny_List (h A env φ s hA hE hS _ _ fun l σ₁ φ₁ h₁ tk vs hq x₁ S₁ rs => ?_)
  refine ⟨by rw [sizeLine_eq, ← rs.length]; omega, ?_⟩
  have x₂ : Step noW φ₁ h₁ (φ₁ ++ [h₁.objs.size]) (h₁.push (listObj vs 0)) := by
    refine ⟨⟨_, rfl⟩, fun b m => ?_, fun b o' eb _ => ⟨o', Heap.get?_push_of_some _ eb⟩, fun b o' eb _ _ => .inl (Heap.get?_push_of_some _ eb)⟩
    rcases List.mem_append.mp m with m | m
    · exact .inl m
    · rw [List.mem_singleton.mp m]; exact .inr ⟨get_size_none _, id⟩
  obtain ⟨x₂, S₂, r⟩ := S₁.push (listObj vs 0) (.list l) rfl ⟨vs, 0, rfl, rs.step x₂ hard_no⟩
  exact hR _ _ _ _ tk _ hq.2 (x₁.trans x₂) S₂ r
end
end Mine
end
noncomputable section
open PySem PySem.W PyProof.Rows PySem.SeqAt
set_option Elab.async false
set_option genSizeOf false
set_option genInjectivity false
namespace Mine
variable {wd : Wd}

/-- the place that an index names, as Python counts -/
def place (i : Int) (n : Nat) : Option Nat :=
  let j := if i < 0 then i + n else i
  if 0 ≤ j ∧ j < n then some j.toNat else none
def cl (n : Nat) (i : Int) : Nat := if i < 0 then (i + n).toNat else min i.toNat n
def cut {α : Type} (l : List α) (lo hi : Option Int) : List α :=
  (l.drop ((lo.map (cl l.length)).getD 0)).take ((hi.map (cl l.length)).getD l.length - (lo.map (cl l.length)).getD 0)

theorem pick_cut (vs : List Value) (lo hi : Option Int) : slicePick vs.toArray lo hi none = (cut vs lo hi).toArray := by
  have hlo : ∃ a : Nat, a = (lo.map (cl vs.length)).getD 0 := ⟨_, rfl⟩
  have hhi : ∃ b : Nat, b = (hi.map (cl vs.length)).getD vs.length := ⟨_, rfl⟩
  obtain ⟨a, ha⟩ := hlo
  obtain ⟨b, hb⟩ := hhi
  have e : sliceBounds lo hi none vs.toArray.size = ((a : Int), (b : Int), 1) := by
    rw [List.size_toArray]
    unfold sliceBounds
    subst ha hb
    cases lo <;> cases hi <;> simp only [Option.getD_none, Option.map_none, Option.map_some, Option.getD_some, cl, Int.reduceGT, if_true, Prod.mk.injEq, and_true] <;> (repeat' constructor) <;> (try split) <;> omega
  rw [kmk_pick_nat _ e, ha, hb]
  rfl

section
variable {C : Cls} {hb : HB} {h : Heap} {φ : List Addr} {σ : List O}
theorem VRs.cut {l : List V} {vs : List Value} (r : VRs C φ h l vs) (lo hi : Option Int) : VRs C φ h (Mine.cut l lo hi) (Mine.cut vs lo hi) := by
  unfold Mine.cut
  rw [r.length]
  exact (r.drop _).take _
theorem SR.stepOf (_ : SR C hb φ h σ) (ob : Obj) (_ : ob.isFreed = false) : Step noW φ h (φ ++ [h.objs.size]) (h.push ob) := by
  refine ⟨⟨_, rfl⟩, fun b m => ?_, fun b o' eb _ => ⟨o', Heap.get?_push_of_some _ eb⟩, fun b o' eb _ _ => .inl (Heap.get?_push_of_some _ eb)⟩
  rcases List.mem_append.mp m with m | m
  · exact .inl m
  · rw [List.mem_singleton.mp m]; exact .inr ⟨get_size_none _, id⟩
theorem upd_list {a : Addr} {vs ws : List Value} {n : Nat} (e : h.get? a = some (listObj vs n)) (f : Array Value → Array Value) (hf : (f vs.toArray) = ws.toArray) :
    ∃ k, (h.update a (Obj.mapSeq f)).get? a = some (listObj ws k) := by
  have := Heap.get?_update_self (Obj.mapSeq f) e rfl
  refine ⟨if ws.toArray.size == vs.toArray.size then n else n + 1, this.trans ?_⟩
  show some (Obj.mk _ _ (Data.seq (f vs.toArray) (if (f vs.toArray).size == vs.toArray.size then n else n + 1)) _) = _
  rw [hf]
/-- a list of the store turned in place -/
theorem SR.turn (S : SR C hb φ h σ) {i : Nat} {a : Addr} {vs ws : List Value} {m : List V} {n : Nat} (ea : φ[i]? = some a) (e : h.get? a = some (listObj vs n)) (f : Array Value → Array Value) (hf : f vs.toArray = ws.toArray) (r : VRs C φ h m ws) :
    Step noW φ h φ (h.update a (Obj.mapSeq f)) ∧ SR C hb φ (h.update a (Obj.mapSeq f)) (σ.set i (.list m)) := by
  obtain ⟨k, g⟩ := upd_list e f hf
  have ma := List.mem_of_getElem? ea
  have x : Step noW φ h φ (h.update a (Obj.mapSeq f)) := by
    have hs : Heap.SameBut a h (h.update a (Obj.mapSeq f)) := Heap.SameBut.update ..
    refine ⟨List.prefix_refl _, fun _ q => .inl q, fun b o' eb _ => ?_, fun b o' eb n _ => .inl ((hs.2 b fun q => n (q ▸ ma)).trans eb)⟩
    by_cases q : b = a
    · subst q; exact ⟨_, g⟩
    · exact ⟨o', (hs.2 b q).trans eb⟩
  exact S.put ea (Heap.SameBut.update ..) g ⟨ws, k, rfl, r.step x hard_no⟩
theorem SR.listAt (S : SR C hb φ h σ) {i : Nat} {a : Addr} {l : List V} (ea : φ[i]? = some a) (e : σ[i]? = some (.list l)) : ∃ vs n, h.get? a = some (listObj vs n) ∧ VRs C φ h l vs := by
  obtain ⟨_, ob, g, vs, n, rfl, r⟩ := S.atRef ea e
  exact ⟨vs, n, g, r⟩
end

section
variable {d : Nat} {sc : Scope} {ν : Vars} {σ : List O} {Q : V → List O → Prop}

/-- an item of a list or of a tuple -/
inductive ItemR (σ : List O) : V → Int → V → Prop
  | list {i : Nat} {l : List V} {k : Int} {j : Nat} {v : V} (hi : σ[i]? = some (.list l)) (hj : place k l.length = some j) (hv : l[j]? = some v) (hk : -(2 ^ 63) ≤ k ∧ k < 2 ^ 63) : ItemR σ (.ref i) k v
  | tup {l : List V} {k : Int} {j : Nat} {v : V} (hj : place k l.length = some j) (hv : l[j]? = some v) (hk : -(2 ^ 63) ≤ k ∧ k < 2 ^ 63) : ItemR σ (.tup l) k v

theorem place_seq (k : Int) (n : Nat) : seqIndex? k n = place k n := by
  unfold seqIndex? place
  simp only [Bool.and_eq_true, decide_eq_true_eq]
theorem PV.item {e s : Expr} {p : Pos} (h : PV wd d sc ν σ (eval e) fun a σ₁ => PV wd d sc ν σ₁ (eval s) fun b σ₂ => ∃ k v, b = .int k ∧ ItemR σ₂ a k v ∧ Q v σ₂)
    (hs : ∀ o i, subscripted s false o i = operate [o, i] (getItem o i) := by intro _ _; rfl) : PV wd d sc ν σ (eval (.Subscript e s p)) Q := by
  intro A env φ st hA hE hS R E hR
  refine Subscript_ (PV.two h hA hE hS fun a b σ' φ' h' tk a' b' hq x S ra rb => ?_)
  obtain ⟨k, v, rfl, hi, hq⟩ := hq
  obtain ⟨t, rfl⟩ := rb.int_inv
  cases hi with
  | @list i l k j v hi hj hv hk =>
    obtain ⟨adr, rfl, ea⟩ := ra.ref_inv
    obtain ⟨vs, n, g, r⟩ := S.listAt ea hi
    obtain ⟨v', hv', rv⟩ := r.get hv
    have hl : Heap.IsList h' adr vs.toArray := ⟨_, g, rfl, _, rfl⟩
    have fin := hR v σ' φ' h' tk v' hq x S rv
    refine tail_any (T := "list") ⟨_, g, rfl⟩ slot_list_getitem.lookup ?_ (hs _ _)
    unfold place at hj
    have hlen := r.length
    by_cases hneg : k < 0
    · simp only [hneg, if_true] at hj
      split at hj
      · rename_i hb
        cases hj
        exact wpAny_getItem_list_neg hl hneg (by rw [List.size_toArray]; omega) hk.1 (by rw [List.size_toArray, ← hlen]; simpa using hv') fin
      · cases hj
    · simp only [hneg, if_false] at hj
      split at hj
      · cases hj
        exact wpAny_getItem_list hl (by omega) hk.2 (by simpa using hv') fin
      · cases hj
  | @tup l k j v hj hv hk =>
    obtain ⟨adr, vs, n, rfl, g, off, r⟩ := ra.tup_inv
    obtain ⟨v', hv', rv⟩ := r.get hv
    have fin := hR v σ' φ' h' tk v' hq x S rv
    exact item_tupleT (l := vs) (j := j) ⟨_, g, rfl, _, rfl⟩ hk.1 hk.2 (by rw [place_seq, ← r.length]; exact hj) hv' fin (hs _ _)

theorem PV.part {x : Option Expr} (h : match x with | none => Q .none σ | some e => PV wd d sc ν σ (eval e) Q) : PV wd d sc ν σ (PySem.evalPart x) Q := by
  cases x with
  | none => exact fun _ _ φ s _ _ hS _ _ hR => wpAny_of_eq (evalPart_none _) (hR .none σ φ s.heap s.toks _ h .refl hS .none)
  | some e => exact fun A env φ s hA hE hS R E hR => by rw [evalPart_some]; exact h A env φ s hA hE hS R E hR
inductive PartR : V → Option Int → Prop
  | none : PartR .none none
  | int (i : Int) : PartR (.int i) (some i)
theorem PartR.is {C : Cls} {φ : List Addr} {h : Heap} {v : V} {o : Option Int} {v' : Value} (x : PartR v o) (r : VR C φ h v v') : IsPart v' o := by
  cases x with
  | none => cases r; exact .none
  | int i => cases r; exact .int i _
theorem wp_slice {M : Model} {A : Around} {lo hi : Option Expr} {q : Pos} {env : Env} {s : Shared} {R : Value → Shared → Prop} {E : Value → Shared → Prop}
    (h : wpAny M A (evalPart lo env) (fun vl s₁ => wpAny M A (evalPart hi env) (fun vu s₂ => R (.ref s₂.heap.objs.size) { s₂ with heap := s₂.heap.push { cls := .type "slice", data := .fields #[vl, vu, .none] } }) E s₁) E s) :
    wpAny M A (eval (.Slice lo hi none q) env) R E s := by
  rw [arm_eval_Slice]
  refine wpAny_bind (wpAny_mono h (fun vl s₁ h₁ => wpAny_bind (wpAny_holding (wpAny_mono h₁ (fun vu s₂ h₂ => ?_) fun _ _ x => x))) fun _ _ x => x)
  exact wpAny_bind (wpAny_holding (wpAny_pure (wpAny_newObj_type h₂)))
theorem PV.slice {e : Expr} {lo hi : Option Expr} {p q : Pos} (h : PV wd d sc ν σ (eval e) fun a σ₁ => PV wd d sc ν σ₁ (evalPart lo) fun b σ₂ => PV wd d sc ν σ₂ (evalPart hi) fun c σ₃ => ∃ i l x y, a = .ref i ∧ σ₃[i]? = some (.list l) ∧ l.length ≤ 1000000 ∧ PartR b x ∧ PartR c y ∧ Q (.ref σ₃.length) (σ₃ ++ [.list (cut l x y)])) :
    PV wd d sc ν σ (eval (.Subscript e (.Slice lo hi none q) p)) Q := by
  intro A env φ st hA hE hS R E hR
  refine Subscript_ (h A env φ st hA hE hS _ _ fun a σ₁ φ₁ h₁ tk₁ a' hq x₁ S₁ ra => ?_)
  refine wp_slice (hq A env φ₁ _ hA (hE.step x₁) S₁ _ _ fun b σ₂ φ₂ h₂ tk₂ b' hq x₂ S₂ rb => ?_)
  refine hq A env φ₂ _ hA ((hE.step x₁).step x₂) S₂ _ _ fun c σ₃ φ₃ h₃ tk₃ c' hq x₃ S₃ rc => ?_
  obtain ⟨i, l, x, y, rfl, hl, hz, hx, hy, hq⟩ := hq
  replace ra := (ra.step x₂ hard_no).step x₃ hard_no
  replace rb := rb.step x₃ hard_no
  obtain ⟨adr, rfl, ea⟩ := ra.ref_inv
  obtain ⟨vs, n, g, r⟩ := S₃.listAt ea hl
  have x₄ := Step.pushed (φ := φ₃) (h := h₃) { cls := .type "slice", data := .fields #[b', c', .none] }
  have S₄ := S₃.pushed { cls := .type "slice", data := .fields #[b', c', .none] }
  have g₄ := Heap.get?_push_of_some ({ cls := .type "slice", data := .fields #[b', c', .none] } : Obj) g
  have hsz : vs.toArray.size ≤ sizeLine := by rw [List.size_toArray, ← r.length, sizeLine_eq]; omega
  refine tail_any (T := "list") (ops := [.ref h₃.objs.size, .ref adr]) ⟨_, g₄, rfl⟩ slot_list_getitem.lookup ?_ rfl
  refine wpAny_getItem_list_slice ⟨_, g₄, rfl, _, rfl⟩ ⟨_, Heap.get?_push_size _ rfl, rfl, rfl⟩ (hx.is rb) (hy.is rc) .none (fun e => nomatch e) ?_ hsz
  rw [pick_cut]
  obtain ⟨x₅, S₅, r₅⟩ := S₄.push (listObj (cut vs x y) 0) (.list (cut l x y)) rfl ⟨_, 0, rfl, ((r.cut x y).step x₄ hard_no).step (S₄.stepOf (listObj (cut vs x y) 0) rfl) hard_no⟩
  exact hR _ _ _ _ tk₃ _ hq ((((x₁.trans x₂).trans x₃).trans x₄).trans x₅) S₅ r₅
/-- a list that only stands to be read -/
theorem PV.sliceX {e : Expr} {lo hi : Option Expr} {p q : Pos} (h : PV wd d sc ν σ (eval e) fun a σ₁ => PV wd d sc ν σ₁ (evalPart lo) fun b σ₂ => PV wd d sc ν σ₂ (evalPart hi) fun c σ₃ => ∃ l x y, a = .lst l ∧ l.length ≤ 1000000 ∧ PartR b x ∧ PartR c y ∧ Q (.ref σ₃.length) (σ₃ ++ [.list (cut l x y)])) :
    PV wd d sc ν σ (eval (.Subscript e (.Slice lo hi none q) p)) Q := by
  intro A env φ st hA hE hS R E hR
  refine Subscript_ (h A env φ st hA hE hS _ _ fun a σ₁ φ₁ h₁ tk₁ a' hq x₁ S₁ ra => ?_)
  refine wp_slice (hq A env φ₁ _ hA (hE.step x₁) S₁ _ _ fun b σ₂ φ₂ h₂ tk₂ b' hq x₂ S₂ rb => ?_)
  refine hq A env φ₂ _ hA ((hE.step x₁).step x₂) S₂ _ _ fun c σ₃ φ₃ h₃ tk₃ c' hq x₃ S₃ rc => ?_
  obtain ⟨l, x, y, rfl, hz, hx, hy, hq⟩ := hq
  replace ra := (ra.step x₂ hard_no).step x₃ hard_no
  replace rb := rb.step x₃ hard_no
  obtain ⟨adr, vs, n, rfl, g, off, r⟩ := ra.lst_inv
  have x₄ := Step.pushed (φ := φ₃) (h := h₃) { cls := .type "slice", data := .fields #[b', c', .none] }
  have S₄ := S₃.pushed { cls := .type "slice", data := .fields #[b', c', .none] }
  have g₄ := Heap.get?_push_of_some ({ cls := .type "slice", data := .fields #[b', c', .none] } : Obj) g
  have hsz : vs.toArray.size ≤ sizeLine := by rw [List.size_toArray, ← r.length, sizeLine_eq]; omega
  refine tail_any (T := "list") (ops := [.ref h₃.objs.size, .ref adr]) ⟨_, g₄, rfl⟩ slot_list_getitem.lookup ?_ rfl
  refine wpAny_getItem_list_slice ⟨_, g₄, rfl, _, rfl⟩ ⟨_, Heap.get?_push_size _ rfl, rfl, rfl⟩ (hx.is rb) (hy.is rc) .none (fun e => nomatch e) ?_ hsz
  rw [pick_cut]
  obtain ⟨x₅, S₅, r₅⟩ := S₄.push (listObj (cut vs x y) 0) (.list (cut l x y)) rfl ⟨_, 0, rfl, ((r.cut x y).step x₄ hard_no).step (S₄.stepOf (listObj (cut vs x y) 0) rfl) hard_no⟩
  exact hR _ _ _ _ tk₃ _ hq ((((x₁.trans x₂).trans x₃).trans x₄).trans x₅) S₅ r₅
end
end Mine
end
noncomputable section
open PySem PySem.W PyProof.Rows PySem.SeqAt
set_option Elab.async false
set_option genSizeOf false
set_option genInjectivity false
namespace Mine
variable {wd : Wd}

/-- a call of a value upon values -/
def CallR (wd : Wd) (d : Nat) (f : Value) (l : List V) (σ : List O) (Q : V → List O → Prop) : Prop :=
  ∀ (A : Around) (φ : List Addr) (s : Shared) (vs : List Value), AOk wd.hb.fs d A → SR wd.C wd.hb φ s.heap σ → VRs wd.C φ s.heap l vs →
    ∀ (R : Value → Shared → Prop) (E : Value → Shared → Prop), (∀ b σ' φ' h' tk a, Q b σ' → Step noW φ s.heap φ' h' → SR wd.C wd.hb φ' h' σ' → VR wd.C φ' h' b a → R a { s with heap := h', toks := tk }) →
      wpAny (model wd.prog wd.w) A (call f vs) R E s

section
variable {d : Nat} {sc : Scope} {ν : Vars} {σ : List O} {Q : V → List O → Prop}
theorem wp_glob (B : Bd wd) {A : Around} {env : Env} {φ : List Addr} {s : Shared} {R : Value → Shared → Prop} {E : Value → Shared → Prop} {x : Str} {p : Pos} {v : Value}
    (hE : EnvR wd.C wd.hb.heap φ s.heap sc ν env) (hS : SR wd.C wd.hb φ s.heap σ) (e : wd.G x = some v) (hx : sc.names.lookup x = some .globalImplicit) (hd : (x == ("__debug__" : Str)) = false) (h : R v s) :
    wpAny (model wd.prog wd.w) A (eval (.Name x p) env) R E s := by
  obtain ⟨mg, mb, hg, hb, q⟩ := B.glob x v e
  have hk : env.scope.kind = .function := by rw [hE.isSc]; exact hE.fk
  have hx' : env.kindOf x = some .globalImplicit := by rw [← hE.isSc] at hx; exact hx
  have hg' : s.heap.Ns env.globals mg := by rw [hE.gl]; exact hg.keeps hS.base
  have hb' : s.heap.Ns env.builtins mb := by rw [hE.bi]; exact hb.keeps hS.base
  refine Calls.Name_function_global hk hx' ?_ hd
  rcases q with q | ⟨q, q'⟩
  · exact Calls.loadGlobal_global hg' q h
  · exact Calls.loadGlobal_builtin hg' q hb' q' h

theorem PV.callB (B : Bd wd) {f : Str} {id : String} {e : Expr} {rest : List Expr} {p p' : Pos} (hG : wd.G f = some (.builtin id)) (hx : sc.names.lookup f = some .globalImplicit)
    (h : PVs wd d sc ν σ (items (e :: rest) p) fun l σ₁ => CallR wd d (.builtin id) l σ₁ Q) (hd : (f == ("__debug__" : Str)) = false := by decide)
    (he : ∀ env, starEach (e :: rest) env = (false, eval e env) :: starEach rest env := by intro _; rfl) (hp : ∀ env, (backTo p (starEach rest env)).any (·.1) = false := by intro _; rfl)
    (hc : ∀ env, eval (.Call (.Name f p') (e :: rest) [] p) env = (do callWith p (← eval (.Name f p') env) [] (backTo p (starEach (e :: rest) env)) (backToKw p (keywordEach [] env))) := by intro _; rfl) : PV wd d sc ν σ (eval (.Call (.Name f p') (e :: rest) [] p)) Q := by
  intro A env φ s hA hE hS R E hR
  refine PyProof.Rows.Call_ (wp_glob B hE hS hG hx hd ?_) (hc env)
  refine PyProof.Rows.callWith_builtin1 (h A env φ s hA hE hS _ _ fun l σ₁ φ₁ h₁ tk vs hq x S rs => ?_) (he env) (hp env)
  exact hq A φ₁ _ vs hA S rs _ _ fun b σ₂ φ₂ h₂ tk₂ a hq x₂ S₂ r => hR b σ₂ φ₂ h₂ tk₂ a hq (x.trans x₂) S₂ r
theorem PV.callT (B : Bd wd) {f : Str} {T : String} {e : Expr} {rest : List Expr} {p p' : Pos} (hG : wd.G f = some (.type T)) (hx : sc.names.lookup f = some .globalImplicit)
    (h : PVs wd d sc ν σ (items (e :: rest) p) fun l σ₁ => CallR wd d (.type T) l σ₁ Q) (hd : (f == ("__debug__" : Str)) = false := by decide)
    (he : ∀ env, starEach (e :: rest) env = (false, eval e env) :: starEach rest env := by intro _; rfl) (hp : ∀ env, (backTo p (starEach rest env)).any (·.1) = false := by intro _; rfl)
    (hc : ∀ env, eval (.Call (.Name f p') (e :: rest) [] p) env = (do callWith p (← eval (.Name f p') env) [] (backTo p (starEach (e :: rest) env)) (backToKw p (keywordEach [] env))) := by intro _; rfl) : PV wd d sc ν σ (eval (.Call (.Name f p') (e :: rest) [] p)) Q := by
  intro A env φ s hA hE hS R E hR
  refine PyProof.Rows.Call_ (wp_glob B hE hS hG hx hd ?_) (hc env)
  refine PyProof.Rows.callWith_type1 (h A env φ s hA hE hS _ _ fun l σ₁ φ₁ h₁ tk vs hq x S rs => ?_) (he env) (hp env)
  exact hq A φ₁ _ vs hA S rs _ _ fun b σ₂ φ₂ h₂ tk₂ a hq x₂ S₂ r => hR b σ₂ φ₂ h₂ tk₂ a hq (x.trans x₂) S₂ r
/-- a name of the top as an argument (a class) -/
theorem PV.gty (B : Bd wd) {x : Str} {p : Pos} {T : String} (hG : wd.G x = some (.type T)) (hx : sc.names.lookup x = some .globalImplicit) (hq : Q (.ty T) σ) (hd : (x == ("__debug__" : Str)) = false := by decide) : PV wd d sc ν σ (eval (.Name x p)) Q :=
  fun _ _ φ s _ hE hS _ _ hR => wp_glob B hE hS hG hx hd (hR _ σ φ s.heap s.toks _ hq .refl hS (.ty T))
theorem PV.gecls (B : Bd wd) {x : Str} {p : Pos} (hG : wd.G x = some (.ref wd.C.EC)) (hx : sc.names.lookup x = some .globalImplicit) (hq : Q .ecls σ) (hd : (x == ("__debug__" : Str)) = false := by decide) : PV wd d sc ν σ (eval (.Name x p)) Q :=
  fun _ _ φ s _ hE hS _ _ hR => wp_glob B hE hS hG hx hd (hR _ σ φ s.heap s.toks _ hq .refl hS .ecls)
theorem CallR.isBool {b : Bool} (hq : Q (.bool true) σ) : CallR wd d (.builtin "isinstance") [.bool b, .ty "bool"] σ Q := by
  intro A φ s vs hA hS rs R E hR
  obtain ⟨_, _, rfl, r, rs⟩ := rs.cons_inv; obtain ⟨_, _, rfl, r', rs⟩ := rs.cons_inv; obtain rfl := rs.nil_inv; obtain rfl := r.bool_inv; obtain rfl := r'.ty_inv
  exact call_isinstance_yes (Tx := "bool") (PySem.typeIs_bool s b) (by kernel_rfl) (by rw [isSubtype_type]; kernel_rfl) (hR _ σ φ s.heap s.toks _ hq .refl hS (.bool _))
theorem CallR.len {i : Nat} {l : List V} (hi : σ[i]? = some (.list l)) (hz : l.length ≤ 1000000) (hq : Q (.int l.length) σ) : CallR wd d (.builtin "len") [.ref i] σ Q := by
  intro A φ s vs hA hS rs R E hR
  obtain ⟨_, _, rfl, r, rs⟩ := rs.cons_inv; obtain rfl := rs.nil_inv; obtain ⟨_, rfl, ea⟩ := r.ref_inv
  obtain ⟨vs, n, g, r⟩ := hS.listAt ea hi
  have hl := r.length
  refine PyProof.Rows.len_list ⟨_, g, rfl, _, rfl⟩ (by rw [List.size_toArray]; omega) ?_
  rw [List.size_toArray, ← hl]
  exact hR _ σ φ s.heap _ _ hq .refl hS (.int _ _)
theorem CallR.range1 {b : Int} (hq : Q (.range 0 b 1) σ) : CallR wd d (.type "range") [.int b] σ Q := by
  intro A φ s vs hA hS rs R E hR
  obtain ⟨_, _, rfl, r, rs⟩ := rs.cons_inv; obtain rfl := rs.nil_inv; obtain ⟨t, rfl⟩ := r.int_inv
  exact call_range_1 (hR _ σ φ _ _ _ hq (Step.pushed _) (hS.pushed _) (.range (Heap.get?_push_size _ rfl) (VR.fresh hS)))
theorem VRs.intsAre {C : Cls} {φ : List Addr} {h : Heap} {ns : List Int} {vs : List Value} (r : VRs C φ h (ns.map .int) vs) : IntsAre vs ns := by
  induction ns generalizing vs with
  | nil => cases r; exact .nil
  | cons n ns ih => cases r with | cons x r => cases x; exact .cons _ _ (ih r)
/-- nothing turned but new things -/
theorem Step.kept' {φ : List Addr} {h h' : Heap} (k : ∀ b o, h.get? b = some o → h'.get? b = some o) : Step noW φ h φ h' := ⟨List.prefix_refl _, fun _ ha => .inl ha, fun _ o e _ => ⟨o, k _ _ e⟩, fun b o e _ _ => .inl (k b o e)⟩
theorem SR.kept {C : Cls} {hb : HB} {h h' : Heap} {φ : List Addr} {σ : List O} (S : SR C hb φ h σ) (k : ∀ b o, h.get? b = some o → h'.get? b = some o) : SR C hb φ h' σ := S.same (Step.kept' k) hard_no (fun _ _ _ e => k _ _ e) (fun _ _ _ e => k _ _ e) (fun _ _ o e d => ⟨o, k _ _ e, d⟩)
theorem CallR.bytes {i : Nat} {ns : List Int} (hi : σ[i]? = some (.list (ns.map .int))) (hr : ∀ n ∈ ns, 0 ≤ n ∧ n < 256) (hz : ns.length ≤ 1000000) (hq : Q (.bytes (byteArr ns)) σ) : CallR wd d (.type "bytes") [.ref i] σ Q := by
  intro A φ s vs hA hS rs R E hR
  obtain ⟨_, _, rfl, r, rs⟩ := rs.cons_inv; obtain rfl := rs.nil_inv; obtain ⟨adr, rfl, ea⟩ := r.ref_inv
  obtain ⟨vs, n, g, r⟩ := hS.listAt ea hi
  have hl := r.length
  rw [List.length_map] at hl
  exact call_bytes_ints ⟨_, g, rfl, _, rfl⟩ r.intsAre hr (by rw [sizeLine_eq]; omega) hA.hd fun h' t k hk => hR _ σ φ h' k _ hq (.kept' hk) (hS.kept hk) (.bytes _ t)

theorem foldl_arr {α : Type} (l : List α) (k : Nat) : List.foldl (fun x1 x2 => x1 ++ x2) #[] (List.replicate k l.toArray) = ((List.replicate k l).flatten).toArray := by
  have g : ∀ (k : Nat) (a : Array α), List.foldl (fun x1 x2 => x1 ++ x2) a (List.replicate k l.toArray) = a ++ ((List.replicate k l).flatten).toArray := by
    intro k
    induction k with
    | zero => intro a; simp
    | succ k ih => intro a; rw [List.replicate_succ, List.foldl_cons, ih, List.replicate_succ, List.flatten_cons]; simp
  simpa using g k #[]
/-- a list plus a list -/
theorem PV.cat {l r : Expr} {p : Pos} (h : PV wd d sc ν σ (eval l) fun a σ₁ => PV wd d sc ν σ₁ (eval r) fun b σ₂ => ∃ i j x y, a = .ref i ∧ b = .ref j ∧ σ₂[i]? = some (.list x) ∧ σ₂[j]? = some (.list y) ∧ x.length + y.length ≤ 1000000 ∧ Q (.ref σ₂.length) (σ₂ ++ [.list (x ++ y)])) :
    PV wd d sc ν σ (eval (.BinOp l .Add r p)) Q := by
  intro A env φ s hA hE hS R E hR
  refine wpAny_BinOp (PV.two h hA hE hS fun a b σ' φ' h' tk a' b' hq x S ra rb => ?_)
  obtain ⟨i, j, u, v, rfl, rfl, hi, hj, hz, hq⟩ := hq
  obtain ⟨_, rfl, ea⟩ := ra.ref_inv; obtain ⟨_, rfl, eb⟩ := rb.ref_inv
  obtain ⟨us, n, g, r1⟩ := S.listAt ea hi
  obtain ⟨ws, k, g2, r2⟩ := S.listAt eb hj
  obtain ⟨x₂, S₂, r₂⟩ := S.push (listObj (us ++ ws) 0) (.list (u ++ v)) rfl ⟨_, 0, rfl, (r1.append r2).step (S.stepOf (listObj (us ++ ws) 0) rfl) hard_no⟩
  refine wpAny_binaryOp_concat (T := "list") ⟨_, g, rfl⟩ ⟨_, g2, rfl⟩ noFill_list_add seq_list_add (call_meets PySem.F.slot_list_add ⟨_, g, rfl⟩ PySem.F.entry_list_add (PySem.F.args_list_add_2 _ _)
    (AutoSeq1.list___add___list_list_0 _ us.toArray n _ ws.toArray k (by rw [List.size_toArray, List.size_toArray, ← r1.length, ← r2.length, sizeLine_eq]; omega)) ⟨g, g2, ?_⟩)
  rw [List.append_toArray]
  exact hR _ _ _ _ tk _ hq (x.trans x₂) S₂ r₂
/-- a list times a number -/
theorem PV.rep {l r : Expr} {p : Pos} (h : PV wd d sc ν σ (eval l) fun a σ₁ => PV wd d sc ν σ₁ (eval r) fun b σ₂ => ∃ i x n, a = .ref i ∧ b = .int n ∧ σ₂[i]? = some (.list x) ∧ x ≠ [] ∧ x.length * n.toNat ≤ 1000000 ∧ -1000000 ≤ n ∧ Q (.ref σ₂.length) (σ₂ ++ [.list (List.replicate n.toNat x).flatten])) :
    PV wd d sc ν σ (eval (.BinOp l .Mult r p)) Q := by
  intro A env φ s hA hE hS R E hR
  refine wpAny_BinOp (PV.two h hA hE hS fun a b σ' φ' h' tk a' b' hq x S ra rb => ?_)
  obtain ⟨i, u, n, rfl, rfl, hi, hne, hz, hlo, hq⟩ := hq
  obtain ⟨_, rfl, ea⟩ := ra.ref_inv; obtain ⟨t, rfl⟩ := rb.int_inv
  obtain ⟨us, k, g, r1⟩ := S.listAt ea hi
  have hlen := r1.length
  have hpos : 0 < u.length := List.length_pos_iff.mpr hne
  have hn : n.toNat ≤ 1000000 := by
    have h1 := Nat.le_mul_of_pos_left n.toNat hpos
    exact Nat.le_trans h1 hz
  have hnn : n ≤ 1000000 := by omega
  have rep : ∀ k, VRs wd.C φ' h' (List.replicate k u).flatten (List.replicate k us).flatten := by
    intro k
    induction k with
    | zero => exact .nil
    | succ k ih => rw [List.replicate_succ, List.replicate_succ, List.flatten_cons, List.flatten_cons]; exact r1.append ih
  obtain ⟨x₂, S₂, r₂⟩ := S.push (listObj (List.replicate n.toNat us).flatten 0) (.list (List.replicate n.toNat u).flatten) rfl ⟨_, 0, rfl, (rep _).step (S.stepOf (listObj (List.replicate n.toNat us).flatten 0) rfl) hard_no⟩
  have he : us.toArray.isEmpty = false := by
    cases us with
    | nil => rw [hlen] at hpos; exact absurd hpos (Nat.lt_irrefl _)
    | cons _ _ => rfl
  have hsz : us.toArray.size * n.toNat ≤ 1000000 := by rw [List.size_toArray, ← hlen]; exact hz
  refine wpAny_binaryOp_repeat_ref (T := "list") (U := "int") (by decide) ⟨_, g, rfl⟩ (fun s' => typeIs_int s' n t) noFill_list_mul PySem.F.fills_int_mul PySem.F.slot_int_rmul repeat_list PySem.F.slot_int_index.lookup
    (call_meets PySem.F.slot_int_rmul (typeIs_int _ n t) PySem.F.entry_int_rmul (PySem.F.args_int_rmul_2 _ _) (int___rmul___int_list n t _ us.toArray k)
      ⟨g, rfl, ⟨_, g, rfl⟩, call_meets PySem.F.slot_list_mul ⟨_, g, rfl⟩ PySem.F.entry_list_mul (PySem.F.args_list_mul_2 _ _)
        (AutoListH.list___mul___list_int_3 _ us.toArray k n t (by simp [Builtin.List.listFitsIndex]; omega) (by generalize us.toArray.size * n.toNat = q at hsz; omega) (by generalize us.toArray.size * n.toNat = q at hsz; simp [Builtin.List.listTooLong, sizeLine]; omega))
        ⟨g, ?_⟩⟩)
  rw [he, if_neg Bool.false_ne_true, foldl_arr]
  exact hR _ _ _ _ tk _ hq (x.trans x₂) S₂ r₂
end
end Mine
end
noncomputable section
open PySem PySem.W PyProof.Rows PySem.SeqAt
set_option Elab.async false
set_option genSizeOf false
set_option genInjectivity false
set_option maxRecDepth 4000
namespace Mine
variable {wd : Wd}
section
variable {d : Nat} {sc : Scope} {ν : Vars} {σ : List O} {Q : V → List O → Prop}

theorem PV.meth {o e : Expr} {rest : List Expr} {name : Str} {id : String} {ap p : Pos} (slot : Slot "list" name id) (hty : typeOf (.builtin id) = pure (.type "method_descriptor"))
    (h : PV wd d sc ν σ (eval o) fun a σ₁ => ∃ i l, a = .ref i ∧ σ₁[i]? = some (.list l) ∧ PVs wd d sc ν σ₁ (items (e :: rest) p) fun vs σ₂ => CallR wd d (.builtin id) (.ref i :: vs) σ₂ Q)
    (hbase : ∀ env, attributeBase o name env (eval o env) = eval o env := by intro _; rfl)
    (hfew : ∀ env, ((backTo p (starEach (e :: rest) env)).all (fun x => !x.1) && (backToKw p (keywordEach [] env)).all (fun x => x.1.isSome) && decide ((e :: rest).length + ([] : List Keyword).length + (if ([] : List Keyword).isEmpty then 0 else 1) < 30)) = true := by intro _; rfl)
    (hline : (ap.endLine == p.line) = true := by rfl)
    (he : ∀ env, starEach (e :: rest) env = (false, eval e env) :: starEach rest env := by intro _; rfl) (hp : ∀ env, (backTo p (starEach rest env)).any (·.1) = false := by intro _; rfl) :
    PV wd d sc ν σ (eval (.Call (.Attribute o name ap) (e :: rest) [] p)) Q := by
  intro A env φ s hA hE hS R E hR
  refine wpAny_Call_method (hbase env) (hfew env) hline PySem.F.plainAttrs_list slot hty (h A env φ s hA hE hS _ _ fun a σ₁ φ₁ h₁ tk a' hq x S ra => ?_)
  obtain ⟨i, l, rfl, hl, hq⟩ := hq
  obtain ⟨adr, rfl, ea⟩ := ra.ref_inv
  obtain ⟨vs, n, g, r⟩ := S.listAt ea hl
  refine ⟨⟨_, g, rfl⟩, fun b hb => by cases hb; exact ⟨_, g, rfl⟩, ?_⟩
  have hh := hq A env φ₁ { s with heap := h₁, toks := tk } hA (hE.step x) S
  rw [he env]
  refine Calls.callWith_builtin (by show (false || (backTo p (starEach rest env)).any (·.1)) = false; rw [hp env]; rfl) (Calls.evalArgs_plain ?_)
  have hh' := hh (fun vs s₁ => wpAny (model wd.prog wd.w) A (call (.builtin id) ([Value.ref adr] ++ vs)) R E s₁) E fun ws σ₂ φ₂ h₂ tk₂ vs hq x₂ S₂ rs => by
    exact hq A φ₂ _ (.ref adr :: vs) hA S₂ (.cons (.ref (x₂.look ea)) rs) _ _ fun b σ₃ φ₃ h₃ tk₃ a hq x₃ S₃ r => hR b σ₃ φ₃ h₃ tk₃ a hq ((x.trans x₂).trans x₃) S₃ r
  unfold items at hh'
  rw [he env] at hh'
  exact hh'
theorem fitsI {k : Nat} (h : k ≤ 1000000) : Builtin.List.listFitsIndex k = true := by
  have h0 : -(2 ^ 63) ≤ (k : Int) := by omega
  have h1 : (k : Int) < 2 ^ 63 := by omega
  unfold Builtin.List.listFitsIndex
  rw [Bool.and_eq_true]; exact ⟨decide_eq_true h0, decide_eq_true h1⟩
theorem CallR.append {i : Nat} {l : List V} {v : V} (hi : σ[i]? = some (.list l)) (hz : l.length ≤ 1000000) (hq : Q .none (σ.set i (.list (l ++ [v])))) : CallR wd d (.builtin "list.append") [.ref i, v] σ Q := by
  intro A φ s vs hA hS rs R E hR
  obtain ⟨_, _, rfl, r, rs⟩ := rs.cons_inv; obtain ⟨x, _, rfl, rv, rs⟩ := rs.cons_inv; obtain rfl := rs.nil_inv; obtain ⟨adr, rfl, ea⟩ := r.ref_inv
  obtain ⟨vs, n, g, r⟩ := hS.listAt ea hi
  have hl := r.length
  have hsz : vs.toArray.size ≤ sizeLine := by rw [List.size_toArray, ← hl, sizeLine_eq]; omega
  obtain ⟨x₂, S₂⟩ := hS.turn (m := l ++ [v]) ea g (fun xs => xs.push x) (ws := vs ++ [x]) (by simp) (r.append (.cons rv .nil))
  exact call_meets PySem.F.slot_list_append ⟨_, g, rfl⟩ PySem.F.entry_list_append (PySem.F.args_list_append_2 _ _) (AutoListH.list_append_list_val_0 adr vs.toArray n x hsz) ⟨g, hR _ _ φ _ _ _ hq x₂ S₂ .none⟩
theorem CallR.extend {i j : Nat} {l m : List V} (hi : σ[i]? = some (.list l)) (hj : σ[j]? = some (.list m)) (hz : l.length + m.length ≤ 1000000) (hq : Q .none (σ.set i (.list (l ++ m)))) : CallR wd d (.builtin "list.extend") [.ref i, .ref j] σ Q := by
  intro A φ s vs hA hS rs R E hR
  obtain ⟨_, _, rfl, r, rs⟩ := rs.cons_inv; obtain ⟨x, _, rfl, rv, rs⟩ := rs.cons_inv; obtain rfl := rs.nil_inv; obtain ⟨adr, rfl, ea⟩ := r.ref_inv; obtain ⟨adb, rfl, eb⟩ := rv.ref_inv
  obtain ⟨vs, n, g, r⟩ := hS.listAt ea hi
  obtain ⟨ws, k, g2, r2⟩ := hS.listAt eb hj
  have hl := r.length
  have hl2 := r2.length
  obtain ⟨x₂, S₂⟩ := hS.turn (m := l ++ m) ea g (fun xs => xs ++ ws.toArray) (ws := vs ++ ws) (by simp) (r.append r2)
  refine call_meets PySem.F.slot_list_extend ⟨_, g, rfl⟩ PySem.F.entry_list_extend (PySem.F.args_list_extend_2 _ _) (AutoSeq1.list_extend_list_list_0 adr vs.toArray n adb ws.toArray k (by simp [Builtin.List.listTooLong, sizeLine]; intro _; omega) (by rw [List.size_toArray, sizeLine_eq]; omega) (by rw [List.size_toArray, List.size_toArray, sizeLine_eq]; omega)) ⟨g, g2, hR _ _ φ _ _ _ hq x₂ S₂ .none⟩
theorem CallR.insert {i : Nat} {l : List V} {k : Nat} {v : V} (hi : σ[i]? = some (.list l)) (hk : k ≤ l.length) (hz : l.length ≤ 1000000) (hq : Q .none (σ.set i (.list (l.take k ++ v :: l.drop k)))) : CallR wd d (.builtin "list.insert") [.ref i, .int k, v] σ Q := by
  intro A φ s vs hA hS rs R E hR
  obtain ⟨_, _, rfl, r, rs⟩ := rs.cons_inv; obtain ⟨_, _, rfl, rk, rs⟩ := rs.cons_inv; obtain ⟨x, _, rfl, rv, rs⟩ := rs.cons_inv; obtain rfl := rs.nil_inv; obtain ⟨adr, rfl, ea⟩ := r.ref_inv; obtain ⟨t, rfl⟩ := rk.int_inv
  obtain ⟨vs, n, g, r⟩ := hS.listAt ea hi
  have hl := r.length
  obtain ⟨x₂, S₂⟩ := hS.turn (m := l.take k ++ v :: l.drop k) ea g (fun xs => have k := if (k : Int) < 0 then ((k : Int) + (xs.size : Int)).toNat else min (k : Int).toNat xs.size; (xs.extract 0 k).push x ++ xs.extract k) (ws := vs.take k ++ x :: vs.drop k) (by
    have h0 : ¬ ((k : Int) < 0) := by omega
    have h1 : min (k : Int).toNat vs.toArray.size = k := by rw [List.size_toArray]; omega
    apply Array.toList_inj.mp
    simp only [h0, if_false, h1]
    simp [List.take_of_length_le]) ((r.take k).append (.cons rv (r.drop k)))
  have f1 : Builtin.List.listFitsIndex (k : Int) = true := fitsI (by omega)
  have f2 : vs.toArray.size ≤ sizeLine := by rw [List.size_toArray, sizeLine_eq]; omega
  generalize (k : Int) = z at *
  have M := AutoSeq1.list_insert_list_int_val_1 adr vs.toArray n z t x (by rw [f1]; decide) f2
  refine call_meets PySem.F.slot_list_insert ⟨_, g, rfl⟩ PySem.F.entry_list_insert (PySem.F.args_list_insert_3 _ _ _) M ⟨g, hR _ _ φ _ _ _ hq x₂ S₂ .none⟩
end
end Mine
end
noncomputable section
open PySem PySem.W PyProof.Rows PySem.SeqAt
set_option Elab.async false
set_option genSizeOf false
set_option genInjectivity false
set_option maxRecDepth 4000
set_option linter.unusedVariables false
namespace Mine
variable {wd : Wd}
theorem lookup_inj {l : List (Str × Addr)} (p : l.Pairwise fun x y => x.2 ≠ y.2) {x y : Str} {c : Addr} (hx : l.lookup x = some c) (hy : l.lookup y = some c) : x = y := by
  induction l with
  | nil => cases hx
  | cons a l ih =>
    obtain ⟨k, b⟩ := a
    rw [List.pairwise_cons] at p
    rw [List.lookup_cons] at hx hy
    cases e1 : x == k <;> cases e2 : y == k <;> rw [e1] at hx <;> rw [e2] at hy <;> simp only [] at hx hy
    · exact ih p.2 hx hy
    · cases hy; exact (p.1 _ (mem_of_lookup hx) rfl).elim
    · cases hx; exact (p.1 _ (mem_of_lookup hy) rfl).elim
    · exact (eq_of_beq e1).trans (eq_of_beq e2).symm
section
variable {C : Cls} {hb : Heap} {h h' : Heap} {φ φ' : List Addr} {sc : Scope} {ν : Vars} {env : Env} {σ : List O}
theorem Step.but (b : Addr) (hs : Heap.SameBut b h h') {W : Addr → Prop} (hw : W b) (hl : ∃ o, h'.get? b = some o) : Step W φ h φ h' := by
  refine ⟨List.prefix_refl _, fun _ q => .inl q, fun c o e n => ⟨o, (hs.2 c fun q => n (q ▸ hw)).trans e⟩, fun c o e _ n => .inl ((hs.2 c fun q => n (q ▸ hw)).trans e)⟩
theorem EnvR.live (E : EnvR C hb φ h sc ν env) : ∀ a, WE env a → ∃ o, h.get? a = some o := by
  rintro a (rfl | ⟨p, hp, rfl⟩)
  · obtain ⟨m, n, _⟩ := E.ns
    obtain ⟨o, e, _⟩ := ns_get n
    exact ⟨o, e⟩
  · obtain ⟨v, hv⟩ := E.cell p hp
    obtain ⟨o, e, _⟩ := cell_get hv
    exact ⟨o, e⟩
theorem EnvR.off (E : EnvR C hb φ h sc ν env) : ∀ a, WE env a → a ∉ φ := by
  rintro a (rfl | ⟨p, hp, rfl⟩)
  · exact E.Lφ
  · exact (E.cφ p hp).1
theorem SR.own {hb : HB} (S : SR C hb φ h σ) (E : EnvR C hb.heap φ h sc ν env) (x : Step (WE env) φ h φ h') (k : ∀ a o, ¬ WE env a → h.get? a = some o → h'.get? a = some o) (kl : ∃ o', h'.get? env.locals = some o' ∧ isD o') : SR C hb φ h' σ := by
  refine S.same x E.hard (fun a m o e => k a o (fun q => E.off a q m) e) (fun b o e1 e2 => k b o (E.base b o e1) e2) fun a m o e d => ?_
  by_cases w : WE env a
  · rcases w with rfl | ⟨p, hp, rfl⟩
    · exact kl
    · obtain ⟨v, o', ho, hd⟩ := E.cell p hp
      rw [ho] at e; cases e
      obtain ⟨es, n, d⟩ := d
      rw [hd] at d; cases d
  · exact ⟨o, k a o w e, d⟩
theorem ns_dict {m : Str → Option Value} {L : Addr} (n : h.Ns L m) : ∃ o, h.get? L = some o ∧ isD o := let ⟨o, es, ep, ho, hd, _⟩ := n; ⟨o, ho, es, ep, hd⟩
theorem EnvR.setLocal (E : EnvR C hb φ h sc ν env) {x : Str} (hx : sc.names.lookup x = some .local) {m : Str → Option Value} (n : h.Ns env.locals m)
    (hm : ∀ x v, ν.lookup x = some v → ∃ v', VR C φ h v v' ∧ ((sc.names.lookup x = some .local ∧ m x = some v') ∨ ((sc.names.lookup x = some .cell ∨ sc.names.lookup x = some .free) ∧ ∃ c, env.cells.lookup x = some c ∧ h.IsCell c (some v'))))
    {v : V} {v' : Value} (r : VR C φ h v v') (n' : h'.Ns env.locals (fun y => if y = x then some v' else m y)) (hs : Heap.SameBut env.locals h h') :
    Step (WE env) φ h φ h' ∧ EnvR C hb φ h' sc ((x, v) :: ν) env := by
  have st : Step (WE env) φ h φ h' := Step.but env.locals hs (.inl rfl) (by obtain ⟨o, e, _⟩ := ns_get n'; exact ⟨o, e⟩)
  have kc : ∀ {c w}, c ≠ env.locals → h.IsCell c w → h'.IsCell c w := fun hc q => IsCell.at q fun o e => (hs.2 _ hc).trans e
  refine ⟨st, E.isSc, E.fk, E.gl, E.bi, E.Lφ, E.Lb, E.cφ, E.apart, fun p hp => ?_, E.has, _, n', fun y w e => ?_⟩
  · obtain ⟨w, hw⟩ := E.cell p hp
    exact ⟨w, kc (E.cφ p hp).2.2 hw⟩
  · by_cases q : y = x
    · subst q
      rw [List.lookup_cons, beq_self_eq_true] at e
      cases e
      exact ⟨v', r.step st E.hard, .inl ⟨hx, if_pos rfl⟩⟩
    · rw [List.lookup_cons, show (y == x) = false from beq_eq_false_iff_ne.mpr q] at e
      obtain ⟨w', rw', k⟩ := hm y w e
      refine ⟨w', rw'.step st E.hard, k.imp (fun k => ⟨k.1, by rw [if_neg q]; exact k.2⟩) fun ⟨k1, c, k2, k3⟩ => ⟨k1, c, k2, kc (E.cφ _ (mem_of_lookup k2)).2.2 k3⟩⟩
theorem EnvR.setCell (E : EnvR C hb φ h sc ν env) {x : Str} (hx : sc.names.lookup x = some .cell) {c : Addr} (hc : env.cells.lookup x = some c)
    {v : V} {v' : Value} (r : VR C φ h v v') (n' : h'.IsCell c (some v')) (hs : Heap.SameBut c h h') :
    Step (WE env) φ h φ h' ∧ EnvR C hb φ h' sc ((x, v) :: ν) env := by
  have mc := mem_of_lookup hc
  have st : Step (WE env) φ h φ h' := Step.but c hs (.inr ⟨_, mc, rfl⟩) (by obtain ⟨o, e, _⟩ := cell_get n'; exact ⟨o, e⟩)
  have kc : ∀ {b w}, b ≠ c → h.IsCell b w → h'.IsCell b w := fun hc q => IsCell.at q fun o e => (hs.2 _ hc).trans e
  obtain ⟨m, n, hm⟩ := E.ns
  refine ⟨st, E.isSc, E.fk, E.gl, E.bi, E.Lφ, E.Lb, E.cφ, E.apart, fun p hp => ?_, E.has, m, n.at' (fun o e => (hs.2 _ (E.cφ _ mc).2.2.symm).trans e), fun y w e => ?_⟩
  · by_cases q : p.2 = c
    · exact ⟨_, q ▸ n'⟩
    · obtain ⟨w, hw⟩ := E.cell p hp
      exact ⟨w, kc q hw⟩
  · by_cases q : y = x
    · subst q
      rw [List.lookup_cons, beq_self_eq_true] at e
      cases e
      exact ⟨v', r.step st E.hard, .inr ⟨.inl hx, c, hc, n'⟩⟩
    · rw [List.lookup_cons, show (y == x) = false from beq_eq_false_iff_ne.mpr q] at e
      obtain ⟨w', rw', k⟩ := hm y w e
      refine ⟨w', rw'.step st E.hard, k.imp (fun k => k) fun ⟨k1, b, k2, k3⟩ => ⟨k1, b, k2, kc (fun qq => q ?_) k3⟩⟩
      subst qq
      exact lookup_inj E.apart k2 hc
end
/-- a store of a value -/
def PA (wd : Wd) (d : Nat) (sc : Scope) (ν : Vars) (σ : List O) (t : Env → Value → Sem Unit) (v : V) (Q : Vars → List O → Prop) : Prop :=
  ∀ (A : Around) (env : Env) (φ : List Addr) (s : Shared) (v' : Value), AOk wd.hb.fs d A → EnvR wd.C wd.hb.heap φ s.heap sc ν env → SR wd.C wd.hb φ s.heap σ → VR wd.C φ s.heap v v' →
    ∀ (R : Unit → Shared → Prop) (E : Value → Shared → Prop), (∀ ν' σ' φ' h' tk, Q ν' σ' → Step (WE env) φ s.heap φ' h' → SR wd.C wd.hb φ' h' σ' → EnvR wd.C wd.hb.heap φ' h' sc ν' env → R () { s with heap := h', toks := tk }) →
      wpAny (model wd.prog wd.w) A (t env v') R E s
section
variable {d : Nat} {sc : Scope} {ν : Vars} {σ : List O} {Q : Vars → List O → Prop}
theorem PA.store {x : Str} {v : V} (hx : sc.names.lookup x = some .local ∨ sc.names.lookup x = some .cell) (hq : Q ((x, v) :: ν) σ) : PA wd d sc ν σ (fun env v' => storeName env x v') v Q := by
  intro A env φ s v' hA hE hS r R E hR
  have hk : env.scope.kind = .function := by rw [hE.isSc]; exact hE.fk
  have ek : ∀ k, sc.names.lookup x = some k → env.kindOf x = some k := fun k q => by rw [← hE.isSc] at q; exact q
  rcases hx with hx | hx
  · obtain ⟨m, n, hm⟩ := hE.ns
    refine wpAny_storeName_local (ek _ hx) n (fun h' n' hs => ?_) (by rw [hk]; rfl)
    obtain ⟨st, E'⟩ := hE.setLocal hx n hm r n' hs
    exact hR _ σ φ h' _ hq st (hS.own hE st (fun a o w e => (hs.2 a fun q => w (.inl q)).trans e) (ns_dict n')) E'
  · obtain ⟨c, hc⟩ := hE.has x hx
    obtain ⟨w, hw⟩ := hE.cell _ (mem_of_lookup hc)
    refine wpAny_storeName_cell hk (ek _ hx) hc hw (fun h' n' hs => ?_)
    obtain ⟨st, E'⟩ := hE.setCell hx hc r n' hs
    exact hR _ σ φ h' _ hq st (hS.own hE st (fun a o w e => (hs.2 a fun q => w (.inr ⟨_, mem_of_lookup hc, q.symm⟩)).trans e) (by obtain ⟨_, n, _⟩ := E'.ns; exact ns_dict n)) E'
theorem PA.name {x : Str} {p : Pos} {v : V} (hx : sc.names.lookup x = some .local ∨ sc.names.lookup x = some .cell) (hq : Q ((x, v) :: ν) σ) : PA wd d sc ν σ (assign (.Name x p)) v Q :=
  fun A env φ s v' hA hE hS r R E hR => wpAny_assign_Name (PA.store hx hq A env φ s v' hA hE hS r R E hR)
end
end Mine
end
noncomputable section
open PySem PySem.W PyProof.Rows PySem.SeqAt
set_option Elab.async false
set_option genSizeOf false
set_option genInjectivity false
set_option maxRecDepth 4000
set_option linter.unusedVariables false
namespace Mine
variable {wd : Wd}
/-- what can be walked -/
inductive Src where
  | list (i : Nat) (l : List V)
  | tup (l : List V)
  | range (a b s : Int)
def rangeN (a b s : Int) : Nat := (Builtin.Range.rangeSize a b s).toNat
def rangeL (a b s : Int) : List Int := (List.range (rangeN a b s)).map fun (k : Nat) => a + (k : Int) * s
def Src.xs : Src → List V
  | .list _ l => l
  | .tup l => l
  | .range a b s => (rangeL a b s).map .int
def Src.ok (σ : List O) : Src → Prop
  | .list i l => σ[i]? = some (.list l)
  | _ => True
def Src.of (v : V) : Src → Prop
  | .list i _ => v = .ref i
  | .tup l => v = .tup l
  | .range a b s => v = .range a b s ∧ -1000000 ≤ a ∧ a ≤ 1000000 ∧ -1000000 ≤ b ∧ b ≤ 1000000 ∧ 0 < s ∧ s ≤ 1000
def Iat (C : Cls) (φ : List Addr) (h : Heap) (it : Addr) (k : Nat) : Src → Prop
  | .list i _ => ∃ a, φ[i]? = some a ∧ h.IsListIter it a k
  | .tup l => ∃ t vs n, h.get? t = some { cls := .type "tuple", data := .seq vs.toArray n } ∧ t ∉ φ ∧ VRs C φ h l vs ∧ h.IsTupleIter it t k
  | .range a b s => IsRangeIter h it (a + k * s) (rangeN a b s - k) s
theorem Iat.not {C : Cls} {φ : List Addr} {h : Heap} {it : Addr} {k : Nat} {src : Src} (x : Iat C φ h it k src) : ∃ o, h.get? it = some o ∧ imm o = false := by
  cases src with
  | list i l => obtain ⟨a, _, o, h1, h2, h3⟩ := x; exact ⟨o, h1, by unfold imm; rw [h3]; simp [h2]⟩
  | tup l => obtain ⟨_, _, _, _, _, _, o, h1, h2, h3⟩ := x; exact ⟨o, h1, by unfold imm; rw [h3]; simp [h2]⟩
  | range a b s => exact ⟨_, x, by rfl⟩
theorem Iat.step {C : Cls} {W : Addr → Prop} {φ φ₁ : List Addr} {h h₁ : Heap} {it : Addr} {k : Nat} {src : Src} (x : Iat C φ h it k src) (st : Step W φ h φ₁ h₁) (hw : Hard W h) (ni : it ∉ φ) (nw : ¬ W it) : Iat C φ₁ h₁ it k src := by
  cases src with
  | list i l => obtain ⟨a, e, o, h1, h2, h3⟩ := x; exact ⟨a, st.look e, o, st.exact h1 ni nw (by rintro ⟨_, _, q⟩; rw [h3] at q; cases q), h2, h3⟩
  | tup l => obtain ⟨t, vs, n, e, nt, r, o, h1, h2, h3⟩ := x; exact ⟨t, vs, n, st.kept hw e nt rfl, st.off e nt, r.step st hw, o, st.exact h1 ni nw (by rintro ⟨_, _, q⟩; rw [h3] at q; cases q), h2, h3⟩
  | range a b s => exact st.exact x ni nw (by rintro ⟨_, _, q⟩; cases q)
theorem rangeSize_nat' (a b c : Int) : Builtin.Range.rangeSize a b c = (rangeN a b c : Int) := rangeSize_toNat a b c
theorem fitsLong {i : Int} (h : -3000000 ≤ i) (h2 : i ≤ 3000000) : Builtin.Range.rangeFitsLong i = true := by
  have h0 : -(2 ^ 63) ≤ i := by omega
  have h1 : i < 2 ^ 63 := by omega
  unfold Builtin.Range.rangeFitsLong
  rw [Bool.and_eq_true]; exact ⟨decide_eq_true h0, decide_eq_true h1⟩
theorem small_range {a b s : Int} (h : -1000000 ≤ a ∧ a ≤ 1000000 ∧ -1000000 ≤ b ∧ b ≤ 1000000 ∧ 0 < s ∧ s ≤ 1000) : Builtin.Range.small a b s = true := by
  have hn : (rangeN a b s : Int) ≤ 2000000 := by
    have := rangeSize_toNat_le a b s
    unfold rangeN; omega
  unfold Builtin.Range.small
  rw [fitsLong (by omega) (by omega), fitsLong (by omega) (by omega), fitsLong (by omega) (by omega), rangeSize_nat', fitsLong (by omega) (by omega), if_pos h.2.2.2.2.1, fitsLong (by omega) (by omega)]
  simp
section
variable {A : Around} {s : Shared} {E : Value → Shared → Prop} {φ : List Addr} {σ : List O} {hb : HB}
theorem iter_open {C : Cls} {src : Src} {v : V} {v' : Value} (hof : src.of v) (hok : src.ok σ) (hS : SR C hb φ s.heap σ) (r : VR C φ s.heap v v') {Q : Value → Shared → Prop}
    (hQ : ∀ ob, Iat C φ (s.heap.push ob) s.heap.objs.size 0 src → Q (.ref s.heap.objs.size) { s with heap := s.heap.push ob }) : wpAny (model wd.prog wd.w) A (pyIter v') Q E s := by
  cases src with
  | list i l =>
    cases hof
    obtain ⟨a, rfl, ea⟩ := r.ref_inv
    obtain ⟨vs, n, g, _⟩ := hS.listAt ea hok
    exact wpAny_pyIter_list ⟨_, g, rfl, _, rfl⟩ (hQ _ ⟨a, ea, _, Heap.get?_push_size _ rfl, rfl, rfl⟩)
  | tup l =>
    cases hof
    obtain ⟨a, vs, n, rfl, e, off, rs⟩ := r.tup_inv
    exact wpAny_pyIter_tuple ⟨_, e, rfl, _, rfl⟩ (hQ _ ⟨a, vs, n, Heap.get?_push_of_some _ e, off, rs.step (Step.pushed _) hard_no, _, Heap.get?_push_size _ rfl, rfl, rfl⟩)
  | range a b c =>
    obtain ⟨rfl, hs⟩ := hof
    obtain ⟨_, _, _, _, rfl, e, off⟩ := r.range_inv
    refine wpAny_pyIter_range e (small_range hs) (hQ _ ?_)
    rw [rangeSize_nat']
    show (s.heap.push _).get? _ = some _
    rw [show a + ((0 : Nat) : Int) * c = a by simp, show ((rangeN a b c : Int) - ((0 : Nat) : Int)) = (rangeN a b c : Int) by simp]
    exact Heap.get?_push_size _ rfl
theorem iter_next {C : Cls} {src : Src} {k : Nat} {it : Addr} (hh : A.handled = none) (hok : src.ok σ) (hS : SR C hb φ s.heap σ) (x : Iat C φ s.heap it k src) (hk : k ≤ src.xs.length) {Q : Option Value → Shared → Prop}
    (hend : k = src.xs.length → ∀ h', Heap.ExtBut it s.heap h' → Q none { s with heap := h' })
    (hitem : ∀ v h' tk v', src.xs[k]? = some v → VR C φ h' v v' → Iat C φ h' it (k + 1) src → Heap.SameBut it s.heap h' → Q (some v') { s with heap := h', toks := tk }) :
    wpAny (model wd.prog wd.w) A (pyNext (.ref it)) Q E s := by
  obtain ⟨oi, hi1, hi2⟩ := x.not
  have hard : Hard (· = it) s.heap := fun a o e g => by subst e; rw [hi1] at g; cases g; exact hi2
  have stp : ∀ {h'}, Heap.SameBut it s.heap h' → (∃ o, h'.get? it = some o) → Step (· = it) φ s.heap φ h' := fun hs hl => Step.but it hs rfl hl
  cases src with
  | list i l =>
    obtain ⟨a, ea, hit⟩ := x
    obtain ⟨vs, n, g, rs⟩ := hS.listAt ea hok
    have hl : s.heap.IsList a vs.toArray := ⟨_, g, rfl, _, rfl⟩
    by_cases e : k < l.length
    · obtain ⟨v', e2, rv⟩ := rs.get (List.getElem?_eq_getElem e)
      exact wpAny_pyNext_list_item hit hl (x := v') (by simpa using e2) fun h' hit' hs => hitem l[k] h' s.toks v' (List.getElem?_eq_getElem e) (rv.step (stp hs (let ⟨o, e, _⟩ := hit'; ⟨o, e⟩)) hard) ⟨a, ea, hit'⟩ hs
    · have hk' : k = l.length := Nat.le_antisymm hk (Nat.le_of_not_lt e)
      exact wpAny_pyNext_list_end hh hit hl (by rw [hk', rs.length]; simp) (hend hk')
  | tup l =>
    obtain ⟨t, vs, n, g, off, rs, hit⟩ := x
    have hl : s.heap.IsTuple t vs.toArray := ⟨_, g, rfl, _, rfl⟩
    by_cases e : k < l.length
    · obtain ⟨v', e2, rv⟩ := rs.get (List.getElem?_eq_getElem e)
      refine wpAny_pyNext_tuple_item hit hl (x := v') (by simpa using e2) fun h' hit' hs => ?_
      have st := stp hs (let ⟨o, e, _⟩ := hit'; ⟨o, e⟩)
      exact hitem l[k] h' s.toks v' (List.getElem?_eq_getElem e) (rv.step st hard) ⟨t, vs, n, st.kept hard g off rfl, off, rs.step st hard, hit'⟩ hs
    · have hk' : k = l.length := Nat.le_antisymm hk (Nat.le_of_not_lt e)
      exact wpAny_pyNext_tuple_end hh hit hl (by rw [hk', rs.length]; simp) (hend hk')
  | range a b c =>
    have hlen : (Src.xs (.range a b c)).length = rangeN a b c := by simp [Src.xs, rangeL]
    rw [hlen] at hk hend
    by_cases e : k < rangeN a b c
    · refine wpAny_pyNext_range_item x (by omega) fun h' hit' hs => hitem (.int (a + k * c)) h' _ _ (by simp [Src.xs, rangeL, e]) (.int _ _) ?_ hs
      show IsRangeIter _ _ _ _ _
      rw [show a + ((k + 1 : Nat) : Int) * c = a + k * c + c by rw [Int.natCast_add]; simp [Int.add_mul, Int.add_assoc], show ((rangeN a b c : Int) - ((k + 1 : Nat) : Int)) = rangeN a b c - k - 1 by omega]
      exact hit'
    · exact wpAny_pyNext_range_end hh x (by omega) (hend (by omega))
end
end Mine
end
noncomputable section
open PySem PySem.W PyProof.Rows PySem.SeqAt
set_option Elab.async false
set_option genSizeOf false
set_option genInjectivity false
set_option maxRecDepth 4000
set_option linter.unusedVariables false
namespace Mine
variable {wd : Wd}
section
variable {d : Nat} {sc : Scope} {ν : Vars} {σ : List O} {Q : Fl → Vars → List O → Prop}
theorem PF.nil (h : Q .next ν σ) : PF wd d sc ν σ (execs []) Q := fun A env φ s hA hE hS R E hR =>
  wpAny_execs_nil (hR .next ν σ φ s.heap s.toks _ h .refl hS hE .next)
/-- one behind the other -/
theorem PF.cons {st : Stmt} {rest : List Stmt} (h : PF wd d sc ν σ (exec st) fun f ν₁ σ₁ => match f with | .next => PF wd d sc ν₁ σ₁ (execs rest) Q | .ret v => Q (.ret v) ν₁ σ₁) : PF wd d sc ν σ (execs (st :: rest)) Q := by
  intro A env φ s hA hE hS R E hR
  refine wpAny_execs_cons (h A env φ s hA hE hS _ _ fun f ν₁ σ₁ φ₁ h₁ tk f' hq x S E₁ r => ?_)
  cases r with
  | next =>
    refine hq A env φ₁ _ hA E₁ S _ _ fun f ν₂ σ₂ φ₂ h₂ tk₂ f' hq x₂ S₂ E₂ r => ?_
    exact hR f ν₂ σ₂ φ₂ h₂ tk₂ f' hq (x.trans x₂) S₂ E₂ r
  | ret r => exact hR _ ν₁ σ₁ φ₁ h₁ tk _ hq x S E₁ (.ret r)
theorem Step.env {C : Cls} {hb : Heap} {h h' : Heap} {φ φ' : List Addr} {env : Env} (x : Step noW φ h φ' h') (E : EnvR C hb φ h sc ν env) : Step (WE env) φ h φ' h' := x.wide (fun _ q => q.elim) E.live
theorem PF.expr {e : Expr} {p : Pos} (h : PV wd d sc ν σ (eval e) fun v σ₁ => Q .next ν σ₁) (hi : ∀ env : Env, env.scope.kind = .function → interactive env = false := by intro env h; unfold interactive; rw [h]; rfl) (hs : ∀ env, swapsWith e none p.line env = pure false := by intro _; rfl) :
    PF wd d sc ν σ (exec (.Expr e p)) Q := by
  intro A env φ s hA hE hS R E hR
  refine wpAny_Expr_any (h A env φ s hA hE hS _ _ fun v σ₁ φ₁ h₁ tk v' hq x S r => ?_) (hi env (by rw [hE.isSc]; exact hE.fk)) (hs env)
  exact hR .next ν σ₁ φ₁ h₁ tk _ hq (x.env hE) S (hE.step x) .next
theorem PF.ret {e : Expr} {p : Pos} (h : PV wd d sc ν σ (eval e) fun v σ₁ => Q (.ret v) ν σ₁) : PF wd d sc ν σ (exec (.Return (some e) p)) Q := by
  intro A env φ s hA hE hS R E hR
  refine wpAny_Return_some (h A env φ s hA hE hS _ _ fun v σ₁ φ₁ h₁ tk v' hq x S r => ?_)
  exact hR _ ν σ₁ φ₁ h₁ tk _ hq (x.env hE) S (hE.step x) (.ret r)
theorem PF.ifS {t : Expr} {b o : List Stmt} {p : Pos} (h : PB wd d sc ν σ (fun env => isTrue t env (eval t env)) fun c σ₁ => if c then PF wd d sc ν σ₁ (execs b) Q else PF wd d sc ν σ₁ (execs o) Q) : PF wd d sc ν σ (exec (.If t b o p)) Q := by
  intro A env φ s hA hE hS R E hR
  refine wpAny_If (h A env φ s hA hE hS _ _ fun c σ₁ φ₁ h₁ tk c' hq x S r => ?_)
  subst r
  cases c' with
  | true => exact hq A env φ₁ _ hA (hE.step x) S _ _ fun f ν₂ σ₂ φ₂ h₂ tk₂ f' hq x₂ S₂ E₂ r => hR f ν₂ σ₂ φ₂ h₂ tk₂ f' hq ((x.env hE).trans x₂) S₂ E₂ r
  | false => exact hq A env φ₁ _ hA (hE.step x) S _ _ fun f ν₂ σ₂ φ₂ h₂ tk₂ f' hq x₂ S₂ E₂ r => hR f ν₂ σ₂ φ₂ h₂ tk₂ f' hq ((x.env hE).trans x₂) S₂ E₂ r
theorem PF.assign {x : Str} {p' p : Pos} {e : Expr} (hx : sc.names.lookup x = some .local ∨ sc.names.lookup x = some .cell) (h : PV wd d sc ν σ (eval e) fun v σ₁ => Q .next ((x, v) :: ν) σ₁)
    (hs : ∀ env, swapsWith e (some (.Name x p')) p.line env = pure false := by intro _; rfl) : PF wd d sc ν σ (exec (.Assign [.Name x p'] e p)) Q := by
  intro A env φ s hA hE hS R E hR
  refine wpAny_Assign_Name (h A env φ s hA hE hS _ _ fun v σ₁ φ₁ h₁ tk v' hq x₁ S r => ?_) (hs env)
  refine PA.store hx hq A env φ₁ { s with heap := h₁, toks := tk } v' hA (hE.step x₁) S r _ _ fun ν' σ' φ' h' tk' hq x₂ S₂ E₂ => ?_
  exact hR .next ν' σ' φ' h' tk' _ hq ((x₁.env hE).trans x₂) S₂ E₂ .next

variable {Qe : Vars → List O → Prop}
end
section
variable {prog : Program} {w : World} {A : Around} {E : Value → Shared → Prop} {s : Shared}
end
section
variable {d : Nat} {sc : Scope} {ν : Vars} {σ : List O} {Q : Fl → Vars → List O → Prop} {Qe : Vars → List O → Prop}
theorem PF.whileS {test : Expr} {body : List Stmt} {p : Pos} (I : Nat → Vars → List O → Prop) (n : Nat) (h0 : I n ν σ)
    (turn : ∀ n ν σ, I n ν σ → PB wd d sc ν σ (fun env => isTrue test env (eval test env)) fun b σ₁ => if b then PF wd d sc ν σ₁ (execs body) fun f ν' σ' => match f with | .next => ∃ m, m < n ∧ I m ν' σ' | .ret v => Q (.ret v) ν' σ' else Q .next ν σ₁) :
    PF wd d sc ν σ (exec (.While test body [] p)) Q := by
  intro A env φ s hA hE hS R E hR
  refine wpAny_While (codeAny_whileLoop (fun n s' => ∃ ν₁ σ₁ φ₁ h₁ tk, s' = { s with heap := h₁, toks := tk } ∧ I n ν₁ σ₁ ∧ Step (WE env) φ s.heap φ₁ h₁ ∧ SR wd.C wd.hb φ₁ h₁ σ₁ ∧ EnvR wd.C wd.hb.heap φ₁ h₁ sc ν₁ env) ?_ n ⟨ν, σ, φ, s.heap, s.toks, rfl, h0, .refl, hS, hE⟩)
  rintro n _ ⟨ν₁, σ₁, φ₁, h₁, tk, rfl, hI, x, S, E₁⟩
  refine turn n ν₁ σ₁ hI A env φ₁ _ hA E₁ S _ _ fun b σ₂ φ₂ h₂ tk₂ b' hq x₂ S₂ r => ?_
  subst r
  cases b' with
  | true =>
    refine hq A env φ₂ _ hA (E₁.step x₂) S₂ _ _ fun f ν₃ σ₃ φ₃ h₃ tk₃ f' hq x₃ S₃ E₃ r => ?_
    have xx := x.trans ((x₂.env E₁).trans x₃)
    cases r with
    | next =>
      obtain ⟨m, hm, hI⟩ := hq
      exact ⟨m, hm, ν₃, σ₃, φ₃, h₃, tk₃, rfl, hI, xx, S₃, E₃⟩
    | ret r => exact hR _ ν₃ σ₃ φ₃ h₃ tk₃ _ hq xx S₃ E₃ (.ret r)
  | false => exact wpAny_execs_nil (hR .next ν₁ σ₂ φ₂ h₂ tk₂ _ hq (x.trans (x₂.env E₁)) S₂ (E₁.step x₂) .next)
/-- where a walked thing's iterator has been used up -/
theorem Step.ext {W : Addr → Prop} {φ₀ φ : List Addr} {h₀ h h' : Heap} {it : Addr} (x : Step W φ₀ h₀ φ h) (n : h₀.get? it = none) (e : Heap.ExtBut it h h') : Step W φ₀ h₀ φ h' :=
  ⟨x.pre, x.fresh, fun b o g w => let ⟨o', g'⟩ := x.live b o g w; ⟨o', e b o' (fun q => by subst q; rw [n] at g; cases g) g'⟩, fun b o g m w => have nb : b ≠ it := (fun q => by subst q; rw [n] at g; cases g); (x.keep b o g m w).imp (e b o nb) fun ⟨d, sl, q⟩ => ⟨d, sl, e b _ nb q⟩⟩
theorem Step.iter {φ : List Addr} {h h' : Heap} {it : Addr} (e : Heap.ExtBut it h h') : Step (· = it) φ h φ h' :=
  ⟨List.prefix_refl _, fun _ q => .inl q, fun b o g w => ⟨o, e b o w g⟩, fun b o g _ w => .inl (e b o w g)⟩
inductive ForP (wd : Wd) (d : Nat) (sc : Scope) (target : Expr) (body : List Stmt) (Q : Fl → Vars → List O → Prop) (ν : Vars) (v : V) (σ₁ : List O) : Prop
  | mk (src : Src) (hof : src.of v) (hok : src.ok σ₁) (I : Nat → Vars → List O → Prop) (h0 : I 0 ν σ₁) (hI : ∀ k ν σ, I k ν σ → src.ok σ)
      (turn : ∀ k x ν σ, src.xs[k]? = some x → I k ν σ → PA wd d sc ν σ (PySem.assign target) x fun ν₁ σ₁ => PF wd d sc ν₁ σ₁ (execs body) fun f ν₂ σ₂ => match f with | .next => I (k + 1) ν₂ σ₂ | .ret v => Q (.ret v) ν₂ σ₂)
      (fin : ∀ ν σ, I src.xs.length ν σ → Q .next ν σ) : ForP wd d sc target body Q ν v σ₁
inductive ForI (wd : Wd) (sc : Scope) (env : Env) (s : Shared) (φ₁ : List Addr) (h₁ : Heap) (it : Addr) (src : Src) (I : Nat → Vars → List O → Prop) (m : Nat) (s' : Shared) : Prop
  | mk (k : Nat) (ν₁ : Vars) (σ₁ : List O) (φ' : List Addr) (h' : Heap) (tk' : Nat) (hm : m + k = src.xs.length) (e : s' = { s with heap := h', toks := tk' }) (hI : I k ν₁ σ₁) (x : Step (WE env) φ₁ h₁ φ' h') (S : SR wd.C wd.hb φ' h' σ₁)
      (E : EnvR wd.C wd.hb.heap φ' h' sc ν₁ env) (a : Iat wd.C φ' h' it k src) (ni : it ∉ φ') (nw : ¬ WE env it) : ForI wd sc env s φ₁ h₁ it src I m s'
theorem PF.forS {target iter : Expr} {body : List Stmt} {p : Pos}
    (h : PV wd d sc ν σ (eval iter) (ForP wd d sc target body Q ν))
    (hf : ∀ env x, foldedSetIterable iter env x = pure x := by intro _ _; rfl) (ht : ∀ it v, letOwnedTupleGo target it v = pure () := by intro _ _; rfl) :
    PF wd d sc ν σ (exec (.For target iter body [] p)) Q := by
  intro A env φ s hA hE hS R E hR
  refine wpAny_For (h A env φ s hA hE hS _ _ fun v σ₁ φ₁ h₁ tk v' hq x S r => ?_) (hf env)
  obtain ⟨src, hof, hok, I, hI0, hIok, hturn, hend⟩ := hq
  have E₁ := hE.step x
  refine iter_open hof hok S r fun ob hit => ?_
  dsimp only at hit ⊢
  generalize hitd : h₁.objs.size = it at hit ⊢
  have hfresh : h₁.get? it = none := by rw [← hitd]; exact get_size_none _
  have st0 := Step.pushed (φ := φ₁) (h := h₁) ob
  refine codeAny_forLoop (ForI wd sc env s φ₁ h₁ it src I) ?_
    src.xs.length ⟨0, ν, σ₁, φ₁, h₁.push ob, tk, rfl, rfl, hI0, st0.env E₁, S.pushed ob, E₁.step st0, hit, by rw [← hitd]; exact VR.fresh S, fun w => by obtain ⟨o, e⟩ := E₁.live it w; rw [hfresh] at e; cases e⟩ (ht _)
  rintro m _ ⟨k, ν₂, σ₂, φ₂, h₂, tk₂, hmk, rfl, hI, x₂, S₂, E₂, hit₂, ni, nw⟩
  obtain ⟨oi, hi1, hi2⟩ := hit₂.not
  have hard : Hard (· = it) h₂ := fun a o e g => by subst e; rw [hi1] at g; cases g; exact hi2
  have hfit : it ∉ wd.hb.fs := fun m => by obtain ⟨_, _, o, e, _⟩ := S.fr it m; rw [hfresh] at e; cases e
  have hbit : wd.hb.heap.get? it = none := by
    cases q : wd.hb.heap.get? it with
    | none => rfl
    | some o => have := S.base it o q; rw [hfresh] at this; cases this
  have carry : ∀ {h'}, Heap.ExtBut it h₂ h' → Step (WE env) φ₁ h₁ φ₂ h' ∧ SR wd.C wd.hb φ₂ h' σ₂ ∧ EnvR wd.C wd.hb.heap φ₂ h' sc ν₂ env := fun he =>
    ⟨x₂.ext hfresh he, S₂.same (Step.iter he) hard (fun a ma o g => he a o (fun q => ni (q ▸ ma)) g) (fun b o g g2 => he b o (fun q => by rw [q, hbit] at g; cases g) g2) (fun a m o g d => ⟨o, he a o (fun q => hfit (q ▸ m)) g, d⟩), E₂.keep (Step.iter he) hard fun a w q => nw (q ▸ w)⟩
  refine iter_next hA.hd (hIok k ν₂ σ₂ hI) S₂ hit₂ (by omega) (fun hk h' he => ?_) (fun y h' tk' y' hx rx hit' hs => ?_)
  · obtain ⟨a, b, c⟩ := carry he
    subst hk
    exact wpAny_execs_nil (hR .next ν₂ σ₂ φ₂ h' tk₂ _ (hend ν₂ σ₂ hI) ((x.env hE).trans a) b c .next)
  · obtain ⟨a, b, c⟩ := carry hs.extBut
    refine hturn k y ν₂ σ₂ hx hI A env φ₂ { s with heap := h', toks := tk' } y' hA c b rx _ _ fun ν₃ σ₃ φ₃ h₃ tk₃ hq x₃ S₃ E₃ => ?_
    refine hq A env φ₃ { s with heap := h₃, toks := tk₃ } hA E₃ S₃ _ _ fun f ν₄ σ₄ φ₄ h₄ tk₄ f' hq x₄ S₄ E₄ r => ?_
    have x34 := x₃.trans x₄
    cases r with
    | next =>
      have hkl : k < src.xs.length := (List.getElem?_eq_some_iff.mp hx).1
      obtain ⟨oj, hj1, hj2⟩ := hit'.not
      refine ⟨m - 1, by omega, k + 1, ν₄, σ₄, φ₄, h₄, tk₄, by omega, rfl, hq, a.trans x34, S₄, E₄, hit'.step x34 c.hard ni nw, x34.off hj1 ni, nw⟩
    | ret r => exact hR _ ν₄ σ₄ φ₄ h₄ tk₄ _ hq ((x.env hE).trans (a.trans x34)) S₄ E₄ (.ret r)
end
end Mine
end
noncomputable section
open PySem PySem.W PyProof.Rows PySem.SeqAt
set_option Elab.async false
set_option genSizeOf false
set_option genInjectivity false
set_option maxRecDepth 4000
set_option linter.unusedVariables false
namespace Mine
variable {wd : Wd}
def clo (cells : List (Str × Addr)) : List (Str × NameKind) → List (Str × Addr) → List (Str × Addr)
  | [], acc => acc
  | (n, .free) :: r, acc => clo cells r ((n, (cells.lookup n).getD 0) :: acc)
  | _ :: r, acc => clo cells r acc
theorem closure_is {scope : Scope} {env : Env} (h : ∀ y ∈ scope.names, y.2 = .free → ∃ c, env.cells.lookup y.1 = some c) : closureFor scope env = pure (clo env.cells scope.names []) := by
  have : ∀ (l : List (Str × NameKind)) (acc : List (Str × Addr)), (∀ y ∈ l, y.2 = .free → ∃ c, env.cells.lookup y.1 = some c) → (forIn l acc fun (x : Str × NameKind) r => (if (x.2 == .free) = true then do let c ← cellOf env x.1; pure (ForInStep.yield ((x.1, c) :: r)) else pure (ForInStep.yield r) : Sem (ForInStep (List (Str × Addr))))) = (pure (clo env.cells l acc) : Sem (List (Str × Addr))) := by
    intro l
    induction l with
    | nil => intro acc _; rfl
    | cons y l ih =>
      intro acc hh
      obtain ⟨n, k⟩ := y
      rw [List.forIn_cons]
      cases k with
      | free =>
        obtain ⟨c, hc⟩ := hh (n, .free) (List.mem_cons_self ..) rfl
        have e : cellOf env n = pure c := by unfold cellOf; simp only [show env.cells.lookup n = some c from hc]
        simp only [e]
        simp only [clo, hc, Option.getD_some]
        exact ih _ fun y hy => hh y (List.mem_cons_of_mem _ hy)
      | _ => exact ih _ fun y hy => hh y (List.mem_cons_of_mem _ hy)
  have t := this scope.names [] h
  have e : closureFor scope env = ((forIn scope.names [] fun (x : Str × NameKind) r => (if (x.2 == .free) = true then do let c ← cellOf env x.1; pure (ForInStep.yield ((x.1, c) :: r)) else pure (ForInStep.yield r) : Sem (ForInStep (List (Str × Addr))))) >>= fun r => pure r) := rfl
  rw [e, t]; rfl
theorem clo_eq (cells : List (Str × Addr)) : ∀ (l : List (Str × NameKind)) (acc : List (Str × Addr)), clo cells l acc = ((l.filter (·.2 == .free)).map fun y => (y.1, (cells.lookup y.1).getD 0)).reverse ++ acc
  | [], acc => rfl
  | (n, k) :: r, acc => by
    cases k <;> first | exact clo_eq cells r acc | (show clo cells r (_ :: acc) = _; rw [clo_eq cells r]; simp)
theorem lookup_only {α : Type} {l : List (Str × α)} {y : Str} {c : α} (h : ∀ p ∈ l, p.1 = y → p.2 = c) (m : ∃ p ∈ l, p.1 = y) : l.lookup y = some c := by
  induction l with
  | nil => obtain ⟨p, hp, _⟩ := m; cases hp
  | cons a l ih =>
    obtain ⟨k, b⟩ := a
    rw [List.lookup_cons]
    cases e : y == k with
    | true => exact congrArg some (h (k, b) (List.mem_cons_self ..) (eq_of_beq e).symm)
    | false =>
      obtain ⟨p, hp, hy⟩ := m
      rcases List.mem_cons.mp hp with rfl | hp
      · rw [← hy, beq_self_eq_true] at e; cases e
      · exact ih (fun p hp => h p (List.mem_cons_of_mem _ hp)) ⟨p, hp, hy⟩
theorem nd_inj {α : Type} {l : List (Str × α)} (h : l.Pairwise fun a b => a.1 ≠ b.1) {a b : Str × α} (ha : a ∈ l) (hb : b ∈ l) (e : a.1 = b.1) : a = b := by
  induction l with
  | nil => cases ha
  | cons c l ih =>
    rw [List.pairwise_cons] at h
    rcases List.mem_cons.mp ha with ea | ia <;> rcases List.mem_cons.mp hb with eb | ib
    · rw [ea, eb]
    · rw [ea] at e; exact (h.1 b ib e).elim
    · rw [eb] at e; exact (h.1 a ia e.symm).elim
    · exact ih h.2 ia ib
def relab (scope sc : Scope) : Scope :=
  { scope with names := scope.names.map fun (n, k) => if (k == .free && sc.kind == .function && sc.names.lookup n == some .cell) then (n, .cell) else (n, k) }
theorem relab_lookup (sc : Scope) : ∀ (l : List (Str × NameKind)) (x : Str), (l.map fun (n, k) => if (k == NameKind.free && sc.kind == .function && sc.names.lookup n == some .cell) = true then (n, NameKind.cell) else (n, k)).lookup x =
    (l.lookup x).map fun k => if (k == .free && sc.kind == .function && sc.names.lookup x == some .cell) = true then .cell else k
  | [], _ => rfl
  | (n, k) :: r, x => by
    rw [List.map_cons]
    cases e : x == n with
    | true =>
      cases (eq_of_beq e)
      rw [show List.lookup n ((n, k) :: r) = some k by rw [List.lookup_cons, beq_self_eq_true]]
      show List.lookup n ((if (k == NameKind.free && sc.kind == .function && sc.names.lookup n == some .cell) = true then (n, NameKind.cell) else (n, k)) :: _) = some (if (k == NameKind.free && sc.kind == .function && sc.names.lookup n == some .cell) = true then .cell else k)
      by_cases c : (k == NameKind.free && sc.kind == .function && sc.names.lookup n == some .cell) = true
      · rw [if_pos c, if_pos c, List.lookup_cons, beq_self_eq_true]
      · rw [if_neg c, if_neg c, List.lookup_cons, beq_self_eq_true]
    | false =>
      rw [show List.lookup x ((n, k) :: r) = List.lookup x r by rw [List.lookup_cons, e]]
      rw [← relab_lookup sc r x]
      show List.lookup x ((if (k == NameKind.free && sc.kind == .function && sc.names.lookup n == some .cell) = true then (n, NameKind.cell) else (n, k)) :: _) = _
      by_cases c : (k == NameKind.free && sc.kind == .function && sc.names.lookup n == some .cell) = true
      · rw [if_pos c, List.lookup_cons, e]
      · rw [if_neg c, List.lookup_cons, e]
def freeVars (scope : Scope) (ν : Vars) : Vars := ν.filter fun p => scope.names.lookup p.1 == some .free
theorem lookup_filter {α : Type} (P : Str → Bool) (l : List (Str × α)) (y : Str) : (l.filter fun p => P p.1).lookup y = if P y then l.lookup y else none := by
  induction l with
  | nil => simp
  | cons a l ih =>
    obtain ⟨k, b⟩ := a
    rw [List.filter_cons]
    cases e : y == k with
    | true =>
      cases (eq_of_beq e)
      cases c : P y with
      | true => simp only [if_true, List.lookup_cons, beq_self_eq_true]
      | false => simp only [Bool.false_eq_true, if_false]; rw [ih, c]; rfl
    | false =>
      cases c : P k with
      | true => simp only [if_true, List.lookup_cons, e]; exact ih
      | false => simp only [Bool.false_eq_true, if_false, List.lookup_cons, e]; exact ih
/-- what a comprehension's own table must hold to be walked; for a given table: by decide -/
structure CompSc (scope sc : Scope) (x : Str) : Prop where
  kind : scope.kind = .function
  skind : sc.kind = .function
  ncell : ∀ y ∈ scope.names, y.2 ≠ .cell
  locals : ∀ y ∈ scope.names, y.2 = .local → scope.names.lookup y.1 = some .local
  target : scope.names.lookup x = some .local
  free : ∀ y ∈ scope.names, y.2 = .free → sc.names.lookup y.1 = some .cell
  nd : scope.names.Pairwise fun a b => a.1 ≠ b.1
section
variable {C : Cls} {hb : Heap} {h h' : Heap} {φ φ' : List Addr} {sc scope : Scope} {ν : Vars} {env : Env} {σ : List O} {x : Str}
theorem EnvR.comp (E : EnvR C hb φ h sc ν env) (K : CompSc scope sc x) {L : Addr} {env' : Env} {m' : Str → Option Value} (st : Step noW φ h φ' h') (hs : env'.scope = relab scope sc) (hg : env'.globals = env.globals) (hbi : env'.builtins = env.builtins)
    (hl : env'.locals = L) (hc : env'.cells = clo env.cells scope.names []) (fL : h.get? L = none) (nL : L ∉ φ') (bL : hb.get? L = none) (n' : h'.Ns L m') : EnvR C hb φ' h' (relab scope sc) (freeVars scope ν) env' := by
  subst hl
  have E' := E.step st
  have mem : ∀ p ∈ env'.cells, p ∈ env.cells ∧ scope.names.lookup p.1 = some .free ∧ sc.names.lookup p.1 = some .cell := by
    intro p hp
    rw [hc, clo_eq, List.append_nil, List.mem_reverse, List.mem_map] at hp
    obtain ⟨y, hy, rfl⟩ := hp
    obtain ⟨hy, hf⟩ := List.mem_filter.mp hy
    have hf : y.2 = .free := eq_of_beq hf
    have e1 := K.free y hy hf
    obtain ⟨c, e2⟩ := E.has _ e1
    refine ⟨?_, lookup_only (fun q hq e => ?_) ⟨y, hy, rfl⟩, e1⟩
    · rw [e2]; exact mem_of_lookup e2
    · rw [nd_inj K.nd hq hy e]; exact hf
  have look : ∀ y c, scope.names.lookup y = some .free → env.cells.lookup y = some c → env'.cells.lookup y = some c := by
    intro y c h1 h2
    rw [hc, clo_eq, List.append_nil]
    refine lookup_only (fun p hp e => ?_) ⟨(y, c), ?_, rfl⟩
    · rw [List.mem_reverse, List.mem_map] at hp
      obtain ⟨z, _, rfl⟩ := hp
      show (env.cells.lookup z.1).getD 0 = c
      rw [show z.1 = y from e, h2]; rfl
    · rw [List.mem_reverse, List.mem_map]
      refine ⟨(y, .free), List.mem_filter.mpr ⟨mem_of_lookup h1, rfl⟩, ?_⟩
      show (y, (env.cells.lookup y).getD 0) = _
      rw [h2]; rfl
  have relk : ∀ y, scope.names.lookup y = some .free → sc.names.lookup y = some .cell → (relab scope sc).names.lookup y = some .cell := by
    intro y h1 h2
    show List.lookup y (List.map _ scope.names) = _
    rw [relab_lookup, h1, h2, K.skind]; rfl
  refine ⟨hs, K.kind, hg.trans E.gl, hbi.trans E.bi, nL, bL, fun p hp => ?_, ?_, fun p hp => E'.cell p (mem p hp).1, fun y hy => ?_, m', n', fun y v e => ?_⟩
  · obtain ⟨a, b, c⟩ := E'.cφ p (mem p hp).1
    refine ⟨a, b, fun q => ?_⟩
    obtain ⟨w, hw⟩ := E.cell p (mem p hp).1
    obtain ⟨o, e, _⟩ := cell_get hw
    rw [q, fL] at e; cases e
  · rw [hc, clo_eq, List.append_nil, List.pairwise_reverse, List.pairwise_map]
    refine List.Pairwise.imp_of_mem (fun {a b} ha hb' hab e => ?_) (K.nd.sublist List.filter_sublist)
    obtain ⟨ha, fa⟩ := List.mem_filter.mp ha
    obtain ⟨hb', fb⟩ := List.mem_filter.mp hb'
    obtain ⟨c, e2⟩ := E.has _ (K.free a ha (eq_of_beq fa))
    obtain ⟨c', e3⟩ := E.has _ (K.free b hb' (eq_of_beq fb))
    dsimp only at e
    rw [e2, e3] at e
    cases e
    exact hab (lookup_inj E.apart e2 e3)
  · have hy' : ((relab scope sc).names.lookup y) = some .cell := hy
    unfold relab at hy'
    dsimp only at hy'
    rw [relab_lookup] at hy'
    obtain ⟨k, hk, e⟩ := Option.map_eq_some_iff.mp hy'
    have hm := mem_of_lookup hk
    by_cases c : k = .free
    · subst c
      have e1 := K.free _ hm rfl
      obtain ⟨c, e2⟩ := E.has _ e1
      exact ⟨c, look y c hk e2⟩
    · rw [if_neg (by simp [c])] at e
      exact (K.ncell _ hm e).elim
  · unfold freeVars at e
    rw [lookup_filter (fun z => scope.names.lookup z == some .free)] at e
    by_cases c : (scope.names.lookup y == some .free) = true
    · rw [if_pos c] at e
      have hf : scope.names.lookup y = some .free := by simpa using c
      have e1 := K.free _ (mem_of_lookup hf) rfl
      obtain ⟨m, n, hm⟩ := E'.ns
      obtain ⟨v', r, k⟩ := hm y v e
      refine ⟨v', r, .inr ⟨.inl (relk y hf e1), ?_⟩⟩
      rcases k with ⟨k, _⟩ | ⟨_, c, h1, h2⟩
      · rw [e1] at k; cases k
      · exact ⟨c, look y c hf h1, h2⟩
    · rw [if_neg c] at e; cases e
theorem EnvR.less {ν' : Vars} (E : EnvR C hb φ h sc ν env) (k : ∀ y v, ν'.lookup y = some v → ν.lookup y = some v) : EnvR C hb φ h sc ν' env :=
  ⟨E.isSc, E.fk, E.gl, E.bi, E.Lφ, E.Lb, E.cφ, E.apart, E.cell, E.has, let ⟨m, n, hm⟩ := E.ns; ⟨m, n, fun y v e => hm y v (k y v e)⟩⟩
end
end Mine
end
noncomputable section
open PySem PySem.W PyProof.Rows PySem.SeqAt
set_option Elab.async false
set_option genSizeOf false
set_option genInjectivity false
set_option maxRecDepth 4000
set_option linter.unusedVariables false
namespace Mine
variable {wd : Wd}
theorem Iat.fields {C : Cls} {φ : List Addr} {h : Heap} {it : Addr} {k : Nat} {src : Src} (x : Iat C φ h it k src) : ∃ o fs, h.get? it = some o ∧ o.data = .fields fs := by
  cases src with
  | list i l => obtain ⟨a, _, o, h1, h2, h3⟩ := x; exact ⟨o, _, h1, h3⟩
  | tup l => obtain ⟨_, _, _, _, _, _, o, h1, h2, h3⟩ := x; exact ⟨o, _, h1, h3⟩
  | range a b s => exact ⟨_, _, x, rfl⟩
theorem EnvR.notFields {C : Cls} {hb h : Heap} {φ : List Addr} {sc : Scope} {ν : Vars} {env : Env} (E : EnvR C hb φ h sc ν env) {it : Addr} (x : ∃ o fs, h.get? it = some o ∧ o.data = .fields fs) : ¬ WE env it := by
  obtain ⟨o, fs, e, d⟩ := x
  rintro (rfl | ⟨p, hp, rfl⟩)
  · obtain ⟨m, ⟨o', es, ep, ho, hd, _⟩, _⟩ := E.ns
    rw [ho] at e; cases e; rw [hd] at d; cases d
  · obtain ⟨v, o', ho, hd⟩ := E.cell p hp
    rw [ho] at e; cases e; rw [hd] at d; cases d
theorem iter_self {A : Around} {s : Shared} {E : Value → Shared → Prop} {φ : List Addr} {C : Cls} {src : Src} {k : Nat} {it : Addr} (x : Iat C φ s.heap it k src) {Q : Value → Shared → Prop} (h : Q (.ref it) s) : wpAny (model wd.prog wd.w) A (pyIter (.ref it)) Q E s := by
  cases src with
  | list i l => obtain ⟨a, _, q⟩ := x; exact wpAny_pyIter_listiter q h
  | tup l => obtain ⟨_, _, _, _, _, _, q⟩ := x; exact wpAny_pyIter_tupleiter q h
  | range a b s => exact wpAny_pyIter_rangeiter x h
def testsOf (ifs : List Expr) (env : Env) : Sem Bool := forIn ifs true fun c r => if r = true then do let ok ← isTrue c env (eval c env); pure (ForInStep.yield ok) else pure (ForInStep.yield r)
section
variable {d : Nat} {sc : Scope} {ν : Vars} {σ : List O} {Q : V → List O → Prop} {T : Bool → List O → Prop}
theorem PB.none (h : T true σ) : PB wd d sc ν σ (testsOf []) T := fun A env φ s hA hE hS R E hR => wpAny_pure (hR true σ φ s.heap s.toks true h .refl hS rfl)
inductive CompI (wd : Wd) (s : Shared) (σ₁ : List O) (D : Addr) (sc' : Scope) (fv : Vars) (cenv : Env) (φ₁ : List Addr) (h₁ : Heap) (it : Addr) (src : Src) (I : Nat → List V → List O → Prop) (m : Nat) (s' : Shared) : Prop
  | mk (k : Nat) (acc : List V) (σ' : List O) (φ' : List Addr) (h' : Heap) (tk' : Nat) (hm : m + k = src.xs.length) (e : s' = { s with heap := h', toks := tk' }) (hI : I k acc σ') (hacc : acc.length ≤ k) (hφ : φ'[σ₁.length]? = some D)
      (x : Step noW φ₁ h₁ φ' h') (S : SR wd.C wd.hb φ' h' σ') (E : EnvR wd.C wd.hb.heap φ' h' sc' fv cenv) (a : Iat wd.C φ' h' it k src) (ni : it ∉ φ') : CompI wd s σ₁ D sc' fv cenv φ₁ h₁ it src I m s'
/-- what a list comprehension needs of its iterable -/
inductive CompP (wd : Wd) (d : Nat) (sc' : Scope) (x : Str) (fv : Vars) (elt : Expr) (ifs : List Expr) (Q : V → List O → Prop) (v : V) (σ₁ : List O) : Prop
  | mk (src : Src) (hof : src.of v) (hok : src.ok σ₁) (hsz : src.xs.length ≤ 1000000) (I : Nat → List V → List O → Prop) (h0 : I 0 [] (σ₁ ++ [.list []])) (hI : ∀ k acc σ, I k acc σ → src.ok σ)
      (turn : ∀ k y acc σ, src.xs[k]? = some y → I k acc σ → PB wd d sc' ((x, y) :: fv) σ (testsOf ifs) fun b σ₂ =>
        if b then PV wd d sc' ((x, y) :: fv) σ₂ (eval elt) fun v σ₃ => σ₃[σ₁.length]? = some (.list acc) ∧ I (k + 1) (acc ++ [v]) (σ₃.set σ₁.length (.list (acc ++ [v]))) else I (k + 1) acc σ₂)
      (fin : ∀ acc σ, I src.xs.length acc σ → Q (.ref σ₁.length) σ) : CompP wd d sc' x fv elt ifs Q v σ₁
theorem comp_loop {elt iter : Expr} {x : Str} {px pos : Pos} {ifs : List Expr} {scope : Scope} (K : CompSc scope sc x) {A : Around} (hA : AOk wd.hb.fs d A) {φ φ₁ φ₃ : List Addr} {s : Shared} {h₁ h₃ : Heap} {tk : Nat} {it D L : Addr} {σ₁ : List O} {src : Src} {I : Nat → List V → List O → Prop}
    (hsz : src.xs.length ≤ 1000000) (hI0 : I 0 [] (σ₁ ++ [.list []])) (hIok : ∀ k acc σ, I k acc σ → src.ok σ)
    (hturn : ∀ k y acc σ, src.xs[k]? = some y → I k acc σ → PB wd d (relab scope sc) ((x, y) :: freeVars scope ν) σ (testsOf ifs) fun b σ₂ =>
        if b then PV wd d (relab scope sc) ((x, y) :: freeVars scope ν) σ₂ (eval elt) fun v σ₃ => σ₃[σ₁.length]? = some (.list acc) ∧ I (k + 1) (acc ++ [v]) (σ₃.set σ₁.length (.list (acc ++ [v]))) else I (k + 1) acc σ₂)
    (hend : ∀ acc σ, I src.xs.length acc σ → Q (.ref σ₁.length) σ) (fIt : h₁.get? it = Option.none) (f1L : h₁.get? L = Option.none) (bL : wd.hb.heap.get? L = Option.none) (bIt : wd.hb.heap.get? it = Option.none) (fsL : L ∉ wd.hb.fs) (fsIt : it ∉ wd.hb.fs)
    (hD : φ₃[σ₁.length]? = some D) (st3 : Step noW φ₁ h₁ φ₃ h₃) (S3 : SR wd.C wd.hb φ₃ h₃ (σ₁ ++ [.list []])) (hit3 : Iat wd.C φ₃ h₃ it 0 src) (nIt : it ∉ φ₃) (xst : Step noW φ s.heap φ₁ h₁) {R : Value → Shared → Prop} {E : Value → Shared → Prop}
    (hR : ∀ b σ' φ' h' tk a, Q b σ' → Step noW φ s.heap φ' h' → SR wd.C wd.hb φ' h' σ' → VR wd.C φ' h' b a → R a { s with heap := h', toks := tk })
    (cenv : Env) (hcL : cenv.locals = L) (EC : EnvR wd.C wd.hb.heap φ₃ h₃ (relab scope sc) (freeVars scope ν) cenv) :
    codeAny (model wd.prog wd.w) A (.compLoop (.ListComp elt [⟨.Name x px, iter, ifs, 0⟩] scope pos) 0 (.ref it) (.ref D) cenv) (compPost (model wd.prog wd.w) A E Option.none R (.ref D) L) { s with heap := h₃, toks := tk } := by
  have hcsc : cenv.scope = relab scope sc := EC.isSc
  refine codeAny_compLoop_tests (CompI wd s σ₁ D (relab scope sc) (freeVars scope ν) cenv φ₁ h₁ it src I) ?_ src.xs.length
    ⟨0, [], _, _, h₃, tk, rfl, rfl, hI0, Nat.le_refl _, hD, st3, S3, EC, hit3, nIt⟩
  rintro m _ ⟨k, acc, σ₂, φ₂, h₂, tk₂, hmk, rfl, hI, hacc, hφ, xx, S₂, E₂, hit₂, ni⟩
  have nw : ¬ WE cenv it := E₂.notFields hit₂.fields
  obtain ⟨oi, hi1, hi2⟩ := hit₂.not
  have hard : Hard (· = it) h₂ := fun a o e g => by subst e; rw [hi1] at g; cases g; exact hi2
  have carry : ∀ {h'}, Heap.ExtBut it h₂ h' → Step noW φ₁ h₁ φ₂ h' ∧ SR wd.C wd.hb φ₂ h' σ₂ ∧ EnvR wd.C wd.hb.heap φ₂ h' (relab scope sc) (freeVars scope ν) cenv := fun he =>
    ⟨xx.ext fIt he, S₂.same (Step.iter he) hard (fun a ma o g => he a o (fun q => ni (q ▸ ma)) g) (fun b o g g2 => he b o (fun q => by rw [q, bIt] at g; cases g) g2) (fun a m o g d => ⟨o, he a o (fun q => fsIt (q ▸ m)) g, d⟩), E₂.keep (Step.iter he) hard fun a w q => nw (q ▸ w)⟩
  refine iter_next hA.hd (hIok k acc σ₂ hI) S₂ hit₂ (by omega) (fun hk h' he => ?_) (fun y h' tk' y' hy ry hit' hs => ?_)
  · obtain ⟨a, b, c⟩ := carry he
    obtain ⟨mm, n, _⟩ := c.ns
    rw [hcL] at n
    refine ⟨mm, n, fun h'' hs'' => ?_⟩
    subst hk
    have hl := EnvR.hard c
    have fL' : L ∉ φ₂ := by rw [← hcL]; exact c.Lφ
    have stL : Step (· = L) φ₂ h' φ₂ h'' := ⟨List.prefix_refl _, fun _ q => .inl q, fun b o g w => ⟨o, (hs''.2 b w).trans g⟩, fun b o g _ w => .inl ((hs''.2 b w).trans g)⟩
    have hardL : Hard (· = L) h' := fun a o e g => hl a o (.inl (e.trans hcL.symm)) g
    exact hR _ σ₂ φ₂ h'' tk₂ _ (hend acc σ₂ hI) (xst.trans (a.ext f1L hs''.extBut)) (b.same stL hardL (fun a ma o g => (hs''.2 a fun q => fL' (q ▸ ma)).trans g) (fun b o g g2 => (hs''.2 b fun q => by rw [q, bL] at g; cases g).trans g2) (fun a m o g d => ⟨o, (hs''.2 a fun q => fsL (q ▸ m)).trans g, d⟩)) (.ref hφ)
  · obtain ⟨a, b, c⟩ := carry hs.extBut
    have hkl : k < src.xs.length := (List.getElem?_eq_some_iff.mp hy).1
    obtain ⟨mm, n, hm⟩ := c.ns
    have hx : (relab scope sc).names.lookup x = some .local := by
      show List.lookup x (List.map _ scope.names) = _
      rw [relab_lookup, K.target]; rfl
    have hk2 : cenv.scope.kind = .function := by rw [hcsc]; exact K.kind
    refine wpAny_assign_Name (wpAny_storeName_local (by unfold Env.kindOf; rw [hcsc]; exact hx) n (fun h₄ n₄ hs₄ => ?_) (by rw [hk2]; rfl))
    dsimp only at n₄ hs₄ ⊢
    obtain ⟨st₄, E₄⟩ := c.setLocal hx n hm ry n₄ hs₄
    have S₄ := b.own c st₄ (fun a o w e => (hs₄.2 a fun q => w (.inl q)).trans e) (ns_dict n₄)
    have x₄ : Step noW φ₁ h₁ φ₂ h₄ := a.ext (by rw [hcL]; exact f1L) hs₄.extBut
    obtain ⟨oj, fs, hj1, hj2⟩ := hit'.fields
    have nw' : ¬ WE cenv it := c.notFields hit'.fields
    have hit₄ := hit'.step st₄ c.hard ni nw'
    refine hturn k y acc σ₂ hy hI A cenv φ₂ { s with heap := h₄, toks := _ } hA E₄ S₄ _ _ fun t σ₅ φ₅ h₅ tk₅ t' hq x₅ S₅ rt => ?_
    subst rt
    have E₅ := E₄.step x₅
    have hit₅ := hit₄.step x₅ hard_no ni id
    obtain ⟨o5, _, h51, _⟩ := hit₄.fields
    have ni5 := x₅.off h51 ni
    have weak : ∀ z u, (freeVars scope ν).lookup z = some u → List.lookup z ((x, y) :: freeVars scope ν) = some u := fun z u e => by
      rw [List.lookup_cons]
      cases q : z == x with
      | false => exact e
      | true =>
        rw [eq_of_beq q] at e
        unfold freeVars at e
        rw [lookup_filter (fun z => scope.names.lookup z == some .free), K.target] at e
        simp at e
    cases t' with
    | false =>
      exact ⟨m - 1, by omega, k + 1, acc, σ₅, φ₅, h₅, tk₅, by omega, rfl, hq, by omega, x₅.look hφ, x₄.trans x₅, S₅, E₅.less weak, hit₅, ni5⟩
    | true =>
      refine hq A cenv φ₅ { s with heap := h₅, toks := tk₅ } hA E₅ S₅ _ _ fun v₆ σ₆ φ₆ h₆ tk₆ v₆' hq x₆ S₆ r₆ => ?_
      obtain ⟨hσ₆, hI'⟩ := hq
      have hφ₆ := x₆.look (x₅.look hφ)
      refine CallR.append (wd := wd) (d := d) (Q := fun v σ' => v = .none ∧ σ' = σ₆.set σ₁.length (.list (acc ++ [v₆]))) hσ₆ (by omega) ⟨rfl, rfl⟩ A φ₆ { s with heap := h₆, toks := tk₆ } [.ref D, v₆'] hA S₆ (.cons (.ref hφ₆) (.cons r₆ .nil)) _ _ fun u σ₇ φ₇ h₇ tk₇ u' hq x₇ S₇ r₇ => ?_
      obtain ⟨rfl, rfl⟩ := hq
      obtain ⟨o6, _, h61, _⟩ := hit₅.fields
      have ni6 := x₆.off h61 ni5
      have hit₆ := hit₅.step x₆ hard_no ni5 id
      obtain ⟨o7, _, h71, _⟩ := hit₆.fields
      exact ⟨m - 1, by omega, k + 1, _, _, φ₇, h₇, tk₇, by omega, rfl, hI', by simp; omega, x₇.look hφ₆, x₄.trans (x₅.trans (x₆.trans x₇)), S₇, ((E₅.step x₆).step x₇).less weak, hit₆.step x₇ hard_no ni6 id, x₇.off h71 ni6⟩
theorem PV.comp {elt iter : Expr} {x : Str} {px pos : Pos} {ifs : List Expr} {scope : Scope} (K : CompSc scope sc x)
    (h : PV wd d sc ν σ (eval iter) (CompP wd d (relab scope sc) x (freeVars scope ν) elt ifs Q))
    (hf : ∀ env x, foldedSetIterable iter env x = pure x := by intro _ _; rfl) :
    PV wd d sc ν σ (eval (.ListComp elt [⟨.Name x px, iter, ifs, 0⟩] scope pos)) Q := by
  intro A env φ s hA hE hS R E hR
  rw [eval_ListComp]
  have hcl := closure_is (scope := scope) (env := env) fun y hy hf => hE.has _ (K.free y hy hf)
  have hrel : relabel scope env = relab scope sc := by unfold relabel relab; rw [← hE.isSc]; rfl
  refine wpAny_comprehension_free (use := none) rfl (hf env) hcl K.kind K.locals (h A env φ s hA hE hS _ _ fun v σ₁ φ₁ h₁ tk v' hq xst S r => ?_)
  obtain ⟨src, hof, hok, hsz, I, hI0, hIok, hturn, hend⟩ := hq
  have E₁ := hE.step xst
  rw [hrel]
  refine iter_open hof hok S r fun ob hit => ?_
  dsimp only at hit ⊢
  refine wpAny_newObj_type (wpAny_newFunctionEnv K.ncell (by intro y hy; simp at hy) (fun h₃ hns hsb => ?_) K.kind)
  dsimp only at hns hsb ⊢
  obtain ⟨x2, S2, r2⟩ := (S.pushed ob).push (listObj [] 0) (.list []) rfl ⟨[], 0, rfl, .nil⟩
  have stp := Step.pushed (φ := φ₁) (h := h₁) ob
  have fIt : h₁.get? h₁.objs.size = none := get_size_none _
  have fD : (h₁.push ob).get? (h₁.push ob).objs.size = none := get_size_none _
  have fL : ((h₁.push ob).push (listObj [] 0)).get? ((h₁.push ob).push (listObj [] 0)).objs.size = none := get_size_none _
  have nL := VR.fresh S2
  have keep3 : ∀ b o, ((h₁.push ob).push (listObj [] 0)).get? b = some o → h₃.get? b = some o := fun b o e => (hsb.2 b (fun q => by rw [q] at e; exact absurd (e.symm.trans fL) (by simp))).trans (Heap.get?_push_of_some _ e)
  have hD : (φ₁ ++ [(h₁.push ob).objs.size])[σ₁.length]? = some (h₁.push ob).objs.size := by rw [← S.len]; simp
  have st12 := stp.trans x2
  have st3 := st12.trans (Step.kept' keep3)
  have S3 := S2.kept keep3
  have f1L : h₁.get? ((h₁.push ob).push (listObj [] 0)).objs.size = none := by
    cases q : h₁.get? ((h₁.push ob).push (listObj [] 0)).objs.size with
    | none => rfl
    | some o => exact absurd ((Heap.get?_push_of_some (listObj [] 0) (Heap.get?_push_of_some ob q)).symm.trans fL) (by simp)
  have bOf : ∀ c, h₁.get? c = none → wd.hb.heap.get? c = none := fun c hc => by
    cases q : wd.hb.heap.get? c with
    | none => rfl
    | some o => have := S.base c o q; rw [hc] at this; cases this
  have fsOf : ∀ c, h₁.get? c = none → c ∉ wd.hb.fs := fun c hc m => by obtain ⟨_, _, o, e, _⟩ := S.fr c m; rw [hc] at e; cases e
  have nIt1 : h₁.objs.size ∉ φ₁ := VR.fresh S
  have nIt : h₁.objs.size ∉ φ₁ ++ [(h₁.push ob).objs.size] := fun m => by
    rcases List.mem_append.mp m with m | m
    · exact nIt1 m
    · rw [List.mem_singleton, Heap.size_push] at m
      exact absurd m (Nat.ne_of_lt (Nat.lt_succ_self _))
  have hit3 := (hit.step x2 hard_no nIt1 id).step (Step.kept' keep3) hard_no nIt id
  have loop := comp_loop K (px := px) (pos := pos) (iter := iter) (elt := elt) (ifs := ifs) (s := s) (tk := tk) (E := E) hA hsz hI0 hIok hturn hend fIt f1L (bOf _ f1L) (bOf _ fIt) (fsOf _ f1L) (fsOf _ fIt) hD st3 S3 hit3 nIt xst hR
  have EC := E₁.comp K (L := ((h₁.push ob).push (listObj [] 0)).objs.size) (env' := { newEnv scope ((h₁.push ob).push (listObj [] 0)).objs.size env.globals (clo env.cells scope.names []) env.qual none .none (some env) builtinsNs with scope := relab scope sc }) st3 rfl rfl (by rfl) rfl rfl f1L nL (bOf _ f1L) hns
  exact codeAny_compStart_list (loop _ rfl EC) (iter_self hit3 (loop _ rfl EC))
end
end Mine
end
noncomputable section
open PySem PySem.W PyProof.Rows PySem.SeqAt
set_option Elab.async false
set_option genSizeOf false
set_option genInjectivity false
set_option maxRecDepth 4000
set_option linter.unusedVariables false
namespace Mine
variable {wd : Wd}
theorem cells_keys : ∀ (l : List (Str × NameKind)) (n : Nat) (acc : List (Str × Addr)), (cellsFrom n l acc).map (·.1) = ((l.filter (·.2 == .cell)).map (·.1)).reverse ++ acc.map (·.1)
  | [], n, acc => rfl
  | (x, k) :: r, n, acc => by
    unfold cellsFrom
    by_cases c : (k == NameKind.cell) = true
    · rw [if_pos c, cells_keys r, List.filter_cons, if_pos c]; simp
    · rw [if_neg c, cells_keys r, List.filter_cons, if_neg c]
theorem cells_pair {l : List (Str × NameKind)} {n : Nat} (nd : l.Pairwise fun a b => a.1 ≠ b.1) : (cellsFrom n l []).Pairwise fun a b => a.1 ≠ b.1 := by
  have h : ((cellsFrom n l []).map (·.1)).Pairwise (· ≠ ·) := by
    rw [cells_keys, List.map_nil, List.append_nil, List.pairwise_reverse, List.pairwise_map]
    exact (nd.sublist List.filter_sublist).imp fun h => h.symm
  rw [List.pairwise_map] at h; exact h
theorem cells_has {l : List (Str × NameKind)} {n : Nat} {x : Str} (nd : l.Pairwise fun a b => a.1 ≠ b.1) (h : l.lookup x = some .cell) : ∃ c, (cellsFrom n l []).lookup x = some c := by
  have m : x ∈ (cellsFrom n l []).map (·.1) := by
    rw [cells_keys, List.map_nil, List.append_nil, List.mem_reverse, List.mem_map]
    exact ⟨(x, .cell), List.mem_filter.mpr ⟨mem_of_lookup h, rfl⟩, rfl⟩
  obtain ⟨p, hp, e⟩ := List.mem_map.mp m
  exact ⟨p.2, lookup_only (fun q hq eq => by rw [nd_inj (cells_pair nd) hq hp (eq.trans e.symm)]) ⟨p, hp, e⟩⟩
theorem bindL_skip (kd : Str → Option NameKind) : ∀ (l : List (Str × Value)) (m : Str → Option Value) (y : Str), (∀ p ∈ l, p.1 ≠ y) → bindL kd l m y = m y
  | [], m, y, _ => rfl
  | (n, v) :: r, m, y, h => by
    unfold bindL
    rw [bindL_skip kd r _ y fun p hp => h p (List.mem_cons_of_mem _ hp)]
    have : y ≠ n := (h (n, v) (List.mem_cons_self ..)).symm
    split <;> simp [this]
theorem bindC_skip (kd : Str → Option NameKind) : ∀ (l : List (Str × Value)) (m : Str → Option Value) (y : Str), (∀ p ∈ l, p.1 ≠ y) → bindC kd l m y = m y
  | [], m, y, _ => rfl
  | (n, v) :: r, m, y, h => by
    unfold bindC
    rw [bindC_skip kd r _ y fun p hp => h p (List.mem_cons_of_mem _ hp)]
    have : y ≠ n := (h (n, v) (List.mem_cons_self ..)).symm
    split <;> simp [this]
theorem bindL_look (kd : Str → Option NameKind) : ∀ (l : List (Str × Value)) (m : Str → Option Value) (y : Str) (v : Value), (l.Pairwise fun a b => a.1 ≠ b.1) → l.lookup y = some v → kd y = some .local → bindL kd l m y = some v
  | (n, u) :: r, m, y, v, nd, h, hk => by
    rw [List.pairwise_cons] at nd
    rw [List.lookup_cons] at h
    unfold bindL
    cases e : y == n with
    | true =>
      rw [e] at h
      cases h; cases (eq_of_beq e)
      rw [bindL_skip kd r _ n fun p hp q => nd.1 p hp q.symm, if_pos hk, if_pos rfl]
    | false => rw [e] at h; exact bindL_look kd r _ y v nd.2 h hk
theorem bindC_look (kd : Str → Option NameKind) : ∀ (l : List (Str × Value)) (m : Str → Option Value) (y : Str) (v : Value), (l.Pairwise fun a b => a.1 ≠ b.1) → l.lookup y = some v → kd y = some .cell → bindC kd l m y = some v
  | (n, u) :: r, m, y, v, nd, h, hk => by
    rw [List.pairwise_cons] at nd
    rw [List.lookup_cons] at h
    unfold bindC
    cases e : y == n with
    | true =>
      rw [e] at h
      cases h; cases (eq_of_beq e)
      rw [bindC_skip kd r _ n fun p hp q => nd.1 p hp q.symm, if_neg (by rw [hk]; decide), if_pos rfl]
    | false => rw [e] at h; exact bindC_look kd r _ y v nd.2 h hk
theorem VRs.zip {C : Cls} {φ : List Addr} {h : Heap} {vs : List V} {ws : List Value} (r : VRs C φ h vs ws) {ps : List Str} {y : Str} {v : V} (e : (ps.zip vs).lookup y = some v) : ∃ v', (ps.zip ws).lookup y = some v' ∧ VR C φ h v v' := by
  induction ps generalizing vs ws with
  | nil => cases e
  | cons p ps ih =>
    cases r with
    | nil => cases e
    | @cons a a' l l' x r =>
      rw [List.zip_cons_cons, List.lookup_cons] at e
      rw [List.zip_cons_cons, List.lookup_cons]
      cases q : y == p with
      | true => rw [q] at e; cases e; exact ⟨_, rfl, x⟩
      | false => rw [q] at e; exact ih r e
theorem zip_pair {α : Type} {ps : List Str} (nd : ps.Pairwise (· ≠ ·)) : ∀ (l : List α), (ps.zip l).Pairwise fun a b => a.1 ≠ b.1 := by
  induction ps with
  | nil => intro l; exact .nil
  | cons p ps ih =>
    intro l
    cases l with
    | nil => exact .nil
    | cons a l =>
      rw [List.pairwise_cons] at nd
      rw [List.zip_cons_cons, List.pairwise_cons]
      exact ⟨fun q hq => nd.1 _ (List.of_mem_zip (a := q.1) (b := q.2) hq).1, ih nd.2 l⟩
theorem Step.drop {W : Addr → Prop} {φ φ' : List Addr} {h h₁ h' : Heap} (x : Step W φ h₁ φ' h') (k : ∀ b o, h.get? b = some o → h₁.get? b = some o) (f : ∀ a, W a → h.get? a = none) : Step noW φ h φ' h' := by
  refine ⟨x.pre, fun a m => (x.fresh a m).imp id fun q => ⟨?_, id⟩, fun b o e _ => x.live b o (k b o e) fun w => (by rw [f b w] at e; cases e), fun b o e n _ => x.keep b o (k b o e) n fun w => (by rw [f b w] at e; cases e)⟩
  cases e : h.get? a with
  | none => rfl
  | some o => rw [k a o e] at q; cases q.1
/-- a function, as the fragment has it -/
structure FnSc (K : Frag) (a : Addr) (fd : FuncData) (scope : Scope) (body : List Stmt) (ps : List Str) : Prop where
  ex : ∃ o, K.lookup a = some o ∧ o.data = .func fd
  sc : fd.scope = scope
  body : fd.body = .stmts body
  code : codeIn K fd.code fd.qualname = true
  gl : fd.globals = mainGlobals
  bi : fd.builtins = builtinsNs
  clo : fd.closure = []
  kind : scope.kind = .function
  co : scope.isCoroutine = false
  gen : scope.isGenerator = false
  nd : scope.names.Pairwise fun a b => a.1 ≠ b.1
  pd : ps.Pairwise (· ≠ ·)
  pk : ∀ x ∈ ps, scope.names.lookup x = some .local ∨ scope.names.lookup x = some .cell
  bind : ∀ (s : Shared) (vals : List Value), K.In s.heap → vals.length = ps.length → BindsTo s fd ⟨vals, []⟩ (ps.zip vals)
theorem FnSc.of {K : Frag} {a : Addr} {name qual : Str} {params : Arguments} {body : List Stmt} {scope : Scope} {dV kV doc pm : Value} {an : Option Addr} {cdv ct : Value} {ps : List Str}
    (ex : ∃ o, K.lookup a = some o ∧ o.data = .func (fnOf name qual params body scope dV kV doc pm an cdv ct)) (code : codeIn K cdv qual = true) (kind : scope.kind = .function) (co : scope.isCoroutine = false) (gen : scope.isGenerator = false)
    (nd : scope.names.Pairwise fun a b => a.1 ≠ b.1) (pd : ps.Pairwise (· ≠ ·)) (pk : ∀ x ∈ ps, scope.names.lookup x = some .local ∨ scope.names.lookup x = some .cell)
    (bind : ∀ (s : Shared) (vals : List Value), K.In s.heap → vals.length = ps.length → BindsTo s (fnOf name qual params body scope dV kV doc pm an cdv ct) ⟨vals, []⟩ (ps.zip vals)) :
    FnSc K a (fnOf name qual params body scope dV kV doc pm an cdv ct) scope body ps := ⟨ex, rfl, rfl, code, rfl, rfl, rfl, kind, co, gen, nd, pd, pk, bind⟩
theorem len1 {α : Type} {l : List α} (h : l.length = 1) : ∃ a, l = [a] := by
  match l, h with
  | [a], _ => exact ⟨a, rfl⟩
theorem len3 {α : Type} {l : List α} (h : l.length = 3) : ∃ a b c, l = [a, b, c] := by
  match l, h with
  | [a, b, c], _ => exact ⟨a, b, c, rfl⟩
theorem len5 {α : Type} {l : List α} (h : l.length = 5) : ∃ a b c d e, l = [a, b, c, d, e] := by
  match l, h with
  | [a, b, c, d, e], _ => exact ⟨a, b, c, d, e, rfl⟩
theorem len6 {α : Type} {l : List α} (h : l.length = 6) : ∃ a b c d e f, l = [a, b, c, d, e, f] := by
  match l, h with
  | [a, b, c, d, e, f], _ => exact ⟨a, b, c, d, e, f, rfl⟩
abbrev Wd.in (wd : Wd) (L : Addr) : Wd := { wd with hb := { wd.hb with fs := L :: wd.hb.fs } }
theorem Bd.in (B : Bd wd) (L : Addr) : Bd (wd.in L) := ⟨B.glob, B.lim, B.X⟩
def Fl.val : Fl → V
  | .next => .none
  | .ret v => v
section
variable {d : Nat} {σ : List O} {Q : V → List O → Prop}
/-- into a call: what stands at its first statement -/
theorem wp_enter (B : Bd wd) {fd : FuncData} {scope : Scope} {body : List Stmt} {ps : List Str} {a : Addr} (K : FnSc wd.K a fd scope body ps) {l : List V} (hl : l.length = ps.length)
    {A : Around} {φ : List Addr} {s : Shared} {vs : List Value} (hA : AOk wd.hb.fs (d + 1) A) (hS : SR wd.C wd.hb φ s.heap σ) (rs : VRs wd.C φ s.heap l vs) {R : Result → Shared → Prop}
    (h : ∀ (L : Addr) (env : Env) h₁ tk, s.heap.get? L = none → env.frame = some L → env.locals = L → (∀ b o, s.heap.get? b = some o → h₁.get? b = some o) → (∀ a, WE env a → s.heap.get? a = none) → AOk (wd.in L).hb.fs d (A.deeper env) →
      EnvR wd.C wd.hb.heap φ h₁ scope (ps.zip l) env → SR wd.C (wd.in L).hb φ h₁ σ →
      wpAny (model wd.prog wd.w) (A.deeper env) (execs body env) (fun f s' => R (.ok (.ret (match f with | .ret v => v | _ => .none))) s')
        (fun e s' => wpAny (model wd.prog wd.w) (A.deeper env) (leaving env e) (fun _ s'' => R (.error e) s'') (fun e' s'' => R (.error e') s'') s') { s with heap := h₁, toks := tk }) :
    codeAny (model wd.prog wd.w) A (.call (.ref a) ⟨vs, []⟩) R s := by
  have hlen : vs.length = ps.length := rs.length.symm.trans hl
  have hsz := @get_size_none s.heap
  obtain ⟨o, ho, hdat⟩ := K.ex
  have X := B.X.keeps hS.base
  refine codeAny_call_function (by have := hA.dep; omega) (X a o ho) hdat (K.sc ▸ K.co) (K.sc ▸ K.gen) K.body (codeRec_of X K.code) (K.bind _ vs X hlen _ _ _ _ ?_)
  rw [K.clo, K.sc]
  refine wpAny_newFunctionEnv_cells K.kind ?_ fun env he s₁ Y => ?_
  · intro x hx
    have hp : x.1 ∈ ps := (List.of_mem_zip (a := x.1) (b := x.2) hx).1
    rcases K.pk _ hp with q | q
    · exact .inl q
    · obtain ⟨c, e⟩ := cells_has (n := s.heap.objs.size + 1) K.nd q
      exact .inr ⟨q, by rw [e]; rfl⟩
  · have keep := Y.toInCall.keep
    refine ⟨B.lim.keeps fun b o e => keep b o (hS.base b o e), codeAny_func ?_⟩
    obtain ⟨h₁, tk, rfl, _⟩ := Y.done
    dsimp only at keep
    have eL : env.locals = s.heap.objs.size := by rw [he]; rfl
    have eC : env.cells = cellsFrom (s.heap.objs.size + 1) scope.names [] := by rw [he]; rfl
    have eS : env.scope = scope := by rw [he]; rfl
    have fresh : ∀ c, s.heap.objs.size ≤ c → s.heap.get? c = none := fun c hc => by
      cases e : s.heap.get? c with
      | none => rfl
      | some o' => exact absurd (Heap.lt_size e) (Nat.not_lt.mpr hc)
    have notφ : ∀ c, s.heap.get? c = none → c ∉ φ := fun c hc m => by obtain ⟨o, e⟩ := hS.hold m; rw [hc] at e; cases e
    have notb : ∀ c, s.heap.get? c = none → wd.hb.heap.get? c = none := fun c hc => by
      cases e : wd.hb.heap.get? c with
      | none => rfl
      | some o' => have := hS.base c o' e; rw [hc] at this; cases this
    have cn : ∀ p ∈ env.cells, s.heap.get? p.2 = none ∧ p.2 ≠ env.locals := fun p hp => by
      have := Y.above p.1 p.2 hp
      rw [eL] at this ⊢
      exact ⟨fresh _ (Nat.le_of_lt this), Nat.ne_of_gt this⟩
    have E₁ : EnvR wd.C wd.hb.heap φ h₁ scope (ps.zip l) env := by
      refine ⟨eS, K.kind, by rw [he]; exact K.gl, by rw [he]; exact K.bi, by rw [eL]; exact notφ _ hsz, by rw [eL]; exact notb _ hsz, fun p hp => ⟨notφ _ (cn p hp).1, notb _ (cn p hp).1, (cn p hp).2⟩, Y.apart, fun p hp => ?_, fun x hx => by rw [eC]; exact cells_has K.nd hx, _, Y.toInCall.ns, fun y v e => ?_⟩
      · exact ⟨_, Y.cell p.1 p.2 (lookup_only (fun q hq e => by rw [eC] at hp hq; rw [nd_inj (cells_pair K.nd) hq hp e]) ⟨p, hp, rfl⟩)⟩
      · obtain ⟨v', e', r⟩ := rs.zip e
        have hp : y ∈ ps := (List.of_mem_zip (mem_of_lookup e')).1
        refine ⟨v', r.step (Step.kept' keep) hard_no, ?_⟩
        rcases K.pk _ hp with q | q
        · exact .inl ⟨q, bindL_look _ _ _ _ _ (zip_pair K.pd _) e' (by unfold Env.kindOf; rw [eS]; exact q)⟩
        · obtain ⟨c, ec⟩ := cells_has (n := s.heap.objs.size + 1) K.nd q
          rw [← eC] at ec
          refine .inr ⟨.inl q, c, ec, ?_⟩
          have := Y.cell y c ec
          rw [bindC_look _ _ _ _ _ (zip_pair K.pd _) e' (by unfold Env.kindOf; rw [eS]; exact q)] at this
          exact this
    have S₁ := hS.kept keep
    have S₂ : SR wd.C (wd.in s.heap.objs.size).hb φ h₁ σ := ⟨S₁.len, S₁.nd, S₁.base, S₁.off, fun a m => by
      rcases List.mem_cons.mp m with rfl | m
      · refine ⟨notφ _ hsz, notb _ hsz, ?_⟩
        have := ns_dict Y.toInCall.ns
        rwa [eL] at this
      · exact S₁.fr a m, S₁.cell⟩
    have ef : env.frame = some s.heap.objs.size := by rw [he]; rfl
    exact h s.heap.objs.size env h₁ tk hsz ef eL keep (fun a w => by
      rcases w with rfl | ⟨p, hp, rfl⟩
      · rw [eL]; exact hsz
      · exact (cn p hp).1) (hA.deeper ef (by rw [eS, K.kind]; decide)) E₁ S₂
theorem SR.out {L : Addr} {C : Cls} {φ : List Addr} {h : Heap} (S : SR C (wd.in L).hb φ h σ) : SR C wd.hb φ h σ := ⟨S.len, S.nd, S.base, S.off, fun a m => S.fr a (List.mem_cons_of_mem _ m), S.cell⟩
theorem wp_user (B : Bd wd) {fd : FuncData} {scope : Scope} {body : List Stmt} {ps : List Str} {a : Addr} (K : FnSc wd.K a fd scope body ps) {l : List V} (hl : l.length = ps.length)
    (h : ∀ L, PF (wd.in L) d scope (ps.zip l) σ (execs body) fun fl _ σ' => Q fl.val σ')
    {A : Around} {φ : List Addr} {s : Shared} {vs : List Value} (hA : AOk wd.hb.fs (d + 1) A) (hS : SR wd.C wd.hb φ s.heap σ) (rs : VRs wd.C φ s.heap l vs) {R : Value → Shared → Prop} {E : Value → Shared → Prop}
    (hR : ∀ b σ' φ' h' tk a, Q b σ' → Step noW φ s.heap φ' h' → SR wd.C wd.hb φ' h' σ' → VR wd.C φ' h' b a → R a { s with heap := h', toks := tk }) : wpAny (model wd.prog wd.w) A (call (.ref a) vs) R E s := by
  refine wpAny_call (wp_enter B K hl hA hS rs fun L env h₁ tk hL hf hlo keep hW hA' E₁ S₁ => ?_)
  refine h L (A.deeper env) env φ { s with heap := h₁, toks := tk } hA' E₁ S₁ _ _ fun fl ν' σ' φ' h' tk' f' hq x S E₂ r => ?_
  have st : Step noW φ s.heap φ' h' := x.drop keep hW
  cases r with
  | next => exact hR _ σ' φ' h' tk' _ hq st (SR.out S) .none
  | ret r => exact hR _ σ' φ' h' tk' _ hq st (SR.out S) r
variable {sc : Scope} {ν : Vars}
theorem PV.callU (B : Bd wd) {f : Str} {fd : FuncData} {scope : Scope} {body : List Stmt} {ps : List Str} {a : Addr} (hG : wd.G f = some (.ref a)) (K : FnSc wd.K a fd scope body ps) {e : Expr} {rest : List Expr} {p p' : Pos} (hx : sc.names.lookup f = some .globalImplicit)
    (h : PVs wd (d + 1) sc ν σ (items (e :: rest) p) fun l σ₁ => l.length = ps.length ∧ ∀ L, PF (wd.in L) d scope (ps.zip l) σ₁ (execs body) fun fl _ σ' => Q fl.val σ') (hd : (f == ("__debug__" : Str)) = false := by decide)
    (he : ∀ env, starEach (e :: rest) env = (false, eval e env) :: starEach rest env := by intro _; rfl)
    (hc : ∀ env, eval (.Call (.Name f p') (e :: rest) [] p) env = (do callWith p (← eval (.Name f p') env) [] (backTo p (starEach (e :: rest) env)) (backToKw p (keywordEach [] env))) := by intro _; rfl) : PV wd (d + 1) sc ν σ (eval (.Call (.Name f p') (e :: rest) [] p)) Q := by
  intro A env φ s hA hE hS R E hR
  obtain ⟨o, ho, hdat⟩ := K.ex
  refine PyProof.Rows.Call_ (wp_glob B hE hS hG hx hd ?_) (hc env)
  refine PyProof.Rows.callWith_def (o := o) hdat (h A env φ s hA hE hS _ _ fun l σ₁ φ₁ h₁ tk vs hq x S rs => ⟨S.base a o (B.X a o ho), ?_⟩) (he env)
  exact wp_user B K hq.1 hq.2 hA S rs fun b σ₂ φ₂ h₂ tk₂ a hq x₂ S₂ r => hR b σ₂ φ₂ h₂ tk₂ a hq (x.trans x₂) S₂ r
end
end Mine
end
noncomputable section
open PySem PySem.W PyProof.Rows PySem.SeqAt PySem.Calls PySem.Builtin PySem.Builtin.ObjectAttr PySem.Builtin.Getset_descriptor
set_option Elab.async false
set_option genSizeOf false
set_option genInjectivity false
set_option maxRecDepth 100000
set_option linter.unusedVariables false
namespace Mine
variable {wd : Wd}
def mroOK : List Value → Bool
  | [.type n] => n == "object"
  | [.type m, .type n] => m == "tuple" && n == "object"
  | .ref _ :: r => mroOK r
  | _ => false
theorem refuse_tuple (self : Value) : refuseLoop self "__setattr__" [.type "tuple", .type "object"] = pure () := by kernel_rfl
theorem refuse_ok (self : Value) : ∀ {l : List Value}, mroOK l = true → refuseLoop self "__setattr__" l = pure ()
  | [.type n], e => by rw [show n = "object" from beq_iff_eq.mp e]; exact PySem.F.store_object.passes self
  | [.type m, .type n], e => by
    have e' : (m == "tuple" && n == "object") = true := e
    rw [Bool.and_eq_true] at e'
    rw [show m = "tuple" from beq_iff_eq.mp e'.1, show n = "object" from beq_iff_eq.mp e'.2]; exact refuse_tuple self
  | .ref c :: r, e => by rw [refuseLoop_ref]; exact refuse_ok self (by cases r <;> first | exact e | cases e)
theorem ok_has : ∀ {l : List Value}, mroOK l = true → l.contains (.type "object") = true
  | [.type n], e => by rw [show n = "object" from beq_iff_eq.mp e]; simp
  | [.type m, .type n], e => by
    have e' : (m == "tuple" && n == "object") = true := e
    rw [Bool.and_eq_true] at e'
    rw [show n = "object" from beq_iff_eq.mp e'.2]; simp
  | .ref c :: r, e => by rw [List.contains_cons, ok_has (l := r) (by cases r <;> first | exact e | cases e), Bool.or_true]
/-- attributes read as a tuple's -/
def tupGet (K : Frag) (C : Addr) : Bool := findIn K (.ref C) "__getattribute__" == some (some (.builtin "tuple.__getattribute__")) && findIn K (.ref C) "__getattr__" == some none && subIn K (.ref C) (.type "tuple") == some true
section
variable {prog : Program} {w : World} {A : Around} {E : Value → Shared → Prop} {s : Shared} {K : Frag} {x C : Addr} {ox : Obj} {od : Option Obj} {name : Str} {expr : Bool} {Q : Value → Shared → Prop}
theorem get_coreT {r : Found} (X : K.In s.heap) (I : InstAt s.heap x ox C od) (ht : tupGet K C = true) (hf : findObj K C od name = some r) (hr : r ≠ .missing)
    (hv : ∀ v, r = .value v → wpAny (model prog w) A (handedOut v) Q E { s with toks := s.toks + 1 })
    (hb : ∀ g a, r = .bind g a → wpAny (model prog w) A.in1 (call g [a, .ref x, .ref C]) (fun v s' => wpAny (model prog w) A (handedOut v) Q E s') (fun _ _ => False) { s with toks := s.toks + 1 }) :
    wpAny (model prog w) A (getAttr (.ref x) name expr) Q E s := by
  simp only [tupGet, Bool.and_eq_true, beq_iff_eq] at ht
  obtain ⟨⟨hga, hk⟩, hs⟩ := ht
  obtain ⟨hh, g, d, t, os⟩ := s
  have L0 := I.type (M := model prog w)
  have L1 := looks_findIn (M := model prog w) X hga
  have L2 := looks_findIn (M := model prog w) X hk
  have L3 := looks_find (M := model prog w) X I hf
  have L4 : Looks (model prog w) hh (isInstance (.ref x) (.type "tuple")) true := L0.andThen (looks_subIn X hs)
  unfold getAttr getAttrBy
  refine wpAny_bind (wpAny_mkText (wpAny_holding (wpAny_bind (L0.at (wpAny_bind (L1.at ?_))))))
  dsimp only
  rw [if_neg (by rw [show (Value.builtin "tuple.__getattribute__" == Value.builtin "object.__getattribute__") = false from by decide +kernel, Bool.and_false]; decide)]
  unfold getAttrByItsOwn hookBefore
  refine wpAny_bind (L2.at (wpAny_bind (wpAny_attempt (wpAny_holding ?_))))
  unfold callGetattribute
  rw [show (expr && onTheHeap (Value.builtin "tuple.__getattribute__")) = false from Bool.and_false _, if_neg (by decide)]
  unfold boundAndCalled
  rw [PySem.F.slot_tuple_getattribute.bind]
  refine wpAny_bind (wpAny_pure ?_)
  show wpAny _ _ (call (.builtin "tuple.__getattribute__") [.ref x, .str name t]) _ _ _
  refine wpAny_call ?_
  refine codeAny_call_builtin PySem.F.slot_tuple_getattribute.plain PySem.F.entry_tuple_ga ?_
  refine @check_slot (model prog w) _ _ ⟨hh, g, d, t + 1, os⟩ "tuple.__getattribute__" "tuple" "__getattribute__" (.ref x) [.str name t] [] _ (by decide +kernel) (by decide +kernel) L4 (PySem.F.args_tuple_getattribute_2 (.ref x) (.str name t)) ?_
  unfold Builtin.«object.__getattribute__»
  refine wpAny_bind (wpAny_pure (wpAny_bind (wpAny_pure (wpAny_bind (L0.at (wpAny_bind (L3.at ?_)))))))
  cases r with
  | missing => exact (hr rfl).elim
  | value v => exact wpAny_pure (hv v rfl)
  | bind g a =>
    exact wpAny_bind (wpAny_holding (wpAny_mono (hb g a rfl) (fun v s' z => wpAny_pure z) fun _ _ z => z.elim))
end
/-- a name that instances of a class hold in their own dict -/
structure OwnName (K : Frag) (C : Addr) (name : Str) : Prop where
  set : findIn K (.ref C) "__setattr__" = some (some (.builtin "object.__setattr__"))
  dict : hasDictIn K C = true
  plain : plainGet K C name = true ∨ tupGet K C = true
  attr : findIn K (.ref C) name = some none
  mro : (clsIn K C).any (fun cd => mroOK cd.mro) = true
section
variable {prog : Program} {w : World} {A : Around} {E : Value → Shared → Prop} {s : Shared} {K : Frag} {x C dx : Addr} {data : Data} {sl : Array (Option Value)} {es : List DictEntry} {n : Nat} {name : Str} {v : Value}
theorem osa_own {R : Result → Shared → Prop} {tk : Tok} (X : K.In s.heap) (O : OwnName K C name) (hx : s.heap.get? x = some ⟨.ref C, some dx, data, sl⟩) (hnc : notCls ⟨.ref C, some dx, data, sl⟩ = true)
    (D : s.heap.get? dx = some (dictOf es n)) (hl : (getL name es).isSome = true) (hz : es.length ≤ 900)
    (h : R (.ok (.ret .none)) { s with heap := s.heap.update dx (Obj.putName name (PyData.keyHash w.params name) (.str name s.toks) v), toks := s.toks + 1 }) :
    codeAny (model prog w) A (.call (.builtin "object.__setattr__") ⟨[.ref x, .str name tk, v], []⟩) R s := by
  have I : InstAt s.heap x ⟨.ref C, some dx, data, sl⟩ C (some (dictOf es n)) := ⟨hx, rfl, hnc, D⟩
  have SF := PySem.F.store_object
  obtain ⟨cd, hc, ho⟩ := any_some O.mro
  obtain ⟨cd', hc', hd'⟩ := any_some O.dict
  have ne : cd.mro.isEmpty = false := by cases q : cd.mro with | nil => rw [q] at ho; cases ho | cons _ _ => rfl
  have sub : Looks (model prog w) s.heap (isInstance (.ref x) (.type "object")) true := I.type.andThen (looks_mroIn X (by unfold mroIn; rw [hc, Option.bind_some, if_neg (by rw [ne]; decide), ok_has ho]))
  refine codeAny_call_builtin SF.slot.plain SF.entry (@check_slot (model prog w) _ _ _ "object.__setattr__" "object" "__setattr__" (.ref x) [.str name tk, v] [] _ SF.kind SF.split sub (SF.args (.ref x) (.str name tk) v) ?_)
  have hm : Looks (model prog w) s.heap (mroOf (.ref C)) cd.mro := (looks_clsIn X hc).andThen .now
  have L3 : Looks (model prog w) s.heap (storeTaker? Option.none) Option.none := .now
  rw [osa_eq, refuse_eq]
  refine wpAny_bind (wpAny_bind (I.type.here (wpAny_bind (hm.here ?_))))
  rw [refuse_ok _ ho]
  refine wpAny_pure (wpAny_bind (I.type.here (wpAny_bind ((looks_findIn X O.attr).here (wpAny_bind (L3.here ?_))))))
  refine wpAny_bind (wpAny_pure (wpAny_bind (wpAny_bind (wpAny_loadPart hx (wpAny_bind ((looks_clsIn X hc').here ?_))))))
  rw [hd']
  refine wpAny_pure (a := some dx) (wpAny_bind (wpAny_pure (wpAny_bind ?_)))
  unfold nsSet
  refine wpAny_bind (wpAny_bind (wpAny_askSetting (wpAny_pure (wpAny_bind (wpAny_mkText (wpAny_bind (wpAny_loadPart D ?_)))))))
  have g := hl
  unfold getL at hl
  have c : (!es.toArray.any (·.key.isStr name) && es.toArray.any (·.refKey)) = false := by
    rw [← Array.any_toList, ← Array.any_toList]
    split at hl
    · rename_i en he
      rw [List.any_eq_true.mpr ⟨en, List.mem_of_find?_eq_some he, List.find?_some he⟩]; rfl
    · split at hl
      · cases hl
      · rename_i z; rw [Bool.not_eq_true] at z; rw [z, Bool.and_false]
  dsimp only
  rw [aRefKeyMayBeTheName_at, c]
  refine wpAny_updatePart D ?_
  have D' : (s.heap.update dx (Obj.putName name (PyData.keyHash w.params name) (.str name s.toks) v)).get? dx = some (dictOf (putL name (PyData.keyHash w.params name) (.str name s.toks) v es) (putN name es n)) := by
    rw [Heap.get?_update_self _ D (by rw [putName_dict]; rfl), putName_dict]
  have hlen : ∀ es : List DictEntry, (putL name (PyData.keyHash w.params name) (.str name s.toks) v es).length ≤ es.length + 1 := by
    intro es
    induction es with
    | nil => simp [putL]
    | cons e r ih => unfold putL; split <;> simp; omega
  have hz' := hlen es
  refine wpAny_bind (wpAny_lookBehind D' (pastItsLine_dict (by rw [List.size_toArray, sizeLine_eq]; omega)) ?_)
  exact wpAny_pure h
theorem set_own' {Q : Unit → Shared → Prop} (X : K.In s.heap) (O : OwnName K C name) (hx : s.heap.get? x = some ⟨.ref C, some dx, data, sl⟩) (hnc : notCls ⟨.ref C, some dx, data, sl⟩ = true)
    (D : s.heap.get? dx = some (dictOf es n)) (hl : (getL name es).isSome = true) (hz : es.length ≤ 900)
    (h : Q () { s with heap := s.heap.update dx (Obj.putName name (PyData.keyHash w.params name) (.str name (s.toks + 1)) v), toks := s.toks + 2 }) :
    wpAny (model prog w) A (setAttr (.ref x) name v) Q E s :=
  set_plain (od := some (dictOf es n)) X ⟨hx, rfl, hnc, D⟩ O.set (osa_own (s := { s with toks := s.toks + 1 }) X O hx hnc D hl hz h)
end
end Mine
end
noncomputable section
open PySem PySem.W PyProof.Rows PySem.SeqAt
set_option Elab.async false
set_option genSizeOf false
set_option genInjectivity false
set_option maxRecDepth 4000
set_option linter.unusedVariables false
namespace Mine
variable {wd : Wd}
theorem isStr_self (x : Str) (tk : Tok) : (Value.str x tk).isStr x = true := by simp [Value.isStr]
/-- the dict of a made object, as the store has it -/
theorem OR.dict {C : Cls} {φ : List Addr} {h : Heap} {nm : Str} {o : Option V} {ob : Obj} (r : OR C φ h (.attr nm o) ob) : ∃ es n, ob = dictOf es n ∧ es.length ≤ 1 ∧ (getL nm es).isSome = true ∧
    (∀ hs tk v, ∃ hs' tk', putL nm hs (.str nm tk) v es = [⟨hs', .str nm tk', v⟩]) ∧ (∀ v, o = some v → ∃ v', VR C φ h v v' ∧ getL nm es = some (some v')) := by
  cases o with
  | none =>
    obtain ⟨n, rfl⟩ := r
    exact ⟨[], n, rfl, by simp, rfl, fun hs tk v => ⟨hs, tk, rfl⟩, fun _ e => by cases e⟩
  | some v =>
    obtain ⟨n, hs, tk, v', rfl, r⟩ := r
    refine ⟨[⟨hs, .str nm tk, v'⟩], n, rfl, by simp, ?_, fun hs2 tk2 v => ⟨hs, tk, ?_⟩, fun w e => ?_⟩
    · unfold getL; simp [isStr_self]
    · unfold putL; rw [if_pos (isStr_self nm tk)]
    · cases e; exact ⟨v', r, by unfold getL; simp [isStr_self]⟩
/-- reads of an attribute, stores of one -/
def GetR (wd : Wd) (d : Nat) (ov : V) (attr : Str) (σ : List O) (Q : V → List O → Prop) : Prop :=
  ∀ (A : Around) (φ : List Addr) (s : Shared) (o' : Value), AOk wd.hb.fs d A → SR wd.C wd.hb φ s.heap σ → VR wd.C φ s.heap ov o' →
    ∀ (R : Value → Shared → Prop) (E : Value → Shared → Prop), (∀ b σ' φ' h' tk a, Q b σ' → Step noW φ s.heap φ' h' → SR wd.C wd.hb φ' h' σ' → VR wd.C φ' h' b a → R a { s with heap := h', toks := tk }) →
      wpAny (model wd.prog wd.w) A (getAttr o' attr true) R E s
def SetR (wd : Wd) (d : Nat) (ov : V) (attr : Str) (v : V) (σ : List O) (Q : List O → Prop) : Prop :=
  ∀ (A : Around) (φ : List Addr) (s : Shared) (o' v' : Value), AOk wd.hb.fs d A → SR wd.C wd.hb φ s.heap σ → VR wd.C φ s.heap ov o' → VR wd.C φ s.heap v v' →
    ∀ (R : Unit → Shared → Prop) (E : Value → Shared → Prop), (∀ σ' φ' h' tk, Q σ' → Step noW φ s.heap φ' h' → SR wd.C wd.hb φ' h' σ' → R () { s with heap := h', toks := tk }) →
      wpAny (model wd.prog wd.w) A (setAttr o' attr v') R E s
/-- instances with a dict of the store's -/
def Inst (wd : Wd) : V → Addr → Nat → Prop
  | .code d, C, i => C = wd.C.UC ∧ i = d
  | .row _ d, C, i => C = wd.C.EC ∧ i = d
  | _, _, _ => False
theorem Inst.at {ov : V} {C : Addr} {i : Nat} (x : Inst wd ov C i) {φ : List Addr} {h : Heap} {o' : Value} (r : VR wd.C φ h ov o') : ∃ a dx data sl, o' = .ref a ∧ h.get? a = some ⟨.ref C, some dx, data, sl⟩ ∧ notCls ⟨.ref C, some dx, data, sl⟩ = true ∧ φ[i]? = some dx := by
  cases r <;> try exact x.elim
  · rename_i a dx vs n e off ed r
    obtain ⟨rfl, rfl⟩ := x
    exact ⟨a, dx, _, _, rfl, e, rfl, ed⟩
  · rename_i a dx e off ed
    obtain ⟨rfl, rfl⟩ := x
    exact ⟨a, dx, _, _, rfl, e, rfl, ed⟩
theorem SetR.own (B : Bd wd) {d : Nat} {σ : List O} {Q : List O → Prop} {ov v : V} {C : Addr} {i : Nat} {nm : Str} {o : Option V} (x : Inst wd ov C i) (O : OwnName wd.K C nm) (hi : σ[i]? = some (.attr nm o)) (hq : Q (σ.set i (.attr nm (some v)))) : SetR wd d ov nm v σ Q := by
  intro A φ s o' v' hA hS r rv R E hR
  obtain ⟨a, dx, data, sl, rfl, hx, hnc, ed⟩ := x.at r
  obtain ⟨m, ob, g, od⟩ := hS.atRef ed hi
  obtain ⟨es, n, rfl, hz, hl, hp, _⟩ := od.dict
  refine set_own' (B.X.keeps hS.base) O hx hnc g hl (by omega) ?_
  obtain ⟨hs, tk, e⟩ := hp (PyData.keyHash wd.w.params nm) (s.toks + 1) v'
  have D' : (s.heap.update dx (Obj.putName nm (PyData.keyHash wd.w.params nm) (.str nm (s.toks + 1)) v')).get? dx = some (dictOf [⟨hs, .str nm tk, v'⟩] (putN nm es n)) := by
    rw [Heap.get?_update_self _ g (by rw [putName_dict]; rfl), putName_dict, e]
  have sb : Heap.SameBut dx s.heap (s.heap.update dx (Obj.putName nm (PyData.keyHash wd.w.params nm) (.str nm (s.toks + 1)) v')) := Heap.SameBut.update ..
  have st : Step noW φ s.heap φ (s.heap.update dx (Obj.putName nm (PyData.keyHash wd.w.params nm) (.str nm (s.toks + 1)) v')) := by
    refine ⟨List.prefix_refl _, fun _ q => .inl q, fun b o' eb _ => ?_, fun b o' eb n _ => .inl ((sb.2 b fun q => n (q ▸ m)).trans eb)⟩
    by_cases q : b = dx
    · subst q; exact ⟨_, D'⟩
    · exact ⟨o', (sb.2 b q).trans eb⟩
  obtain ⟨x₂, S₂⟩ := hS.put ed sb D' (o := .attr nm (some v)) ⟨_, hs, tk, v', rfl, rv.step st hard_no⟩
  exact hR _ φ _ _ hq x₂ S₂
theorem VR.handed {φ : List Addr} {h : Heap} {v : V} {v' : Value} (r : VR wd.C φ h v v') : handedIn v' = true := by cases r <;> rfl
theorem GetR.own (B : Bd wd) {d : Nat} {σ : List O} {Q : V → List O → Prop} {ov v : V} {C : Addr} {i : Nat} {nm : Str} (x : Inst wd ov C i) (O : OwnName wd.K C nm) (hi : σ[i]? = some (.attr nm (some v))) (hq : Q v σ) : GetR wd d ov nm σ Q := by
  intro A φ s o' hA hS r R E hR
  obtain ⟨a, dx, data, sl, rfl, hx, hnc, ed⟩ := x.at r
  obtain ⟨m, ob, g, od⟩ := hS.atRef ed hi
  obtain ⟨es, n, rfl, hz, hl, _, hg⟩ := od.dict
  obtain ⟨v', rv, hv⟩ := hg v rfl
  rcases O.plain with P | P
  · exact get_value (od := some (dictOf es n)) (B.X.keeps hS.base) ⟨hx, rfl, hnc, g⟩ (plainGet_of P).1 (findObj_own O.dict O.attr rfl hv) rv.handed (hR v σ φ s.heap _ _ hq .refl hS rv)
  · refine get_coreT (od := some (dictOf es n)) (r := .value v') (B.X.keeps hS.base) ⟨hx, rfl, hnc, g⟩ P (findObj_own O.dict O.attr rfl hv) (fun q => by cases q) (fun v q => ?_) fun _ _ q => by cases q
    cases q
    rw [handedOut_of rv.handed]
    exact wpAny_pure (hR _ σ φ s.heap _ _ hq .refl hS rv)
section
variable {d : Nat} {sc : Scope} {ν : Vars} {σ : List O}
theorem PV.attr {Q : V → List O → Prop} {e : Expr} {attr : Str} {p : Pos} (h : PV wd d sc ν σ (eval e) fun ov σ₁ => GetR wd d ov attr σ₁ Q)
    (he : ∀ env, eval (.Attribute e attr p) env = (do
      let o ← eval e env
      standAt p.atName
      let r ← holding [o] (getAttr o attr true)
      letTemporaryGo e o r
      pure r) := by intro _; with_unfolding_all rfl) : PV wd d sc ν σ (eval (.Attribute e attr p)) Q := by
  intro A env φ s hA hE hS R E hR
  refine Attribute_any_ (h A env φ s hA hE hS _ _ fun ov σ₁ φ₁ h₁ tk o' hq x S r => ?_) (he env)
  exact hq A φ₁ _ o' hA S r _ _ fun b σ₂ φ₂ h₂ tk₂ a hq x₂ S₂ r => hR b σ₂ φ₂ h₂ tk₂ a hq (x.trans x₂) S₂ r
theorem PF.setAttr {Q : Fl → Vars → List O → Prop} {e o : Expr} {attr : Str} {p' p : Pos} (h : PV wd d sc ν σ (eval e) fun v σ₁ => PV wd d sc ν σ₁ (eval o) fun ov σ₂ => SetR wd d ov attr v σ₂ (Q .next ν))
    (hs : ∀ env, swapsWith e (some (.Attribute o attr p')) p.line env = pure false := by intro _; rfl) : PF wd d sc ν σ (exec (.Assign [.Attribute o attr p'] e p)) Q := by
  intro A env φ s hA hE hS R E hR
  refine plainObj_wpAny_Assign_Attribute (PV.two h hA hE hS fun v ov σ' φ' h' tk v' o' hq x S rv ro => ?_) (hs env)
  exact hq A φ' _ o' v' hA S ro rv _ _ fun σ₂ φ₂ h₂ tk₂ hq x₂ S₂ => hR .next ν σ₂ φ₂ h₂ tk₂ _ hq ((x.trans x₂).env hE) S₂ ((hE.step x).step x₂) .next
/-- `_Unknown()` -/
theorem PV.unk (B : Bd wd) {Q : V → List O → Prop} {x nm : Str} {p' p : Pos} (hG : wd.G x = some (.ref wd.C.UC)) (hx : sc.names.lookup x = some .globalImplicit) (hk : keepIn wd.K (.ref wd.C.UC) = true) (hm : makesIn wd.K wd.C.UC = true) (hi : findIn wd.K (.ref wd.C.UC) "__init__" = some (some (.builtin "object.__init__")))
    (hq : Q (.code σ.length) (σ ++ [.attr nm none])) (hd : (x == ("__debug__" : Str)) = false := by decide)
    (hc : ∀ env, eval (.Call (.Name x p') [] [] p) env = (do callWith p (← eval (.Name x p') env) [] (backTo p (starEach [] env)) (backToKw p (keywordEach [] env))) := by intro _; rfl) : PV wd d sc ν σ (eval (.Call (.Name x p') [] [] p)) Q := by
  intro A env φ s hA hE hS R E hR
  have X := B.X.keeps hS.base
  refine PyProof.Rows.Call_ (wp_glob B hE hS hG hx hd ?_) (hc env)
  refine callWith_K0 X hk (wpAny_call ?_)
  obtain ⟨x2, S2, r2⟩ := hS.push emptyDict (.attr nm none) rfl ⟨0, rfl⟩
  obtain ⟨hh, g, dd, t, os⟩ := s
  dsimp only at *
  have Y := makes_of (M := model wd.prog wd.w) X hm
  refine make_core Y (looks_findIn X hi) (fun self => Looks.of_pure (oi_bind self)) (.inr ⟨rfl, rfl⟩) ?_
  have hx1 : ((hh.push emptyDict).push (instObj wd.C.UC hh.objs.size)).get? (hh.objs.size + 1) = some (instObj wd.C.UC hh.objs.size) := by
    have := Heap.get?_push_size (hh.push emptyDict) (o := instObj wd.C.UC hh.objs.size) rfl
    rwa [Heap.size_push] at this
  have t1 : Looks (model wd.prog wd.w) ((hh.push emptyDict).push (instObj wd.C.UC hh.objs.size)) (typeOf (.ref (hh.objs.size + 1))) (.ref wd.C.UC) := (Looks.ld hx1).andThen .now
  have t2 : Looks (model wd.prog wd.w) ((hh.push emptyDict).push (instObj wd.C.UC hh.objs.size)) (isInstance (.ref (hh.objs.size + 1)) (.type "object")) true := t1.andThen (Y.top.keeps fun b o e => Heap.get?_push_of_some _ (Heap.get?_push_of_some _ e))
  have z : R (.ref (hh.objs.size + 1)) ⟨(hh.push emptyDict).push (instObj wd.C.UC hh.objs.size), g, dd, t, os⟩ := by
    refine hR (.code σ.length) (σ ++ [.attr nm Option.none]) (φ ++ [hh.objs.size]) _ t _ hq (x2.trans (Step.pushed _)) (S2.pushed _) (.code hx1 ?_ ?_)
    · have := VR.fresh S2; rwa [Heap.size_push] at this
    · rw [← hS.len]; simp
  refine codeAny_call_builtin oi_plain entry_oi (@check_slot (model wd.prog wd.w) _ _ _ "object.__init__" "object" "__init__" (.ref (hh.objs.size + 1)) [] [] _ oi_kind oi_split t2 (oi_args (.ref (hh.objs.size + 1))) ?_)
  show wpAny _ _ (Builtin.«object.__init__» ⟨[.ref (hh.objs.size + 1)], []⟩) _ _ _
  rw [oi_run]
  exact wpAny_pure (And.intro rfl z)
end
end Mine
end
noncomputable section
open PySem PySem.W PyProof.Rows PySem.SeqAt
set_option Elab.async false
set_option genSizeOf false
set_option genInjectivity false
set_option maxRecDepth 100000
set_option linter.unusedVariables false
namespace Mine
variable {wd : Wd}
/-- an exception on its way -/
def Raised (wd : Wd) (A : Around) (φ : List Addr) (σ : List O) (e : Addr) (cls : String) (hr h : Heap) : Prop :=
  ∃ fs', (∀ a ∈ wd.hb.fs, a ∈ fs') ∧ SR wd.C { wd.hb with fs := fs' } φ hr σ ∧ (Heap.NewExc hr h e cls ∨ (∃ l a0, A.frames = some l ∧ Heap.FlyingW (hideAll hr fs') l e (.type cls) a0 h ∧ hr.UpToSlots h) ∨
    ∃ env L outer a0, A.frames = some (env :: outer) ∧ env.frame = some L ∧ Heap.HeldW (hideAll hr fs') (env :: outer) e (.type cls) a0 L h ∧ hr.UpToSlots h)
theorem frames_ok {hb : HB} {C : Cls} {φ : List Addr} {h h' : Heap} {σ : List O} {fs' : List Addr} (S : SR C { hb with fs := fs' } φ h σ) (k : ∀ b o, h.get? b = some o → h'.get? b = some o) : ∀ (l : List Env) (fs : List Addr), FrL l fs → (∀ a ∈ fs, a ∈ fs') → h'.FunFrames (hideAll h fs') l
  | [], _, _, _ => trivial
  | env :: l, fs, F, m => by
    cases fs with
    | nil => exact absurd F.at_ (by simp)
    | cons L fs =>
      have e := F.at_
      rw [List.map_cons, List.map_cons, List.cons.injEq] at e
      have mL := m L (List.mem_cons_self ..)
      obtain ⟨_, _, o, ho, es, n, hd⟩ := S.fr L mL
      exact ⟨F.kind env (List.mem_cons_self ..), ⟨L, o, e.1, hideAll_none _ mL, k _ _ ho, fun vs q => by rw [hd] at q; cases q⟩, frames_ok S k l fs ⟨e.2, fun env' m' => F.kind env' (List.mem_cons_of_mem _ m')⟩ fun a ma => m a (List.mem_cons_of_mem _ ma)⟩
/-- what the store is behind an exception's journey -/
theorem Fly.step {C : Cls} {hb : HB} {φ : List Addr} {hr h : Heap} {σ : List O} {fs' : List Addr} (m : ∀ a ∈ hb.fs, a ∈ fs') (S : SR C { hb with fs := fs' } φ hr σ) (st : (hideAll hr fs').StaysIn h) (up : hr.UpToSlots h) : Step noW φ hr φ h ∧ SR C hb φ h σ := by
  have k : ∀ b o, b ∉ fs' → hr.get? b = some o → h.get? b = some o := fun b o n e => st b o (hideAll_get _ e n)
  have kf : ∀ a ∈ fs', ∀ o, hr.get? a = some o → isD o → ∃ sl, h.get? a = some { o with slots := sl } := fun a _ o e d => up a o e fun vs q => by obtain ⟨es, n, d⟩ := d; rw [d] at q; cases q
  have x : Step noW φ hr φ h := by
    refine ⟨List.prefix_refl _, fun _ q => .inl q, fun b o e _ => ?_, fun b o e n _ => ?_⟩
    · by_cases c : b ∈ fs'
      · obtain ⟨_, _, o', e', d⟩ := S.fr b c
        rw [e] at e'; cases e'
        obtain ⟨sl, q⟩ := kf b c o e d
        exact ⟨_, q⟩
      · exact ⟨o, k b o c e⟩
    · by_cases c : b ∈ fs'
      · obtain ⟨_, _, o', e', d⟩ := S.fr b c
        rw [e] at e'; cases e'
        exact .inr ⟨d, kf b c o e d⟩
      · exact .inl (k b o c e)
  have S' : SR C hb φ hr σ := ⟨S.len, S.nd, S.base, S.off, fun a q => S.fr a (m a q), S.cell⟩
  refine ⟨x, S'.same x hard_no (fun a ma o e => k a o (fun q => (S.fr a q).1 ma) e) (fun b o e1 e2 => k b o (fun q => by have := (S.fr b q).2.1; rw [show ({ hb with fs := fs' } : HB).heap.get? b = some o from e1] at this; cases this) e2) fun a q o e d => ?_⟩
  obtain ⟨sl, e'⟩ := kf a (m a q) o e d
  obtain ⟨es, n, d⟩ := d
  exact ⟨_, e', es, n, d⟩
/-- out of a call -/
theorem Raised.leave {L : Addr} {A : Around} {env : Env} {φ : List Addr} {σ : List O} {e : Addr} {cls : String} {hr : Heap} {s : Shared} {d : Nat} (hA : AOk wd.hb.fs d A) (hf : env.frame = some L) (hk : env.scope.kind ≠ .module) (x : Raised (wd.in L) (A.deeper env) φ σ e cls hr s.heap)
    {Q : Unit → Shared → Prop} {E : Value → Shared → Prop} (hQ : ∀ h', Raised wd A φ σ e cls hr h' → Q () { s with heap := h' }) : wpAny (model wd.prog wd.w) (A.deeper env) (leaving env (.ref e)) Q E s := by
  obtain ⟨fs', m, S, x⟩ := x
  obtain ⟨l, el, F⟩ := hA.fr
  have el' : (A.deeper env).frames = some (env :: l) := Around.frames_deeper el
  have m' : ∀ a ∈ wd.hb.fs, a ∈ fs' := fun a q => m a (List.mem_cons_of_mem _ q)
  have F' : FrL (env :: l) (L :: wd.hb.fs) := ⟨by rw [List.map_cons, List.map_cons, F.at_, hf], fun e' q => by
    rcases List.mem_cons.mp q with rfl | q
    · exact hk
    · exact F.kind e' q⟩
  rcases x with x | ⟨l', a0, e1, fl, up⟩ | ⟨env', L', outer, a0, e1, f1, hh, up⟩
  · obtain ⟨ob, t, he, hc, hd⟩ := x.there
    have hfr := frames_ok S x.keeps (env :: l) (L :: wd.hb.fs) F' m
    have hen : (hideAll hr fs').get? e = none := by
      cases q : (hideAll hr fs').get? e with
      | none => rfl
      | some o => have := of_hideAll _ q; rw [x.new] at this; cases this
    refine wpAny_leaving_firstW (a0 := t) el' hfr hf he (fun b o q => x.keeps b o (of_hideAll _ q)) hen hd rfl rfl fun h' hL => ?_
    obtain ⟨k1, ⟨_, _, k2⟩, k3, k4⟩ := hL
    exact hQ h' ⟨fs', m', S, .inr (.inl ⟨l, t, el, ⟨k1, hen, k2, by rw [← hc]; exact k3⟩, (Heap.UpToSlots.of_keeps x.keeps).trans k4⟩)⟩
  · rw [el'] at e1; cases e1
    exact wpAny_leaves_onW el' hf fl fun h' x1 x2 => hQ h' ⟨fs', m', S, .inr (.inl ⟨l, a0, el, x1, up.trans x2⟩)⟩
  · rw [el'] at e1; cases e1
    rw [hf] at f1; cases f1
    unfold leaving
    refine wpAny_bind (wpAny_noteFrame_againW hf hh.2.2.2 ?_)
    refine wpAny_landsW hh fun h' hfl up2 => ?_
    obtain ⟨k1, k2, ⟨_, _, k3⟩, k4⟩ := hfl
    exact hQ h' ⟨fs', m', S, .inr (.inl ⟨l, a0, el, ⟨k1, k2, k3, k4⟩, up.trans up2⟩)⟩
/-- a tree of a value that may raise -/
def PVX (wd : Wd) (d : Nat) (sc : Scope) (ν : Vars) (σ : List O) (t : Env → Sem Value) (Q : V → List O → Prop) (QE : String → List O → Prop) : Prop :=
  ∀ (A : Around) (env : Env) (φ : List Addr) (s : Shared), AOk wd.hb.fs d A → EnvR wd.C wd.hb.heap φ s.heap sc ν env → SR wd.C wd.hb φ s.heap σ →
    ∀ (R : Value → Shared → Prop) (E : Value → Shared → Prop), (∀ b σ' φ' h' tk a, Q b σ' → Step noW φ s.heap φ' h' → SR wd.C wd.hb φ' h' σ' → VR wd.C φ' h' b a → R a { s with heap := h', toks := tk }) →
      (∀ cls σ' φ' hr h' tk e, QE cls σ' → Step noW φ s.heap φ' hr → Raised wd A φ' σ' e cls hr h' → E (.ref e) { s with heap := h', toks := tk }) →
      wpAny (model wd.prog wd.w) A (t env) R E s
def PFX (wd : Wd) (d : Nat) (sc : Scope) (ν : Vars) (σ : List O) (t : Env → Sem Flow) (Q : Fl → Vars → List O → Prop) (QE : String → Vars → List O → Prop) : Prop :=
  ∀ (A : Around) (env : Env) (φ : List Addr) (s : Shared), AOk wd.hb.fs d A → EnvR wd.C wd.hb.heap φ s.heap sc ν env → SR wd.C wd.hb φ s.heap σ →
    (∃ l, A.frames = some (env :: l)) → ∀ (R : Flow → Shared → Prop) (E : Value → Shared → Prop), PassesOwn (model wd.prog wd.w) A env E →
      (∀ f ν' σ' φ' h' tk f', Q f ν' σ' → Step (WE env) φ s.heap φ' h' → SR wd.C wd.hb φ' h' σ' → EnvR wd.C wd.hb.heap φ' h' sc ν' env → FR wd.C φ' h' f f' → R f' { s with heap := h', toks := tk }) →
      (∀ cls ν' σ' φ' hr h' tk e, QE cls ν' σ' → Step (WE env) φ s.heap φ' hr → EnvR wd.C wd.hb.heap φ' hr sc ν' env → Raised wd A φ' σ' e cls hr h' → E (.ref e) { s with heap := h', toks := tk }) →
      wpAny (model wd.prog wd.w) A (t env) R E s
section
variable {d : Nat} {sc : Scope} {ν : Vars} {σ : List O} {Q : Fl → Vars → List O → Prop} {QE : String → Vars → List O → Prop}
theorem PVX.of {t : Env → Sem Value} {Q : V → List O → Prop} {QE : String → List O → Prop} (h : PV wd d sc ν σ t Q) : PVX wd d sc ν σ t Q QE := fun A env φ s hA hE hS R E hR _ => h A env φ s hA hE hS R E hR
theorem PFX.of {t : Env → Sem Flow} (h : PF wd d sc ν σ t Q) : PFX wd d sc ν σ t Q QE := fun A env φ s hA hE hS _ R E _ hR _ => h A env φ s hA hE hS R E hR
theorem PFX.cons {st : Stmt} {rest : List Stmt} (h : PFX wd d sc ν σ (exec st) (fun f ν₁ σ₁ => match f with | .next => PFX wd d sc ν₁ σ₁ (execs rest) Q QE | .ret v => Q (.ret v) ν₁ σ₁) QE) : PFX wd d sc ν σ (execs (st :: rest)) Q QE := by
  intro A env φ s hA hE hS hT R E hP hR hX
  refine wpAny_execs_cons (h A env φ s hA hE hS hT _ _ hP (fun f ν₁ σ₁ φ₁ h₁ tk f' hq x S E₁ r => ?_) hX)
  cases r with
  | next =>
    refine hq A env φ₁ _ hA E₁ S hT _ _ hP (fun f ν₂ σ₂ φ₂ h₂ tk₂ f' hq x₂ S₂ E₂ r => ?_) fun cls ν' σ' φ' hr h' tk e hq x₂ E₂ w => ?_
    · exact hR f ν₂ σ₂ φ₂ h₂ tk₂ f' hq (x.trans x₂) S₂ E₂ r
    · exact hX cls ν' σ' φ' hr h' tk e hq (x.trans x₂) E₂ w
  | ret r => exact hR _ ν₁ σ₁ φ₁ h₁ tk _ hq x S E₁ (.ret r)
theorem PFX.assign {x : Str} {p' p : Pos} {e : Expr} (hx : sc.names.lookup x = some .local ∨ sc.names.lookup x = some .cell) (h : PVX wd d sc ν σ (eval e) (fun v σ₁ => Q .next ((x, v) :: ν) σ₁) (fun cls σ₁ => QE cls ν σ₁))
    (hs : ∀ env, swapsWith e (some (.Name x p')) p.line env = pure false := by intro _; rfl) : PFX wd d sc ν σ (exec (.Assign [.Name x p'] e p)) Q QE := by
  intro A env φ s hA hE hS hT R E hP hR hX
  refine wpAny_Assign_Name (h A env φ s hA hE hS _ _ (fun v σ₁ φ₁ h₁ tk v' hq x₁ S r => ?_) fun cls σ' φ' hr h' tk e hq x₁ w => ?_) (hs env)
  · refine PA.store hx hq A env φ₁ { s with heap := h₁, toks := tk } v' hA (hE.step x₁) S r _ _ fun ν' σ' φ' h' tk' hq x₂ S₂ E₂ => ?_
    exact hR .next ν' σ' φ' h' tk' _ hq ((x₁.env hE).trans x₂) S₂ E₂ .next
  · exact hX cls ν σ' φ' hr h' tk e hq (x₁.env hE) (hE.step x₁) w
theorem PFX.ret {e : Expr} {p : Pos} (h : PVX wd d sc ν σ (eval e) (fun v σ₁ => Q (.ret v) ν σ₁) (fun cls σ₁ => QE cls ν σ₁)) : PFX wd d sc ν σ (exec (.Return (some e) p)) Q QE := by
  intro A env φ s hA hE hS hT R E hP hR hX
  refine wpAny_Return_some (h A env φ s hA hE hS _ _ (fun v σ₁ φ₁ h₁ tk v' hq x S r => ?_) fun cls σ' φ' hr h' tk e hq x₁ w => ?_)
  · exact hR _ ν σ₁ φ₁ h₁ tk _ hq (x.env hE) S (hE.step x) (.ret r)
  · exact hX cls ν σ' φ' hr h' tk e hq (x₁.env hE) (hE.step x₁) w
theorem PFX.whileS {test : Expr} {body : List Stmt} {p : Pos} (I : Nat → Vars → List O → Prop) (n : Nat) (h0 : I n ν σ)
    (turn : ∀ n ν σ, I n ν σ → PB wd d sc ν σ (fun env => isTrue test env (eval test env)) fun b σ₁ => if b then PFX wd d sc ν σ₁ (execs body) (fun f ν' σ' => match f with | .next => ∃ m, m < n ∧ I m ν' σ' | .ret v => Q (.ret v) ν' σ') QE else Q .next ν σ₁) :
    PFX wd d sc ν σ (exec (.While test body [] p)) Q QE := by
  intro A env φ s hA hE hS hT R E hP hR hX
  refine wpAny_While (codeAny_whileLoop (fun n s' => ∃ ν₁ σ₁ φ₁ h₁ tk, s' = { s with heap := h₁, toks := tk } ∧ I n ν₁ σ₁ ∧ Step (WE env) φ s.heap φ₁ h₁ ∧ SR wd.C wd.hb φ₁ h₁ σ₁ ∧ EnvR wd.C wd.hb.heap φ₁ h₁ sc ν₁ env) ?_ n ⟨ν, σ, φ, s.heap, s.toks, rfl, h0, .refl, hS, hE⟩)
  rintro n _ ⟨ν₁, σ₁, φ₁, h₁, tk, rfl, hI, x, S, E₁⟩
  refine turn n ν₁ σ₁ hI A env φ₁ _ hA E₁ S _ _ fun b σ₂ φ₂ h₂ tk₂ b' hq x₂ S₂ r => ?_
  subst r
  cases b' with
  | true =>
    refine wpAny_passesOwn hP (hq A env φ₂ _ hA (E₁.step x₂) S₂ hT _ _ hP (fun f ν₃ σ₃ φ₃ h₃ tk₃ f' hq x₃ S₃ E₃ r => ?_) fun cls ν' σ' φ' hr h' tk e hq x₃ E₃ w => ?_)
    · have xx := x.trans ((x₂.env E₁).trans x₃)
      cases r with
      | next =>
        obtain ⟨m, hm, hI⟩ := hq
        exact ⟨m, hm, ν₃, σ₃, φ₃, h₃, tk₃, rfl, hI, xx, S₃, E₃⟩
      | ret r => exact hR _ ν₃ σ₃ φ₃ h₃ tk₃ _ hq xx S₃ E₃ (.ret r)
    · exact hX cls ν' σ' φ' hr h' tk e hq (x.trans ((x₂.env E₁).trans x₃)) E₃ w
  | false => exact wpAny_execs_nil (hR .next ν₁ σ₂ φ₂ h₂ tk₂ _ hq (x.trans (x₂.env E₁)) S₂ (E₁.step x₂) .next)
/-- a call of a function that may raise -/
theorem PVX.callU (B : Bd wd) {Q : V → List O → Prop} {QE : String → List O → Prop} {f : Str} {fd : FuncData} {scope : Scope} {body : List Stmt} {ps : List Str} {a : Addr} (hG : wd.G f = some (.ref a)) (K : FnSc wd.K a fd scope body ps) {e : Expr} {rest : List Expr} {p p' : Pos} (hx : sc.names.lookup f = some .globalImplicit)
    (h : PVs wd (d + 1) sc ν σ (items (e :: rest) p) fun l σ₁ => l.length = ps.length ∧ ∀ L, PFX (wd.in L) d scope (ps.zip l) σ₁ (execs body) (fun fl _ σ' => Q fl.val σ') (fun cls _ σ' => QE cls σ')) (hd : (f == ("__debug__" : Str)) = false := by decide)
    (he : ∀ env, starEach (e :: rest) env = (false, eval e env) :: starEach rest env := by intro _; rfl)
    (hc : ∀ env, eval (.Call (.Name f p') (e :: rest) [] p) env = (do callWith p (← eval (.Name f p') env) [] (backTo p (starEach (e :: rest) env)) (backToKw p (keywordEach [] env))) := by intro _; rfl) : PVX wd (d + 1) sc ν σ (eval (.Call (.Name f p') (e :: rest) [] p)) Q QE := by
  intro A env φ s hA hE hS R E hR hX
  obtain ⟨o, ho, hdat⟩ := K.ex
  refine PyProof.Rows.Call_ (wp_glob B hE hS hG hx hd ?_) (hc env)
  refine PyProof.Rows.callWith_def (o := o) hdat (h A env φ s hA hE hS _ _ fun l σ₁ φ₁ h₁ tk vs hq x S rs => ⟨S.base a o (B.X a o ho), ?_⟩) (he env)
  refine wpAny_call (wp_enter B K hq.1 hA S rs fun L env' h₂ tk₂ hL hf hlo keep hW hA' E₁ S₁ => ?_)
  refine hq.2 L (A.deeper env') env' φ₁ { s with heap := h₂, toks := tk₂ } hA' E₁ S₁ (let ⟨l, e, _⟩ := hA.fr; ⟨l, Around.frames_deeper e⟩) _ _ PassesOwn.leaving (fun fl ν' σ' φ' h' tk' f' hq x₂ S₂ E₂ r => ?_) fun cls ν' σ' φ' hr h' tk' e' hq x₂ E₂ w => ?_
  · have st := x.trans (x₂.drop keep hW)
    cases r with
    | next => exact hR _ σ' φ' h' tk' _ hq st (SR.out S₂) .none
    | ret r => exact hR _ σ' φ' h' tk' _ hq st (SR.out S₂) r
  · exact Raised.leave hA hf (by rw [E₁.isSc, K.kind]; decide) w fun h'' w' => hX cls σ' φ' hr h'' tk' e' hq (x.trans (x₂.drop keep hW)) w'
end
end Mine
end
noncomputable section
open PySem PySem.W PyProof.Rows PySem.SeqAt PySem.Calls
set_option Elab.async false
set_option genSizeOf false
set_option genInjectivity false
set_option maxRecDepth 100000
set_option linter.unusedVariables false
namespace Mine
variable {wd : Wd}
section
variable {prog : Program} {w : World} {A : Around} {E : Value → Shared → Prop} {s : Shared} {Q : Value → Shared → Prop} {it l : Addr}
theorem next_open {T id : String} (slot : Slot T "__next__" id) (hT : s.TypeIs (.ref it) T) (h : wpAny (model prog w) A.in1 (callSpecial? (.ref it) "__next__") (fun r s' => ∃ v, r = some v ∧ Q v s') E s) : wpAny (model prog w) A (call (.builtin "next") [.ref it]) Q E s := by
  refine call_function_entry (by decide +kernel) (by decide +kernel) kdk_entry_next (kdk_args_next _) ?_
  unfold Builtin.«next»
  refine wpAny_bind (m := someArgs "next" 1 2 _) (wpAny_of_eq (a := [Value.ref it]) (by first | rfl | kernel_rfl!) ?_)
  dsimp only
  refine wpAny_bind (wpAny_specialOf (name := Str.ofString "__next__") hT slot.lookup ?_)
  refine wpAny_ite_split (fun hab => absurd hab (by simp)) (fun _ => ?_)
  refine wpAny_bind (wpAny_mono h (fun r s' hr => ?_) fun _ _ e => e)
  obtain ⟨v, rfl, hv⟩ := hr
  exact wpAny_pure ⟨_, rfl, hv⟩
theorem raise_stop {hr : Heap} {A' : Around} {α : Type} (hh : A'.handled = none) {g : Array GenState} {d : Drawn} {t : Nat} {os : OsState} {Q : α → Shared → Prop} (h : ∀ h' e, Heap.NewExc hr h' e "StopIteration" → E (.ref e) ⟨h', g, d, t, os⟩) :
    wpAny (model prog w) A' (Builtin.SmallTypes.stopIteration : Sem α) Q E ⟨hr, g, d, t, os⟩ := by
  show wpAny _ _ (newExc (.type "StopIteration") [] >>= _) _ _ _
  refine wpAny_bind ?_
  simp only [newExc, newTuple]
  refine wpAny_bind (wpAny_newObj_type ?_ (by size_fits))
  refine wpAny_bind (m := firstArgMember _ _) (wpAny_of_eq (a := Value.none) (by first | rfl | (simp only [firstArgMember]; rfl)) ?_)
  refine wpAny_newObj_type ?_ (by size_fits)
  simp only [raiseNew]
  refine wpAny_bind (wpAny_handled ?_)
  rw [hh]
  refine wpAny_bind (wpAny_pure (wpAny_throw ?_))
  refine h _ _ ⟨fun b o e => Heap.get?_push_of_some _ (Heap.get?_push_of_some _ e), ?_, ⟨_, _, Heap.get?_push_size _ rfl, rfl, rfl⟩⟩
  cases q : hr.get? _ with
  | none => rfl
  | some o => have := Heap.lt_size q; rw [Heap.size_push] at this; exact absurd this (Nat.not_lt.mpr (Nat.le_succ _))
theorem next_list_item {vs : List Value} {n k : Nat} {x : Value} (hi : s.heap.get? it = some (iterObj l k)) (hl : s.heap.get? l = some (listObj vs n)) (hx : vs[k]? = some x)
    (h : Q x { s with heap := s.heap.update it (Obj.mapFields (·.setIfInBounds 1 (rawInt ((k : Int) + 1)))) }) : wpAny (model prog w) A (call (.builtin "next") [.ref it]) Q E s := by
  refine next_open slot_listiter_next ⟨_, hi, rfl⟩ ?_
  refine wpAny_callSpecial?_slot (name := Str.ofString "__next__") ⟨_, hi, rfl⟩ slot_listiter_next (wpAny_call_entry slot_listiter_next ⟨_, hi, rfl⟩ entry_listiter_next ?_ (args_listiter_next _))
  show wpAny _ _ (field (.ref it) 0 >>= _) _ _ s
  refine wpAny_bind (wpAny_field hi rfl (x := .ref l) rfl ?_)
  show wpAny _ _ (if (Value.ref l == Value.none) = true then _ else _) _ _ s
  rw [if_neg (show ¬ ((Value.ref l == Value.none) = true) from Bool.false_ne_true)]
  show wpAny _ _ (field (.ref it) 1 >>= _) _ _ s
  refine wpAny_bind (wpAny_field hi rfl (x := .int k 0) rfl ?_)
  show wpAny _ _ (seqItems? (.ref l) >>= _) _ _ s
  refine wpAny_bind (wpAny_seqItems hl rfl ?_)
  have hx' : vs.toArray[k]? = some x := by simpa using hx
  simp only [Int.toNat_natCast, hx']
  exact wpAny_bind (wpAny_setField hi rfl (by simp) (wpAny_pure ⟨x, rfl, _, rfl, h⟩))
theorem next_list_end {vs : List Value} {n k : Nat} (hh : A.handled = none) (hi : s.heap.get? it = some (iterObj l k)) (hl : s.heap.get? l = some (listObj vs n)) (hx : vs[k]? = none)
    (h : ∀ h' e, Heap.NewExc (s.heap.update it (Obj.mapFields (·.setIfInBounds 0 .none))) h' e "StopIteration" → E (.ref e) { s with heap := h' }) : wpAny (model prog w) A (call (.builtin "next") [.ref it]) Q E s := by
  refine next_open slot_listiter_next ⟨_, hi, rfl⟩ ?_
  refine wpAny_callSpecial?_slot (name := Str.ofString "__next__") ⟨_, hi, rfl⟩ slot_listiter_next (wpAny_call_entry slot_listiter_next ⟨_, hi, rfl⟩ entry_listiter_next ?_ (args_listiter_next _))
  show wpAny _ _ (field (.ref it) 0 >>= _) _ _ s
  refine wpAny_bind (wpAny_field hi rfl (x := .ref l) rfl ?_)
  show wpAny _ _ (if (Value.ref l == Value.none) = true then _ else _) _ _ s
  rw [if_neg (show ¬ ((Value.ref l == Value.none) = true) from Bool.false_ne_true)]
  show wpAny _ _ (field (.ref it) 1 >>= _) _ _ s
  refine wpAny_bind (wpAny_field hi rfl (x := .int k 0) rfl ?_)
  show wpAny _ _ (seqItems? (.ref l) >>= _) _ _ s
  refine wpAny_bind (wpAny_seqItems hl rfl ?_)
  have hx' : vs.toArray[k]? = none := by simpa using hx
  simp only [Int.toNat_natCast, hx']
  exact wpAny_bind (wpAny_rule (wpAny_bind (wpAny_setField hi rfl (by simp) (raise_stop (A' := A.in1.in1) hh h))))
theorem next_dead {x : Value} (hh : A.handled = none) (hi : s.heap.get? it = some (deadObj x))
    (h : ∀ h' e, Heap.NewExc s.heap h' e "StopIteration" → E (.ref e) { s with heap := h' }) : wpAny (model prog w) A (call (.builtin "next") [.ref it]) Q E s := by
  refine next_open slot_listiter_next ⟨_, hi, rfl⟩ ?_
  refine wpAny_callSpecial?_slot (name := Str.ofString "__next__") ⟨_, hi, rfl⟩ slot_listiter_next (wpAny_call_entry slot_listiter_next ⟨_, hi, rfl⟩ entry_listiter_next ?_ (args_listiter_next _))
  show wpAny _ _ (field (.ref it) 0 >>= _) _ _ s
  refine wpAny_bind (wpAny_field hi rfl (x := .none) rfl ?_)
  show wpAny _ _ (if (Value.none == Value.none) = true then _ else _) _ _ s
  rw [if_pos (show ((Value.none == Value.none) = true) from rfl)]
  exact wpAny_bind (wpAny_rule (wpAny_bind (raise_stop (A' := A.in1.in1) hh h)))
theorem next_bdead {x : Value} (hh : A.handled = none) (hi : s.heap.get? it = some (bdeadObj x))
    (h : ∀ h' e, Heap.NewExc s.heap h' e "StopIteration" → E (.ref e) { s with heap := h' }) : wpAny (model prog w) A (call (.builtin "next") [.ref it]) Q E s := by
  refine next_open KBw.slot_next ⟨_, hi, rfl⟩ ?_
  refine wpAny_callSpecial?_slot (name := Str.ofString "__next__") ⟨_, hi, rfl⟩ KBw.slot_next (wpAny_call_entry KBw.slot_next ⟨_, hi, rfl⟩ KBw.entry_next ?_ (KBw.args_next _))
  show wpAny _ _ (field (.ref it) 0 >>= _) _ _ s
  refine wpAny_bind (wpAny_field hi rfl (x := .none) rfl ?_)
  show wpAny _ _ (if (Value.none == Value.none) = true then _ else _) _ _ s
  rw [if_pos (show ((Value.none == Value.none) = true) from rfl)]
  exact wpAny_bind (wpAny_rule (wpAny_bind (raise_stop (A' := A.in1.in1) hh h)))
theorem next_bytes_item {b : Array UInt8} {t : Tok} {k : Nat} {c : UInt8} (hi : s.heap.get? it = some (biterObj b t k)) (hx : b[k]? = some c)
    (h : Q (.int (c.toNat : Int) s.toks) { s with heap := s.heap.update it (Obj.mapFields (·.setIfInBounds 1 (rawInt ((k : Int) + 1)))), toks := s.toks + 1 }) : wpAny (model prog w) A (call (.builtin "next") [.ref it]) Q E s := by
  refine next_open KBw.slot_next ⟨_, hi, rfl⟩ ?_
  refine wpAny_callSpecial?_slot (name := Str.ofString "__next__") ⟨_, hi, rfl⟩ KBw.slot_next (wpAny_call_entry KBw.slot_next ⟨_, hi, rfl⟩ KBw.entry_next ?_ (KBw.args_next _))
  show wpAny _ _ (field (.ref it) 0 >>= _) _ _ s
  refine wpAny_bind (wpAny_field hi rfl (x := .bytes b t) rfl ?_)
  show wpAny _ _ (if (Value.bytes b t == Value.none) = true then _ else _) _ _ s
  rw [if_neg (show ¬ ((Value.bytes b t == Value.none) = true) from Bool.false_ne_true)]
  show wpAny _ _ (field (.ref it) 1 >>= _) _ _ s
  refine wpAny_bind (wpAny_field hi rfl (x := .int k 0) rfl ?_)
  refine wpAny_bind (wpAny_of_eq (a := b) rfl ?_)
  simp only [Int.toNat_natCast, hx]
  exact wpAny_bind (wpAny_setField hi rfl (by simp) (wpAny_bind (wpAny_mkInt (wpAny_pure ⟨_, rfl, _, rfl, h⟩))))
theorem next_bytes_end {b : Array UInt8} {t : Tok} {k : Nat} (hh : A.handled = none) (hi : s.heap.get? it = some (biterObj b t k)) (hx : b[k]? = none)
    (h : ∀ h' e, Heap.NewExc (s.heap.update it (Obj.mapFields (·.setIfInBounds 0 .none))) h' e "StopIteration" → E (.ref e) { s with heap := h' }) : wpAny (model prog w) A (call (.builtin "next") [.ref it]) Q E s := by
  refine next_open KBw.slot_next ⟨_, hi, rfl⟩ ?_
  refine wpAny_callSpecial?_slot (name := Str.ofString "__next__") ⟨_, hi, rfl⟩ KBw.slot_next (wpAny_call_entry KBw.slot_next ⟨_, hi, rfl⟩ KBw.entry_next ?_ (KBw.args_next _))
  show wpAny _ _ (field (.ref it) 0 >>= _) _ _ s
  refine wpAny_bind (wpAny_field hi rfl (x := .bytes b t) rfl ?_)
  show wpAny _ _ (if (Value.bytes b t == Value.none) = true then _ else _) _ _ s
  rw [if_neg (show ¬ ((Value.bytes b t == Value.none) = true) from Bool.false_ne_true)]
  show wpAny _ _ (field (.ref it) 1 >>= _) _ _ s
  refine wpAny_bind (wpAny_field hi rfl (x := .int k 0) rfl ?_)
  refine wpAny_bind (wpAny_of_eq (a := b) rfl ?_)
  simp only [Int.toNat_natCast, hx]
  exact wpAny_bind (wpAny_rule (wpAny_bind (wpAny_setField hi rfl (by simp) (raise_stop (A' := A.in1.in1) hh h))))
end
end Mine
end
noncomputable section
open PySem PySem.W PyProof.Rows PySem.SeqAt
set_option Elab.async false
set_option genSizeOf false
set_option genInjectivity false
set_option maxRecDepth 100000
set_option linter.unusedVariables false
namespace Mine
variable {wd : Wd}
/-- what an iterator of the store still gives -/
inductive Strm : List O → Nat → List V → Prop
  | list {σ : List O} {j i k : Nat} {l : List V} (hj : σ[j]? = some (.iter i k)) (hi : σ[i]? = some (.list l)) (ne : i < j) : Strm σ j (l.drop k)
  | bytes {σ : List O} {j k : Nat} {b : Array UInt8} (hj : σ[j]? = some (.biter b k)) : Strm σ j ((b.toList.drop k).map fun c => .int (c.toNat : Int))
  | dead {σ : List O} {j : Nat} (hj : σ[j]? = some .dead) : Strm σ j []
  | bdead {σ : List O} {j : Nat} (hj : σ[j]? = some .bdead) : Strm σ j []
def CallX (wd : Wd) (d : Nat) (f : Value) (l : List V) (σ : List O) (Q : V → List O → Prop) (QE : String → List O → Prop) : Prop :=
  ∀ (A : Around) (φ : List Addr) (s : Shared) (vs : List Value), AOk wd.hb.fs d A → SR wd.C wd.hb φ s.heap σ → VRs wd.C φ s.heap l vs →
    ∀ (R : Value → Shared → Prop) (E : Value → Shared → Prop), (∀ b σ' φ' h' tk a, Q b σ' → Step noW φ s.heap φ' h' → SR wd.C wd.hb φ' h' σ' → VR wd.C φ' h' b a → R a { s with heap := h', toks := tk }) →
      (∀ cls σ' φ' hr h' tk e, QE cls σ' → Step noW φ s.heap φ' hr → Raised wd A φ' σ' e cls hr h' → E (.ref e) { s with heap := h', toks := tk }) →
      wpAny (model wd.prog wd.w) A (call f vs) R E s
section
variable {C : Cls} {hb : HB} {φ : List Addr} {h : Heap} {σ : List O}
theorem SR.putAt (S : SR C hb φ h σ) {j : Nat} {a : Addr} {ob ob' : Obj} {o : O} (ea : φ[j]? = some a) (g : h.get? a = some ob) (f : Obj → Obj) (hf : (f ob).isFreed = false) (r : ∀ h', OR C φ h' o (f ob)) : Step noW φ h φ (h.update a f) ∧ SR C hb φ (h.update a f) (σ.set j o) :=
  S.put ea (Heap.SameBut.update ..) (Heap.get?_update_self f g hf) (r _)
end
section
variable {d : Nat} {σ : List O} {Q : V → List O → Prop} {QE : String → List O → Prop}
theorem CallX.next {j : Nat} {xs : List V} (hs : Strm σ j xs) (h1 : ∀ v rest o', xs = v :: rest → Strm (σ.set j o') j rest → Q v (σ.set j o')) (h2 : ∀ o', xs = [] → Strm (σ.set j o') j [] → QE "StopIteration" (σ.set j o')) :
    CallX wd d (.builtin "next") [.ref j] σ Q QE := by
  intro A φ s vs hA hS rs R E hR hX
  obtain ⟨_, _, rfl, r, rs⟩ := rs.cons_inv; obtain rfl := rs.nil_inv; obtain ⟨it, rfl, ej⟩ := r.ref_inv
  have lt : j < σ.length := by rw [← hS.len]; exact (List.getElem?_eq_some_iff.mp ej).1
  have raised : ∀ {o' : O} {f : Obj → Obj} {e : Addr} {h' : Heap}, SR wd.C wd.hb φ (s.heap.update it f) (σ.set j o') → Heap.NewExc (s.heap.update it f) h' e "StopIteration" → Raised wd A φ (σ.set j o') e "StopIteration" (s.heap.update it f) h' := fun S x => ⟨wd.hb.fs, fun _ q => q, S, .inl x⟩
  cases hs with
  | @list i k l hj hi ne =>
    obtain ⟨m, ob, g, a, ea, rfl⟩ := hS.atRef ej hj
    obtain ⟨vs, n, gl, rs⟩ := hS.listAt ea hi
    cases e : l[k]? with
    | some v =>
      obtain ⟨v', hv', rv⟩ := rs.get e
      have dr : l.drop k = v :: l.drop (k + 1) := by
        obtain ⟨hk, rfl⟩ := List.getElem?_eq_some_iff.mp e
        exact List.drop_eq_getElem_cons hk
      obtain ⟨x, S⟩ := hS.putAt (o := .iter i (k + 1)) (ob' := default) ej g (Obj.mapFields (·.setIfInBounds 1 (rawInt ((k : Int) + 1)))) rfl (fun h' => ⟨a, ea, rfl⟩)
      refine next_list_item g gl hv' (hR v _ φ _ _ _ (h1 v _ _ dr (.list (List.getElem?_set_self lt) (by rw [List.getElem?_set_ne (Nat.ne_of_gt ne)]; exact hi) ne)) x S (rv.step x hard_no))
    | none =>
      have dr : l.drop k = [] := List.drop_eq_nil_of_le (List.getElem?_eq_none_iff.mp e)
      obtain ⟨x, S⟩ := hS.putAt (o := .dead) (ob' := default) ej g (Obj.mapFields (·.setIfInBounds 0 .none)) rfl (fun h' => ⟨_, rfl⟩)
      have hv' : vs[k]? = Option.none := List.getElem?_eq_none_iff.mpr (by rw [← rs.length]; exact List.getElem?_eq_none_iff.mp e)
      refine next_list_end hA.hd g gl hv' fun h' e w => hX _ _ φ _ h' s.toks e (h2 _ dr (.dead (List.getElem?_set_self lt))) x (raised S w)
  | @bytes k b hj =>
    obtain ⟨m, ob, g, t, rfl⟩ := hS.atRef ej hj
    cases e : b[k]? with
    | some c =>
      have e' : b.toList[k]? = some c := by simpa using e
      have dr : b.toList.drop k = c :: b.toList.drop (k + 1) := by
        obtain ⟨hk, rfl⟩ := List.getElem?_eq_some_iff.mp e'
        exact List.drop_eq_getElem_cons hk
      obtain ⟨x, S⟩ := hS.putAt (o := .biter b (k + 1)) (ob' := default) ej g (Obj.mapFields (·.setIfInBounds 1 (rawInt ((k : Int) + 1)))) rfl (fun h' => ⟨t, rfl⟩)
      refine next_bytes_item g e (hR _ _ φ _ _ _ (h1 _ _ _ (by rw [dr]; rfl) (.bytes (List.getElem?_set_self lt))) x S (.int _ _))
    | none =>
      have e' : b.toList[k]? = Option.none := by simpa using e
      have dr : b.toList.drop k = [] := List.drop_eq_nil_of_le (List.getElem?_eq_none_iff.mp e')
      obtain ⟨x, S⟩ := hS.putAt (o := .bdead) (ob' := default) ej g (Obj.mapFields (·.setIfInBounds 0 .none)) rfl (fun h' => ⟨_, rfl⟩)
      refine next_bytes_end hA.hd g e fun h' e w => hX _ _ φ _ h' s.toks e (h2 _ (by rw [dr]; rfl) (.bdead (List.getElem?_set_self lt))) x (raised S w)
  | dead hj =>
    obtain ⟨m, ob, g, z, rfl⟩ := hS.atRef ej hj
    have es : σ.set j .dead = σ := by
      obtain ⟨_, e⟩ := List.getElem?_eq_some_iff.mp hj
      rw [← e]; exact List.set_getElem_self ..
    refine next_dead hA.hd g fun h' e w => hX _ _ φ _ h' s.toks e (h2 .dead rfl (by rw [es]; exact .dead hj)) .refl ⟨wd.hb.fs, fun _ q => q, by rw [es]; exact hS, .inl w⟩
  | bdead hj =>
    obtain ⟨m, ob, g, z, rfl⟩ := hS.atRef ej hj
    have es : σ.set j .bdead = σ := by
      obtain ⟨_, e⟩ := List.getElem?_eq_some_iff.mp hj
      rw [← e]; exact List.set_getElem_self ..
    refine next_bdead hA.hd g fun h' e w => hX _ _ φ _ h' s.toks e (h2 .bdead rfl (by rw [es]; exact .bdead hj)) .refl ⟨wd.hb.fs, fun _ q => q, by rw [es]; exact hS, .inl w⟩
variable {sc : Scope} {ν : Vars}
theorem PVX.callB (B : Bd wd) {f : Str} {id : String} {e : Expr} {rest : List Expr} {p p' : Pos} (hG : wd.G f = some (.builtin id)) (hx : sc.names.lookup f = some .globalImplicit)
    (h : PVs wd d sc ν σ (items (e :: rest) p) fun l σ₁ => CallX wd d (.builtin id) l σ₁ Q QE) (hd : (f == ("__debug__" : Str)) = false := by decide)
    (he : ∀ env, starEach (e :: rest) env = (false, eval e env) :: starEach rest env := by intro _; rfl) (hp : ∀ env, (backTo p (starEach rest env)).any (·.1) = false := by intro _; rfl)
    (hc : ∀ env, eval (.Call (.Name f p') (e :: rest) [] p) env = (do callWith p (← eval (.Name f p') env) [] (backTo p (starEach (e :: rest) env)) (backToKw p (keywordEach [] env))) := by intro _; rfl) : PVX wd d sc ν σ (eval (.Call (.Name f p') (e :: rest) [] p)) Q QE := by
  intro A env φ s hA hE hS R E hR hX
  refine PyProof.Rows.Call_ (wp_glob B hE hS hG hx hd ?_) (hc env)
  refine PyProof.Rows.callWith_builtin1 (h A env φ s hA hE hS _ _ fun l σ₁ φ₁ h₁ tk vs hq x S rs => ?_) (he env) (hp env)
  exact hq A φ₁ _ vs hA S rs _ _ (fun b σ₂ φ₂ h₂ tk₂ a hq x₂ S₂ r => hR b σ₂ φ₂ h₂ tk₂ a hq (x.trans x₂) S₂ r) fun cls σ' φ' hr h' tk e hq x₂ w => hX cls σ' φ' hr h' tk e hq (x.trans x₂) w
/-- a product, its left side one that may raise -/
theorem PVX.bin {l r : Expr} {op : Operator} {p : Pos} (h : PVX wd d sc ν σ (eval l) (fun a σ₁ => PV wd d sc ν σ₁ (eval r) fun b σ₂ => ∃ i j k, a = .int i ∧ b = .int j ∧ BinI op i j k ∧ Q (.int k) σ₂) QE) :
    PVX wd d sc ν σ (eval (.BinOp l op r p)) Q QE := by
  intro A env φ s hA hE hS R E hR hX
  refine wpAny_BinOp (h A env φ s hA hE hS _ _ (fun a σ₁ φ₁ h₁ tk₁ a' h2 x₁ S₁ ra => ?_) hX)
  refine h2 A env φ₁ _ hA (hE.step x₁) S₁ _ _ fun b σ₂ φ₂ h₂ tk₂ b' hq x₂ S₂ rb => ?_
  obtain ⟨i, j, k, rfl, rfl, hb, hq⟩ := hq
  obtain ⟨_, rfl⟩ := ra.int_inv
  obtain ⟨_, rfl⟩ := rb.int_inv
  exact hb.sound fun tk tk' => hR _ σ₂ φ₂ h₂ tk' _ hq (x₁.trans x₂) S₂ (.int k tk)
inductive AugI : Operator → Int → Int → Int → Prop
  | add {a b : Int} : AugI .Add a b (a + b)
  | sub {a b : Int} : AugI .Sub a b (a - b)
  | div {a b : Int} (h : 0 < b) (h2 : b < 1073741824) : AugI .FloorDiv a b (a / b)
  | shl {a : Int} {n : Nat} (h : Builtin.Int.intBits a + n ≤ 2 ^ 27) : AugI .LShift a n (a * 2 ^ n)
  | bor {a b : Int} : AugI .BitOr a b (Builtin.bitOr a b)
theorem AugI.sound {op : Operator} {a b c : Int} {t u : Tok} {M : Program} {w : World} {A : Around} {s : Shared} {R : Value → Shared → Prop} {E : Value → Shared → Prop} (x : AugI op a b c) (h : ∀ tk tk', R (.int c tk) { s with toks := tk' }) :
    wpAny (model M w) A (inplaceOp op (.int a t) (.int b u)) R E s := by
  cases x with
  | add => exact PyProof.Rows.iadd_int (h _ _)
  | sub => exact PyProof.Rows.isub_int (h _ _)
  | div hb hb2 => exact PyProof.Rows.ifloordiv_int (by omega) (by rw [Int.fdiv_eq_ediv_of_nonneg _ (Int.le_of_lt hb)]; exact h _ _) (.inl (PyProof.noPylong_small (by omega)))
  | shl hz => exact PyProof.Rows.ilshift_int (Int.natCast_nonneg _) (by exact_mod_cast hz) (by rw [Int.toNat_natCast]; exact h _ _)
  | bor => exact PyProof.Rows.ior_int (h _ _)
theorem ld_name {x : Str} {v : V} (e : ν.lookup x = some v) {A : Around} {env : Env} {φ : List Addr} {s : Shared} (hE : EnvR wd.C wd.hb.heap φ s.heap sc ν env) {R : Value → Shared → Prop} {E : Value → Shared → Prop} (hR : ∀ v', VR wd.C φ s.heap v v' → R v' s)
    (hn : (x == ("__classdict__" : Str)) = false := by decide) : wpAny (model wd.prog wd.w) A (loadName env x) R E s := by
  obtain ⟨m, n, hm⟩ := hE.ns
  obtain ⟨v', r, q⟩ := hm x v e
  have hk : env.scope.kind = .function := by rw [hE.isSc]; exact hE.fk
  have ek : ∀ k, sc.names.lookup x = some k → env.kindOf x = some k := fun k q => by rw [← hE.isSc] at q; exact q
  rcases q with ⟨k, hx⟩ | ⟨k | k, c, hc, hv⟩
  · exact wpAny_loadName_local hk (ek _ k) n hx (hR v' r)
  · exact wpAny_loadName_cell hk (ek _ k) hc hv (hR v' r)
  · exact wpAny_loadName_free hk (ek _ k) hc hv (hR v' r) hn
theorem PF.aug {Q : Fl → Vars → List O → Prop} {x : Str} {p' p : Pos} {op : Operator} {e : Expr} {a : Int} (hx : sc.names.lookup x = some .local ∨ sc.names.lookup x = some .cell) (hν : ν.lookup x = some (.int a))
    (h : PV wd d sc ν σ (eval e) fun v σ₁ => ∃ b c, v = .int b ∧ AugI op a b c ∧ Q .next ((x, .int c) :: ν) σ₁) (hn : (x == ("__classdict__" : Str)) = false := by decide) : PF wd d sc ν σ (exec (.AugAssign (.Name x p') op e p)) Q := by
  intro A env φ s hA hE hS R E hR
  refine wpAny_AugAssign_Name (ld_name hν hE (fun old r => ?_) hn)
  refine h A env φ s hA hE hS _ _ fun v σ₁ φ₁ h₁ tk v' hq x₁ S r' => ?_
  obtain ⟨b, c, rfl, hop, hq⟩ := hq
  obtain ⟨_, rfl⟩ := r.int_inv
  obtain ⟨_, rfl⟩ := r'.int_inv
  refine hop.sound fun tk' tk'' => ?_
  refine PA.store hx hq A env φ₁ { s with heap := h₁, toks := tk'' } (.int c tk') hA (hE.step x₁) S (.int _ _) _ _ fun ν' σ' φ' h' tk3 hq x₂ S₂ E₂ => ?_
  exact hR .next ν' σ' φ' h' tk3 _ hq ((x₁.env hE).trans x₂) S₂ E₂ .next
theorem PB.valI {T : Bool → List O → Prop} {e : Expr} (h : PV wd d sc ν σ (eval e) fun v σ₁ => ∃ i, v = .int i ∧ T (i != 0) σ₁) (he : ∀ env whole, isTrue e env whole = (do let v ← whole; standAt e.pos; holding [v] (truthy v)) := by intro _ _; rfl) :
    PB wd d sc ν σ (fun env => isTrue e env (eval e env)) T := by
  intro A env φ s hA hE hS R E hR
  refine wpAny_isTrue_value (h A env φ s hA hE hS _ _ fun v σ₁ φ₁ h₁ tk a hq x₁ S₁ r => ?_) (he _ _)
  obtain ⟨i, rfl, hq⟩ := hq
  obtain ⟨_, rfl⟩ := r.int_inv
  exact PyProof.Rows.truthy_int (hR _ σ₁ φ₁ h₁ tk _ hq x₁ S₁ rfl)
end
end Mine
end
noncomputable section
open PySem PySem.W PyProof.Rows PySem.SeqAt
set_option Elab.async false
set_option genSizeOf false
set_option genInjectivity false
set_option maxRecDepth 100000
set_option linter.unusedVariables false
namespace Mine
theorem and63 (x : Int) : Builtin.bitAnd x 63 = x % 64 := by
  by_cases hx : 0 ≤ x
  · rw [bitAnd_pp hx (by decide)]
    have h : x.toNat &&& (63 : Int).toNat = x.toNat % 64 := Nat.and_two_pow_sub_one_eq_mod x.toNat 6
    rw [h]; omega
  · rw [bitAnd_np hx (by decide)]
    have h : (63 : Int).toNat &&& (Builtin.bitNot x).toNat = (Builtin.bitNot x).toNat % 64 := by
      rw [Nat.and_comm]; exact Nat.and_two_pow_sub_one_eq_mod (Builtin.bitNot x).toNat 6
    rw [h]; unfold Builtin.bitNot; omega
theorem and1 (x : Int) : Builtin.bitAnd x 1 = x % 2 := by
  by_cases hx : 0 ≤ x
  · rw [bitAnd_pp hx (by decide)]
    have h : x.toNat &&& (1 : Int).toNat = x.toNat % 2 := Nat.and_two_pow_sub_one_eq_mod x.toNat 1
    rw [h]; omega
  · rw [bitAnd_np hx (by decide)]
    have h : (1 : Int).toNat &&& (Builtin.bitNot x).toNat = (Builtin.bitNot x).toNat % 2 := by
      rw [Nat.and_comm]; exact Nat.and_two_pow_sub_one_eq_mod (Builtin.bitNot x).toNat 1
    rw [h]; unfold Builtin.bitNot; omega
theorem nat64 (n : Nat) : n &&& 64 = if 64 ≤ n % 128 then 64 else 0 := by
  apply Nat.eq_of_testBit_eq
  intro i
  have e : (64 : Nat).testBit i = decide (6 = i) := by rw [show (64 : Nat) = 2 ^ 6 from rfl, Nat.testBit_two_pow]
  rw [Nat.testBit_and, e]
  by_cases q : 6 = i
  · subst q
    rw [Nat.testBit_eq_decide_div_mod_eq, show (2 : Nat) ^ 6 = 64 from rfl]
    by_cases c : 64 ≤ n % 128
    · rw [if_pos c, decide_eq_true (show n / 64 % 2 = 1 by omega)]; rfl
    · rw [if_neg c, decide_eq_false (show ¬ n / 64 % 2 = 1 by omega)]; rfl
  · rw [decide_eq_false q, Bool.and_false]
    by_cases c : 64 ≤ n % 128
    · rw [if_pos c, e, decide_eq_false q]
    · rw [if_neg c, Nat.zero_testBit]
theorem and64 (x : Int) : (Builtin.bitAnd x 64 != 0) = decide (64 ≤ x % 128) := by
  by_cases hx : 0 ≤ x
  · rw [bitAnd_pp hx (by decide), show (64 : Int).toNat = 64 from rfl, nat64]
    by_cases c : 64 ≤ x % 128
    · rw [if_pos (by omega), decide_eq_true c]; rfl
    · rw [if_neg (by omega), decide_eq_false c]; rfl
  · rw [bitAnd_np hx (by decide), show (64 : Int).toNat = 64 from rfl, Nat.and_comm, nat64]
    unfold Builtin.bitNot
    by_cases c : 64 ≤ x % 128
    · rw [if_neg (by omega), decide_eq_true c]; rfl
    · rw [if_pos (by omega), decide_eq_false c]; rfl
theorem or64 {a r : Int} (ha : 0 ≤ a) (h0 : 0 ≤ r) (h1 : r < 64) : Builtin.bitOr (a * 64) r = a * 64 + r := by
  rw [bitOr_and, bitAnd_pp (by omega) h0]
  have e : (a * 64).toNat &&& r.toNat = 0 := by
    have e1 : r.toNat = 63 &&& r.toNat := by
      rw [Nat.and_comm]
      have := Nat.and_two_pow_sub_one_eq_mod r.toNat 6
      rw [show (2 : Nat) ^ 6 - 1 = 63 from rfl] at this
      rw [this]; omega
    rw [e1, ← Nat.and_assoc]
    have e2 : (a * 64).toNat &&& 63 = 0 := by
      have := Nat.and_two_pow_sub_one_eq_mod (a * 64).toNat 6
      rw [show (2 : Nat) ^ 6 - 1 = 63 from rfl] at this
      rw [this]; omega
    rw [e2, Nat.zero_and]
  rw [e]; simp
theorem bits_lt {a : Int} {k : Nat} (h0 : 0 ≤ a) (h : a < 2 ^ k) : Builtin.Int.intBits a ≤ k := by
  unfold Builtin.Int.intBits
  split
  · omega
  · rename_i c
    have hn : a.natAbs ≠ 0 := by intro q; apply c; simp; omega
    have hl : a.natAbs < 2 ^ k := by
      have : ((a.natAbs : Nat) : Int) < ((2 ^ k : Nat) : Int) := by rw [Int.natAbs_of_nonneg h0]; exact_mod_cast h
      exact_mod_cast this
    have := (Nat.log2_lt hn).mpr hl
    omega
/-- a number in six-bit digits -/
def vint : Int → List Int → Option (Int × List Int)
  | _, [] => none
  | val, b :: r => if 64 ≤ b % 128 then vint (val * 64 + b % 64) r else some (val * 64 + b % 64, r)
variable {wd : Wd}
def VarintSpec (wd : Wd) (scope : Scope) (body : List Stmt) : Prop :=
  ∀ (d : Nat) (σ : List O) (j : Nat) (zs : List Int) (Q : V → List O → Prop) (QE : String → List O → Prop), Strm σ j (zs.map .int) → zs.length ≤ 1000000 →
    (∀ v rest o', vint 0 zs = some (v, rest) → Strm (σ.set j o') j (rest.map .int) → Q (.int v) (σ.set j o')) → (∀ o', vint 0 zs = none → Strm (σ.set j o') j [] → QE "StopIteration" (σ.set j o')) →
    PFX wd d scope ([Str.ofString "iterator"].zip [.ref j]) σ (execs body) (fun fl _ σ' => Q fl.val σ') (fun cls _ σ' => QE cls σ')
/-- between the turns of its loop -/
inductive VI (zs : List Int) (σ : List O) (j : Nat) (n : Nat) (ν : Vars) (σ' : List O) : Prop
  | mk (b val : Int) (r : List Int) (o' : O) (e : σ' = σ.set j o') (hs : Strm σ' j (r.map .int)) (hn : r.length = n) (h1 : ν.lookup (Str.ofString "b") = some (.int b)) (h2 : ν.lookup (Str.ofString "val") = some (.int val)) (h3 : ν.lookup (Str.ofString "iterator") = some (.ref j))
      (h4 : 0 ≤ val) (h5 : val < 2 ^ (6 * (zs.length - r.length))) (h6 : r.length < zs.length) (h7 : vint 0 zs = if 64 ≤ b % 128 then vint val r else some (val, r)) : VI zs σ j n ν σ'
end Mine
end
noncomputable section
open PySem PySem.W PyProof.Rows PySem.SeqAt PySem.Calls PySem.Builtin PySem.Builtin.ObjectAttr PySem.Builtin.Getset_descriptor
set_option Elab.async false
set_option genSizeOf false
set_option genInjectivity false
set_option maxRecDepth 100000
set_option maxHeartbeats 4000000
set_option linter.unusedVariables false
namespace Mine
variable {wd : Wd}
theorem AOk.under {fs : List Addr} {d : Nat} {A : Around} {C : Addr} {vs : List Value} (x : AOk fs (d + 1) A) : AOk fs d (A.under (.builtin "type.__call__" ⟨.ref C :: vs, []⟩)) := by
  refine ⟨x.hd, ?_, ?_, x.fr⟩
  · have := x.dep; show A.depth + 1 + _ + _ < _; omega
  · have := x.un; show A.units + 1 + _ + _ < _; omega
structure EntryK (K : Frag) (C f : Addr) : Prop where
  cls : ∃ oc od cd sl, K.lookup C = some ⟨oc, od, .cls cd, sl⟩ ∧ cd.mro.isEmpty = false ∧ cd.hasDel = false
  call : ∀ (M : Model) (h : Heap), K.In h → Looks M h (specialOf (.ref C) "__call__") (some (.builtin "type.__call__"))
  typ : ∀ (M : Model) (h : Heap), K.In h → Looks M h (isInstance (.ref C) (.type "type")) true
  made : ∀ (M : Model) (h : Heap), K.In h → Looks M h (Bind.madeBy (.ref C)) Option.none
  here : ∀ (M : Model) (h : Heap), K.In h → Looks M h (Bind.madeHere "tuple.__new__" (.ref C)) ()
  chk : ∀ (M : Model) (h : Heap), K.In h → ∀ t, Looks M h (checkBuiltinCall "tuple.__new__" ⟨[.ref C, .ref t], []⟩) ()
  isT : ∀ (M : Model) (h : Heap), K.In h → Looks M h (isType (.ref C)) true
  sub : ∀ (M : Model) (h : Heap), K.In h → Looks M h (isSubtype (.ref C) (.type "tuple")) true
  self : ∀ (M : Model) (h : Heap), K.In h → Looks M h (isSubtype (.ref C) (.ref C)) true
  top : ∀ (M : Model) (h : Heap), K.In h → Looks M h (isSubtype (.ref C) (.type "object")) true
  init : ∀ (M : Model) (h : Heap), K.In h → Looks M h (typeLookup (.ref C) "__init__") (some (.builtin "object.__init__"))
  reads : readsIn K C (.type "type") = true
  new : ∃ p, findCls K (.ref C) (.type "type") "__new__" = some (.get (.builtin "staticmethod.__get__") (.ref p) .none (.ref C)) ∧ recIn K p "staticmethod" = some [.ref f]
section
variable {d : Nat} {σ : List O} {Q : V → List O → Prop} {f : Addr}
theorem CallR.tupleNew (B : Bd wd) (K : EntryK wd.K wd.C.EC f) {l : List V} {nm : Str} (hz : l.length ≤ 1000) (hq : Q (.row l σ.length) (σ ++ [.attr nm Option.none])) : CallR wd d (.builtin "tuple.__new__") [.ecls, .tup l] σ Q := by
  intro A φ s vs hA hS rs R E hR
  obtain ⟨_, _, rfl, r, rs⟩ := rs.cons_inv; obtain ⟨_, _, rfl, r', rs⟩ := rs.cons_inv; obtain rfl := rs.nil_inv; obtain rfl := r.ecls_inv; obtain ⟨a, vs, n, rfl, e, off, rs⟩ := r'.tup_inv
  have X := B.X.keeps hS.base
  obtain ⟨oc, od, cd, sl, hC0, e1, e2⟩ := K.cls
  have hlen := rs.length
  obtain ⟨hh, g, dd, t, os⟩ := s
  dsimp only at *
  have hC := X _ _ hC0
  have L1 := K.isT (model wd.prog wd.w) hh X
  have L2 := K.sub (model wd.prog wd.w) hh X
  have L3 := K.here (model wd.prog wd.w) hh X
  have L4 := K.init (model wd.prog wd.w) hh X
  refine wpAny_call (codeAny_call_builtin PySem.F.plain_tuple_new PySem.F.entry_tuple_new (K.chk _ _ X a _ _ _ _ (fun _ _ e => e) ?_))
  unfold Builtin.«tuple.__new__»
  repeat (first | (with_reducible refine wpAny_collect_seq a (T := "tuple") (.inr rfl) e rfl rfl (fun h' hk => ?_) (by rw [List.size_toArray, sizeLine_eq, ← hlen]; omega)) | lk)
  have st1 : Step noW φ hh φ h' := Step.kept' hk
  have S1 := hS.kept hk
  have rs1 := rs.step st1 hard_no
  have S1' : SR wd.C wd.hb φ h' σ := S1
  obtain ⟨x2, S2, r2⟩ := S1'.push emptyDict (.attr nm Option.none) rfl ⟨0, rfl⟩
  have hC1 := hk _ _ hC
  have hEC2 : ((h'.push emptyDict).push { cls := .ref wd.C.EC, dict := some h'.objs.size, data := .seq vs.toArray 0 }).get? wd.C.EC = some ⟨oc, od, .cls cd, sl⟩ := Heap.get?_push_of_some _ (Heap.get?_push_of_some _ hC1)
  rw [if_neg (by rw [List.size_toArray, sizeLine_eq, ← hlen]; omega)]
  show wpAny _ _ (newObjAsIs _ _ _) _ _ _
  unfold newObjAsIs classHasDel
  refine wpAny_bind (wpAny_alloc (wpAny_bind (wpAny_bind (wpAny_load hEC2 (wpAny_pure ?_)))))
  rw [e2]
  refine wpAny_pure (wpAny_pure ?_)
  show R _ _
  have hx : ((h'.push emptyDict).push { cls := .ref wd.C.EC, dict := some h'.objs.size, data := .seq vs.toArray 0 }).get? (h'.push emptyDict).objs.size = some { cls := .ref wd.C.EC, dict := some h'.objs.size, data := .seq vs.toArray 0 } := Heap.get?_push_size _ rfl
  refine hR (.row l σ.length) (σ ++ [.attr nm Option.none]) (φ ++ [h'.objs.size]) _ t _ hq ((st1.trans x2).trans (Step.pushed _)) (S2.pushed _) (.row hx (VR.fresh S2) ?_ ?_)
  · rw [← hS.len]; simp
  · exact (rs1.step x2 hard_no).step (Step.pushed _) hard_no
end
end Mine
end
noncomputable section
open PySem PySem.W PyProof.Rows PySem.SeqAt PySem.Calls PySem.Builtin PySem.Builtin.ObjectAttr PySem.Builtin.Getset_descriptor
set_option Elab.async false
set_option genSizeOf false
set_option genInjectivity false
set_option maxRecDepth 100000
set_option maxHeartbeats 4000000
set_option linter.unusedVariables false
namespace Mine
variable {wd : Wd}
def NewSpec (wd : Wd) (scope : Scope) (body : List Stmt) (ps : List Str) : Prop :=
  ∀ (d : Nat) (σ : List O) (l : List V) (nm : Str) (Q : V → List O → Prop), l.length = 5 → Q (.row l σ.length) (σ ++ [.attr nm Option.none]) → PF wd d scope (ps.zip (.ecls :: l)) σ (execs body) fun fl _ σ' => Q fl.val σ'
section
variable {d : Nat} {σ : List O} {Q : V → List O → Prop} {f : Addr}
theorem CallR.entry (B : Bd wd) (K : EntryK wd.K wd.C.EC f) {fd : FuncData} {scope : Scope} {body : List Stmt} {ps : List Str} (F : FnSc wd.K f fd scope body ps) (N : ∀ L, NewSpec (wd.in L) scope body ps) (hp : ps.length = 6) {l : List V} {nm : Str} (hz : l.length = 5) (hq : Q (.row l σ.length) (σ ++ [.attr nm Option.none])) :
    CallR wd (d + 2) (.ref wd.C.EC) l σ Q := by
  intro A φ s vs hA hS rs R E hR
  have X := B.X.keeps hS.base
  obtain ⟨oc, od, cd, sl, hC0, e1, e2⟩ := K.cls
  obtain ⟨p, en, ep⟩ := K.new
  have hlen := rs.length
  obtain ⟨hh, g, dd, t, os⟩ := s
  dsimp only at *
  have hC := X _ _ hC0
  have call := K.call (model wd.prog wd.w) hh X
  have made := K.made (model wd.prog wd.w) hh X
  have typ := K.typ (model wd.prog wd.w) hh X
  refine wpAny_call (codeAny_of_tree ?_)
  show wpAny _ _ (callAny (.ref wd.C.EC) _) _ _ _
  refine nd_load hC ?_
  show wpAny _ _ (callAny.viaDunder (.ref wd.C.EC) _) _ _ _
  unfold callAny.viaDunder
  refine wpAny_bind (call.at ?_)
  dsimp only
  rw [tc_bind]
  refine wpAny_bind (wpAny_pure (wpAny_bind (wpAny_pure ?_)))
  refine wpAny_pure (a := Fin.again (.call (.builtin "type.__call__") ⟨.ref wd.C.EC :: vs, []⟩)) (And.intro rfl ?_)
  refine codeAny_call_builtin_at (Code.quiet_builtin _ (by decide +kernel)) entry_typeCall (check_slot tc_kind tc_split typ (tc_args _ _ _) ?_)
  unfold Builtin.«type.__call__»
  have hm : Looks (model wd.prog wd.w) hh (mroOf (.ref wd.C.EC)) cd.mro := ((Looks.ld (part := Option.none) hC).andThen .now).andThen .now
  have hA' : AOk wd.hb.fs (d + 1) (A.under (.builtin "type.__call__" ⟨.ref wd.C.EC :: vs, []⟩)) := AOk.under hA
  repeat (first | simp only [e1, Bool.false_eq_true, if_false] | (with_reducible refine cls_bind X K.reads en (wpAny_call (sm_get (s := ⟨hh, g, dd, t + 1, os⟩) X ep (handed_on rfl ?_)))) | (with_reducible refine wpAny_bind ?_) | (with_reducible refine wpAny_holding ?_) | ((fail_if_success (with_reducible show wpAny _ _ (PySem.call (Value.ref f) _) _ _ _)); lk))
  refine wp_user (wd := wd) (d := d) (Q := fun v σ' => v = V.row l σ.length ∧ σ' = σ ++ [O.attr nm Option.none]) B F (l := .ecls :: l) (by rw [List.length_cons, hz, hp]) (fun L => N L d σ l nm (fun v σ' => v = .row l σ.length ∧ σ' = σ ++ [.attr nm Option.none]) hz ⟨rfl, rfl⟩) hA' hS (.cons .ecls rs) (fun b σ' φ' h' tk a hq' x S' r => ?_)
  obtain ⟨rfl, rfl⟩ := hq'
  have fin := hR _ _ φ' h' tk a hq x S' r
  have X' := B.X.keeps S'.base
  obtain ⟨ax, dx, ws, n, rfl, e, off, ed, rs'⟩ := r.row_inv
  have init := K.init (model wd.prog wd.w) h' X'
  have made' := K.made (model wd.prog wd.w) h' X'
  have t1 : Looks (model wd.prog wd.w) h' (typeOf (.ref ax)) (.ref wd.C.EC) := (Looks.ld e).andThen .now
  have t2 : Looks (model wd.prog wd.w) h' (isSubtype (.ref wd.C.EC) (.ref wd.C.EC)) true := K.self _ _ X'
  have t3 : Looks (model wd.prog wd.w) h' (isInstance (.ref ax) (.type "object")) true := t1.andThen (K.top _ _ X')
  obtain ⟨v1, v2, v3, v4, v5, rfl⟩ := len5 (hlen.symm.trans hz)
  unfold isInstance callSpecial? specialOf
  repeat (first | (with_reducible refine wpAny_call ?_) | (rw [oi_bind]; refine wpAny_bind (wpAny_pure ?_)) | lk)
  refine codeAny_call_builtin oi_plain entry_oi (@check_slot (model wd.prog wd.w) _ _ _ "object.__init__" "object" "__init__" (.ref ax) [v1, v2, v3, v4, v5] [] _ oi_kind oi_split t3 (by unfold argsOk; kernel_rfl) ?_)
  unfold Builtin.«object.__init__»
  repeat (first | simp only [bne_self_eq_false, Bool.false_eq_true, if_false] | lk)
  exact fin
end
end Mine
end
noncomputable section
open PySem PySem.W PyProof.Rows PySem.SeqAt PySem.Calls PySem.Builtin PySem.Builtin.ObjectAttr PySem.Builtin.Getset_descriptor
set_option Elab.async false
set_option genSizeOf false
set_option genInjectivity false
set_option maxRecDepth 100000
set_option maxHeartbeats 4000000
set_option linter.unusedVariables false
namespace Mine
variable {wd : Wd}
section
variable {d : Nat} {σ : List O} {Q : V → List O → Prop} {f : Addr}
theorem CallR.type1 {l : List V} {i : Nat} (hq : Q .ecls σ) (hi : i < σ.length) : CallR wd d (.type "type") [.row l i] σ Q := by
  intro A φ s vs hA hS rs R E hR
  obtain ⟨_, _, rfl, r, rs⟩ := rs.cons_inv; obtain rfl := rs.nil_inv; obtain ⟨a, dx, vs, n, rfl, e, off, ed, rs⟩ := r.row_inv
  obtain ⟨o, ho⟩ := hS.hold (List.mem_of_getElem? ed)
  exact kto_own (od := some o) ⟨e, rfl, rfl, ho⟩ (hR _ σ φ s.heap s.toks _ hq .refl hS .ecls)
theorem CallR.subTuple (B : Bd wd) (K : EntryK wd.K wd.C.EC f) (hq : Q (.bool true) σ) : CallR wd d (.builtin "issubclass") [.ecls, .ty "tuple"] σ Q := by
  intro A φ s vs hA hS rs R E hR
  obtain ⟨_, _, rfl, r, rs⟩ := rs.cons_inv; obtain ⟨_, _, rfl, r', rs⟩ := rs.cons_inv; obtain rfl := rs.nil_inv; obtain rfl := r.ecls_inv; obtain rfl := r'.ty_inv
  have X := B.X.keeps hS.base
  have fin := hR _ σ φ s.heap s.toks _ hq .refl hS (.bool true)
  obtain ⟨oc, od, cd, sl, hC0, e1, e2⟩ := K.cls
  have hC := X _ _ hC0
  obtain ⟨hh, g, dd, t, os⟩ := s
  have L2 := K.sub (model wd.prog wd.w) hh X
  refine call_issubclass (S := fun _ R s => s = ⟨hh, g, dd, t, os⟩ ∧ R (.ok (.ret (.bool true))) ⟨hh, g, dd, t, os⟩) (fun p w A' R' s' hs => ?_) ⟨rfl, fin⟩
  obtain ⟨rfl, hs⟩ := hs
  have L2 := K.sub (model p w) hh X
  refine issubclass_outer ?_
  unfold Builtin.«issubclass.nested»
  repeat lk
  exact hs
theorem CallR.tupleItem (B : Bd wd) (K : EntryK wd.K wd.C.EC f) {l : List V} {i k : Nat} {v : V} (hv : l[k]? = some v) (hi : i < σ.length) (hk : k ≤ 1000) (hq : Q v σ) : CallR wd d (.builtin "tuple.__getitem__") [.row l i, .int k] σ Q := by
  intro A φ s vs hA hS rs R E hR
  obtain ⟨_, _, rfl, r, rs⟩ := rs.cons_inv; obtain ⟨_, _, rfl, r', rs⟩ := rs.cons_inv; obtain rfl := rs.nil_inv; obtain ⟨a, dx, vs, n, rfl, e, off, ed, rq⟩ := r.row_inv; obtain ⟨tk, rfl⟩ := r'.int_inv
  have X := B.X.keeps hS.base
  obtain ⟨v', hv', rv⟩ := rq.get hv
  have fin := hR _ σ φ s.heap s.toks _ hq .refl hS rv
  obtain ⟨hh, g, dd, t, os⟩ := s
  dsimp only at *
  have t1 : Looks (model wd.prog wd.w) hh (typeOf (.ref a)) (.ref wd.C.EC) := (Looks.ld e).andThen .now
  have t3 : Looks (model wd.prog wd.w) hh (isInstance (.ref a) (.type "tuple")) true := t1.andThen (K.sub _ _ X)
  refine wpAny_call (codeAny_call_builtin PySem.F.slot_tuple_getitem.plain PySem.F.entry_tuple_getitem ?_)
  refine @check_slot (model wd.prog wd.w) _ _ ⟨hh, g, dd, t, os⟩ "tuple.__getitem__" "tuple" "__getitem__" (.ref a) [.int k tk] [] _ (by decide +kernel) (by decide +kernel) t3 (PySem.F.args_tuple_getitem_2 _ _) ?_
  unfold Builtin.«tuple.__getitem__»
  repeat lk
  have c1 : ¬ ((k : Int) < -2 ^ 63) := by omega
  have c2 : ¬ ((k : Int) ≥ 2 ^ 63) := by omega
  rw [decide_eq_false c1, decide_eq_false c2, if_neg (by decide)]
  have hkl : k < vs.length := (List.getElem?_eq_some_iff.mp hv').1
  have e3 : seqIndex? (k : Int) vs.toArray.size = some k := by rw [place_seq]; unfold place; rw [List.size_toArray]; simp; omega
  rw [e3, Option.bind_some, List.getElem?_toArray, hv']
  exact wpAny_pure fin
/-- a name of an object that stands in the fragment -/
theorem GetR.fixed (B : Bd wd) {a C dx : Addr} {es : List DictEntry} {n : Nat} {nm : Str} {v : V} {v' : Value} {attr : Option Value} (h1 : wd.K.lookup a = some ⟨.ref C, some dx, .plain, #[]⟩) (h2 : wd.K.lookup dx = some (dictOf es n)) (hg : plainGet wd.K C nm = true) (hh : hasDictIn wd.K C = true)
    (ha : findIn wd.K (.ref C) nm = some attr) (hn : noGet wd.K attr = true) (hl : getL nm es = some (some v')) (hr : ∀ φ h, VR wd.C φ h v v') (hq : Q v σ) : GetR wd d (.fixed a) nm σ Q := by
  intro A φ s o' hA hS r R E hR
  cases r
  have X := B.X.keeps hS.base
  exact get_value (od := some (dictOf es n)) X (.of_K X h1 h2) (plainGet_of hg).1 (findObj_own hh ha hn hl) ((hr φ s.heap).handed) (hR v σ φ s.heap _ _ hq .refl hS (hr _ _))
theorem AOk.in1 {fs : List Addr} {d : Nat} {A : Around} (x : AOk fs (d + 1) A) : AOk fs d A.in1 := by
  refine ⟨x.hd, ?_, ?_, x.fr⟩
  · have := x.dep; show A.depth + _ + _ < _; omega
  · have := x.un; show A.units + 1 + _ + _ < _; omega
def GetSpec (wd : Wd) (scope : Scope) (body : List Stmt) (ps : List Str) (k : Nat) (g : Addr) : Prop :=
  ∀ (d : Nat) (σ : List O) (l : List V) (i : Nat) (v : V) (Q : V → List O → Prop), l[k]? = some v → i < σ.length → Q v σ → PF wd d scope (ps.zip [.fixed g, .row l i, .ecls]) σ (execs body) fun fl _ σ' => Q fl.val σ'
/-- a field of a row -/
theorem GetR.field (B : Bd wd) {nm : Str} {f g : Addr} {k : Nat} {fd : FuncData} {scope : Scope} {body : List Stmt} {ps : List Str} (F : FnSc wd.K f fd scope body ps) (hps : ps.length = 3) (N : ∀ L, GetSpec (wd.in L) scope body ps k g) (ht : tupGet wd.K wd.C.EC = true)
    (hf : ∀ od, findObj wd.K wd.C.EC od nm = some (.bind (.ref f) (.ref g))) {l : List V} {i : Nat} {v : V} (hv : l[k]? = some v) (hi : i < σ.length) (hq : Q v σ) : GetR wd (d + 2) (.row l i) nm σ Q := by
  intro A φ s o' hA hS r R E hR
  have r0 := r
  obtain ⟨a, dx, vs, n, rfl, e, off, ed, rs⟩ := r.row_inv
  obtain ⟨o, ho⟩ := hS.hold (List.mem_of_getElem? ed)
  have X := B.X.keeps hS.base
  refine get_coreT (od := some o) (r := .bind (.ref f) (.ref g)) X ⟨e, rfl, rfl, ho⟩ ht (hf _) (fun q => by cases q) (fun v q => by cases q) fun g' a' q => ?_
  cases q
  refine wp_user (wd := wd) (d := d) (Q := Q) (s := { s with toks := s.toks + 1 }) B F (l := [.fixed g, .row l i, .ecls]) hps.symm (fun L => N L d σ l i v Q hv hi hq) hA.in1 hS (.cons (.fixed g) (.cons r0 (.cons .ecls .nil))) fun b σ' φ' h' tk a hq' x S' r => ?_
  rw [handedOut_of r.handed]
  exact wpAny_pure (hR b σ' φ' h' tk a hq' x S' r)
variable {sc : Scope} {ν : Vars}
/-- a function of a built-in type, called by the type's name -/
theorem PV.typeMeth (B : Bd wd) {x name : Str} {T id : String} {e : Expr} {rest : List Expr} {p p1 ap : Pos} {pl : Env → Sem Bool} (hG : wd.G x = some (.type T)) (hx : sc.names.lookup x = some .globalImplicit) (ht : PySem.typeOf (.type T) = pure (.type "type")) (hs : Manifest.isStub T = false)
    (ef : findCls [] (.type T) (.type "type") name = some (.val (.builtin id))) (hh : handedIn (.builtin id) = true)
    (h : PVs wd d sc ν σ (items (e :: rest) p) fun l σ₁ => CallR wd d (.builtin id) l σ₁ Q) (hd : (x == ("__debug__" : Str)) = false := by decide)
    (he : ∀ env, starEach (e :: rest) env = (false, eval e env) :: starEach rest env := by intro _; rfl) (hp : ∀ env, (backTo p (starEach rest env)).any (·.1) = false := by intro _; rfl)
    (hc : ∀ env, eval (.Call (.Attribute (.Name x p1) name ap) (e :: rest) [] p) env = (do
      let ov ← eval (.Name x p1) env
      standAt ap.atName
      let (f, first) ← holding [ov] (getMethod ov name (pl env))
      callWith p f first (backTo p (starEach (e :: rest) env)) (backToKw p (keywordEach [] env))) := by intro _; rfl) :
    PV wd d sc ν σ (eval (.Call (.Attribute (.Name x p1) name ap) (e :: rest) [] p)) Q := by
  intro A env φ s hA hE hS R E hR
  refine methodCall_KW (pl := pl env) (wp_glob B hE hS hG hx hd ?_) (hc env)
  obtain ⟨m, n, _⟩ := hE.ns
  have F : Fr (default : Heap) env.locals s.heap m := ⟨n, fun b o e => by exact absurd (Heap.lt_size e) (Nat.not_lt_zero _), Nat.zero_le _⟩
  refine method_type (K := []) F (fun a o e => by cases e) ht hs ef hh ?_
  refine PyProof.Rows.callWith_builtin1 (h A env φ { s with toks := s.toks + 1 } hA hE hS _ _ fun l σ₁ φ₁ h₁ tk vs hq x S rs => ?_) (he env) (hp env)
  exact hq A φ₁ _ vs hA S rs _ _ fun b σ₂ φ₂ h₂ tk₂ a hq x₂ S₂ r => hR b σ₂ φ₂ h₂ tk₂ a hq (x.trans x₂) S₂ r
/-- a call of a class of the fragment -/
theorem PV.callC (B : Bd wd) {x : Str} {C : Addr} {e : Expr} {rest : List Expr} {p p' : Pos} (hG : wd.G x = some (.ref C)) (hx : sc.names.lookup x = some .globalImplicit) (hk : keepIn wd.K (.ref C) = true)
    (h : PVs wd d sc ν σ (items (e :: rest) p) fun l σ₁ => CallR wd d (.ref C) l σ₁ Q) (hd : (x == ("__debug__" : Str)) = false := by decide)
    (he : ∀ env, starEach (e :: rest) env = (false, eval e env) :: starEach rest env := by intro _; rfl) (hp : ∀ env, (backTo p (starEach rest env)).any (·.1) = false := by intro _; rfl)
    (hc : ∀ env, eval (.Call (.Name x p') (e :: rest) [] p) env = (do callWith p (← eval (.Name x p') env) [] (backTo p (starEach (e :: rest) env)) (backToKw p (keywordEach [] env))) := by intro _; rfl) : PV wd d sc ν σ (eval (.Call (.Name x p') (e :: rest) [] p)) Q := by
  intro A env φ s hA hE hS R E hR
  refine PyProof.Rows.Call_ (wp_glob B hE hS hG hx hd ?_) (hc env)
  refine callWith_K (h₀ := wd.hb.heap) B.X hk (h A env φ s hA hE hS _ _ fun l σ₁ φ₁ h₁ tk vs hq x S rs => ⟨B.X.keeps S.base, ?_⟩) (he env) (hp env)
  exact hq A φ₁ _ vs hA S rs _ _ fun b σ₂ φ₂ h₂ tk₂ a hq x₂ S₂ r => hR b σ₂ φ₂ h₂ tk₂ a hq (x.trans x₂) S₂ r
end
end Mine
end
noncomputable section
open PySem PySem.W PyProof.Rows PySem.SeqAt PySem.Calls
set_option Elab.async false
set_option genSizeOf false
set_option genInjectivity false
set_option maxRecDepth 100000
set_option linter.unusedVariables false
namespace Mine
variable {wd : Wd}
theorem isExc_stop : isSubtype (.type "StopIteration") (.type "BaseException") = pure true := by rw [isSubtype_type]; kernel_rfl
theorem notTup_stop : isSubtype (.type ((Manifest.find? "StopIteration").elim "type" fun x => x.metatype)) (.type "tuple") = pure false := by rw [isSubtype_type]; kernel_rfl
theorem self_stop : isSubtype (.type "StopIteration") (.type "StopIteration") = pure true := by rw [isSubtype_type]; kernel_rfl
section
variable {d : Nat} {sc : Scope} {ν : Vars} {σ : List O}
theorem PV.ofX {t : Env → Sem Value} {Q : V → List O → Prop} (h : PVX wd d sc ν σ t Q fun _ _ => False) : PV wd d sc ν σ t Q := fun A env φ s hA hE hS R E hR => h A env φ s hA hE hS R E hR fun _ _ _ _ _ _ _ q => q.elim
/-- what stops is caught, and a name is given back -/
theorem PFX.tryS (B : Bd wd) {Q : Fl → Vars → List O → Prop} {QE : String → Vars → List O → Prop} {body : List Stmt} {x y : Str} {np py hp tp pos : Pos} (hG : wd.G x = some (.type "StopIteration")) (hx : sc.names.lookup x = some .globalImplicit)
    (h : PFX wd d sc ν σ (execs body) (fun f ν' σ' => Q f ν' σ') (fun cls ν' σ' => cls = "StopIteration" ∧ ∃ v, ν'.lookup y = some v ∧ Q (.ret v) ν' σ')) (hfs : wd.hb.fs ≠ [])
    (hd : (x == ("__debug__" : Str)) = false := by decide) (hdy : (y == ("__debug__" : Str)) = false := by decide) (hn : (y == ("__classdict__" : Str)) = false := by decide) :
    PFX wd d sc ν σ (exec (.Try body [.ExceptHandler (some (.Name x np)) Option.none [.Return (some (.Name y py)) hp] tp] [] [] pos)) Q QE := by
  intro A env φ s hA hE hS hT R E hP hR hX
  refine wpAny_Try_except (h A env φ s hA hE hS hT _ _ PassesOwn.looking (fun f ν' σ' φ' h' tk f' hq x S E₁ r => ?_) fun cls ν' σ' φ' hr h' tk e hq x₁ E₁ w => ?_)
  · cases r with
    | next => exact wpAny_execs_nil (hR .next ν' σ' φ' h' tk _ hq x S E₁ .next)
    | ret r => exact hR _ ν' σ' φ' h' tk _ hq x S E₁ (.ret r)
  · obtain ⟨rfl, v, hv, hq⟩ := hq
    obtain ⟨fs', m, S, w⟩ := w
    obtain ⟨l, el, F⟩ := hA.fr
    obtain ⟨outer, eT⟩ := hT
    rw [eT] at el
    cases el
    obtain ⟨L, hf⟩ : ∃ L, env.frame = some L := by
      have := F.at_
      cases hfs' : wd.hb.fs with
      | nil => rw [hfs'] at this; cases this
      | cons L r => rw [hfs', List.map_cons, List.map_cons, List.cons.injEq] at this; exact ⟨L, this.1⟩
    -- to the held state
    have held : ∀ {Q₁ : Unit → Shared → Prop} {E₁ : Value → Shared → Prop}, (∀ h₂ a0, Heap.HeldW (hideAll hr fs') (env :: outer) e (.type "StopIteration") a0 L h₂ → hr.UpToSlots h₂ → Q₁ () { s with heap := h₂, toks := tk }) →
        wpAny (model wd.prog wd.w) A (noteFrame (.ref e) env) Q₁ E₁ { s with heap := h', toks := tk } := by
      intro Q₁ E₁ k
      rcases w with w | ⟨l, a0, e1, fl, up⟩ | ⟨env', L', outer', a0, e1, f1, hh, up⟩
      · obtain ⟨ob, t, he, hc, hd⟩ := w.there
        have hen : (hideAll hr fs').get? e = none := by
          cases q : (hideAll hr fs').get? e with
          | none => rfl
          | some o => have := of_hideAll _ q; rw [w.new] at this; cases this
        unfold noteFrame
        simp only [hf]
        refine wpAny_bind (wpAny_field he hd (x := .none) rfl ?_)
        rw [if_neg (show ¬ ((Value.none != Value.none) = true) from by decide)]
        refine wpAny_entryW (a0 := t) eT (frames_ok S w.keeps (env :: outer) wd.hb.fs F m) hf he (fun b o q => w.keeps b o (of_hideAll _ q)) hen hd (by simp) rfl fun h₂ hN => ?_
        obtain ⟨k1, k2, k3, k4⟩ := hN
        exact k h₂ t ⟨k1, hen, k2, by rw [← hc]; exact k3⟩ ((Heap.UpToSlots.of_keeps w.keeps).trans k4)
      · rw [eT] at e1; cases e1
        exact wpAny_looks_onW eT hf fl fun h₂ hh up2 => k h₂ a0 hh (up.trans up2)
      · rw [eT] at e1; cases e1
        rw [hf] at f1; cases f1
        exact wpAny_noteFrame_againW hf hh.2.2.2 (k h' a0 hh up)
    refine held fun h₂ a0 hh up2 => wpAny_landsW hh fun h₃ hfl up3 => ?_
    have up3' := up2.trans up3
    obtain ⟨x3, S3⟩ := Fly.step (hb := wd.hb) m S hfl.1 up3'
    have E3 := E₁.step x3
    obtain ⟨ob, hob, hobc⟩ := hfl.there
    refine wpAny_handleBy_builtin (X := "StopIteration") (T := "StopIteration") (b := true) isExc_stop notTup_stop self_stop (wp_glob B E3 S3 hG hx hd ⟨rfl, ⟨ob, hob, hobc⟩, ?_⟩)
    refine lands_againW hfl fun h₄ hfl4 up4 => ?_
    obtain ⟨x4, S4⟩ := Fly.step (hb := wd.hb) m S hfl4.1 (up3'.trans up4)
    have E4 := E₁.step x4
    refine wpAny_execs_cons (wpAny_Return_some (wpAny_Name (ld_name hv E4 (fun v' r => ?_) hn) hdy))
    exact hR _ ν' σ' φ' h₄ tk _ hq (x₁.trans (x4.env E₁)) S4 E4 (.ret r)
theorem CallR.iterB {Q : V → List O → Prop} {b : Array UInt8} (hq : Q (.ref σ.length) (σ ++ [.biter b 0])) : CallR wd d (.builtin "iter") [.bytes b] σ Q := by
  intro A φ s vs hA hS rs R E hR
  obtain ⟨_, _, rfl, r, rs⟩ := rs.cons_inv; obtain rfl := rs.nil_inv; obtain ⟨t, rfl⟩ := r.bytes_inv
  refine call_function_entry (by decide +kernel) (by decide +kernel) kdk_entry_iter (kdk_args_iter _) ?_
  unfold Builtin.«iter»
  refine wpAny_bind (m := someArgs "iter" 1 2 _) (wpAny_of_eq (a := [Value.bytes b t]) (by first | rfl | kernel_rfl!) ?_)
  dsimp only
  refine wpAny_bind (KBw.pyIter_bytes (wpAny_pure ⟨_, rfl, ?_⟩))
  obtain ⟨x2, S2, r2⟩ := hS.push (biterObj b t 0) (.biter b 0) rfl ⟨t, rfl⟩
  exact hR _ _ _ _ s.toks _ hq x2 S2 r2
theorem CallR.iterL {Q : V → List O → Prop} {i : Nat} {l : List V} (hi : σ[i]? = some (.list l)) (hq : Q (.ref σ.length) (σ ++ [.iter i 0])) : CallR wd d (.builtin "iter") [.ref i] σ Q := by
  intro A φ s vs hA hS rs R E hR
  obtain ⟨_, _, rfl, r, rs⟩ := rs.cons_inv; obtain rfl := rs.nil_inv; obtain ⟨a, rfl, ea⟩ := r.ref_inv
  obtain ⟨vs, n, g, _⟩ := hS.listAt ea hi
  refine call_function_entry (by decide +kernel) (by decide +kernel) kdk_entry_iter (kdk_args_iter _) ?_
  unfold Builtin.«iter»
  refine wpAny_bind (m := someArgs "iter" 1 2 _) (wpAny_of_eq (a := [Value.ref a]) (by first | rfl | kernel_rfl!) ?_)
  dsimp only
  refine wpAny_bind (wpAny_pyIter_list ⟨_, g, rfl, _, rfl⟩ (wpAny_pure ⟨_, rfl, ?_⟩))
  obtain ⟨x2, S2, r2⟩ := hS.push (iterObj a 0) (.iter i 0) rfl ⟨a, (by rw [List.getElem?_append_left (List.getElem?_eq_some_iff.mp ea).1]; exact ea), rfl⟩
  exact hR _ _ _ _ s.toks _ hq x2 S2 r2
end
end Mine
end
noncomputable section
open PySem PySem.W PyProof.Rows PySem.SeqAt PySem.Calls
set_option Elab.async false
set_option genSizeOf false
set_option genInjectivity false
set_option maxRecDepth 100000
set_option linter.unusedVariables false
namespace Mine
variable {wd : Wd}
/-- the numbers of a table, those that end -/
def nums (val : Int) : List Int → List Int
  | [] => []
  | b :: r => if 64 ≤ b % 128 then nums (val * 64 + b % 64) r else (val * 64 + b % 64) :: nums 0 r
def chunk : List Int → List (Int × Int × Int × Int)
  | a :: b :: c :: d :: r => (a, b, c, d) :: chunk r
  | _ => []
theorem nums_some : ∀ {xs : List Int} {val v : Int} {r : List Int}, vint val xs = some (v, r) → nums val xs = v :: nums 0 r ∧ r.length < xs.length
  | [], _, _, _, e => by cases e
  | b :: xs, val, v, r, e => by
    have e1 : nums val (b :: xs) = if 64 ≤ b % 128 then nums (val * 64 + b % 64) xs else (val * 64 + b % 64) :: nums 0 xs := rfl
    unfold vint at e
    rw [e1]
    by_cases c : 64 ≤ b % 128
    · rw [if_pos c] at e; rw [if_pos c]
      have := nums_some e
      exact ⟨this.1, Nat.lt_succ_of_lt this.2⟩
    · rw [if_neg c] at e; rw [if_neg c]
      cases e
      exact ⟨rfl, Nat.lt_succ_self _⟩
theorem nums_none : ∀ {xs : List Int} {val : Int}, vint val xs = Option.none → nums val xs = []
  | [], _, _ => rfl
  | b :: xs, val, e => by
    have e1 : nums val (b :: xs) = if 64 ≤ b % 128 then nums (val * 64 + b % 64) xs else (val * 64 + b % 64) :: nums 0 xs := rfl
    unfold vint at e
    rw [e1]
    by_cases c : 64 ≤ b % 128
    · rw [if_pos c] at e; rw [if_pos c]; exact nums_none e
    · rw [if_neg c] at e; cases e
abbrev SL : Str := Str.ofString "start_label"
abbrev CE : Str := Str.ofString "co_exceptiontable"
def rowV (q : Int × Int × Int × Int) : List V := [.int (q.1 * 2), .int (q.1 * 2 + q.2.1 * 2), .int (q.2.2.1 * 2), .int (q.2.2.2.fdiv (2 ^ 1)), .bool (Builtin.bitAnd q.2.2.2 1 != 0)]
def rowsV (qs : List (Int × Int × Int × Int)) (is : List Nat) : List V := List.zipWith (fun q i => .row (rowV q) i) qs is
/-- nothing of the store lost -/
def Fr (σ σ' : List O) : Prop := ∀ (i : Nat) (o : O), σ[i]? = some o → σ'[i]? = some o
theorem Fr.refl {σ : List O} : Fr σ σ := fun _ _ e => e
theorem Fr.trans {a b c : List O} (x : Fr a b) (y : Fr b c) : Fr a c := fun i o e => y i o (x i o e)
theorem Fr.app {σ m : List O} : Fr σ (σ ++ m) := fun i o e => by rw [List.getElem?_append_left (List.getElem?_eq_some_iff.mp e).1]; exact e
theorem Fr.len {a b : List O} (x : Fr a b) : a.length ≤ b.length := by
  cases h : a.length with
  | zero => exact Nat.zero_le _
  | succ n =>
    have := x n a[n] (List.getElem?_eq_getElem (by omega))
    have := (List.getElem?_eq_some_iff.mp this).1
    omega
theorem Fr.set {σ σ' : List O} (x : Fr σ σ') {i : Nat} {o : O} (h : σ.length ≤ i) : Fr σ (σ'.set i o) := fun k o' e => by
  rw [List.getElem?_set_ne (by have := (List.getElem?_eq_some_iff.mp e).1; omega)]; exact x k o' e
def Rows (σ : List O) (lo : Nat) (qs : List (Int × Int × Int × Int)) (is : List Nat) : Prop :=
  is.length = qs.length ∧ is.Pairwise (· < ·) ∧ ∀ i ∈ is, lo ≤ i ∧ σ[i]? = some (.attr SL Option.none)
theorem Rows.mono {σ σ' : List O} {lo : Nat} {qs : List (Int × Int × Int × Int)} {is : List Nat} (x : Rows σ lo qs is) (h : ∀ (i : Nat) (o : O), lo ≤ i → σ[i]? = some o → σ'[i]? = some o) : Rows σ' lo qs is := ⟨x.1, x.2.1, fun i m => ⟨(x.2.2 i m).1, h i _ (x.2.2 i m).1 (x.2.2 i m).2⟩⟩
theorem Rows.lt {σ : List O} {lo : Nat} {qs : List (Int × Int × Int × Int)} {is : List Nat} (x : Rows σ lo qs is) {i : Nat} (m : i ∈ is) : i < σ.length := (List.getElem?_eq_some_iff.mp (x.2.2 i m).2).1
theorem rowsV_snoc {qs : List (Int × Int × Int × Int)} {is : List Nat} (h : is.length = qs.length) (q : Int × Int × Int × Int) (i : Nat) : rowsV (qs ++ [q]) (is ++ [i]) = rowsV qs is ++ [.row (rowV q) i] := by
  unfold rowsV
  rw [List.zipWith_append h.symm]; rfl
/-- what a table is read from -/
inductive TabSrc (σ : List O) : V → List Int → Prop
  | bytes (b : Array UInt8) : TabSrc σ (.bytes b) (KBw.bInts b)
  | list {k : Nat} {zs : List Int} (h : σ[k]? = some (.list (zs.map .int))) : TabSrc σ (.ref k) zs
def TabSpec (wd : Wd) (scope : Scope) (body : List Stmt) : Prop :=
  ∀ (d : Nat) (σ : List O) (i : Nat) (x : V) (zs : List Int) (Q : V → List O → Prop), σ[i]? = some (.attr CE (some x)) → TabSrc σ x zs → zs.length ≤ 100000 →
    (∀ σ' e is, Fr σ σ' → σ.length ≤ e → σ'[e]? = some (.list (rowsV (chunk (nums 0 zs)) is)) → Rows σ' (e + 1) (chunk (nums 0 zs)) is → Q (.ref e) σ') →
    PFX wd (d + 3) scope ([Str.ofString "code"].zip [.code i]) σ (execs body) (fun fl _ σ' => Q fl.val σ') fun _ _ _ => False
theorem CallR.boolI {d : Nat} {σ : List O} {Q : V → List O → Prop} {i : Int} (hq : Q (.bool (i != 0)) σ) : CallR wd d (.type "bool") [.int i] σ Q := by
  intro A φ s vs hA hS rs R E hR
  obtain ⟨_, _, rfl, r, rs⟩ := rs.cons_inv; obtain rfl := rs.nil_inv; obtain ⟨t, rfl⟩ := r.int_inv
  exact call_bool_int (hR _ σ φ s.heap s.toks _ hq .refl hS (.bool _))
theorem mul2 (a : Int) : IntMulOk a 2 := IntMulOk.of_right (by decide)
theorem Strm.fr {σ σ' : List O} {j : Nat} {xs : List V} (x : Strm σ j xs) (f : Fr σ σ') : Strm σ' j xs := by
  cases x with
  | list hj hi ne => exact .list (f _ _ hj) (f _ _ hi) ne
  | bytes hj => exact .bytes (f _ _ hj)
  | dead hj => exact .dead (f _ _ hj)
  | bdead hj => exact .bdead (f _ _ hj)
theorem Strm.high {σ : List O} {j e : Nat} {xs : List V} (x : Strm σ j xs) (h : j < e) (o : O) : Strm (σ.set e o) j xs := by
  cases x with
  | list hj hi ne => exact .list (by rw [List.getElem?_set_ne (Nat.ne_of_gt h)]; exact hj) (by rw [List.getElem?_set_ne (by omega)]; exact hi) ne
  | bytes hj => exact .bytes (by rw [List.getElem?_set_ne (Nat.ne_of_gt h)]; exact hj)
  | dead hj => exact .dead (by rw [List.getElem?_set_ne (Nat.ne_of_gt h)]; exact hj)
  | bdead hj => exact .bdead (by rw [List.getElem?_set_ne (Nat.ne_of_gt h)]; exact hj)
/-- what stands while a turn reads its numbers -/
structure TP (σ₀ : List O) (j e : Nat) (done : List (Int × Int × Int × Int)) (is : List Nat) (σ' : List O) : Prop where
  ent : σ'[e]? = some (.list (rowsV done is))
  rows : Rows σ' (e + 1) done is
  fr : Fr σ₀ σ'
  ej : j = σ₀.length
  ee : e = j + 1
theorem TP.set {σ₀ : List O} {j e : Nat} {done : List (Int × Int × Int × Int)} {is : List Nat} {σ' : List O} (x : TP σ₀ j e done is σ') (o : O) : TP σ₀ j e done is (σ'.set j o) := by
  have h1 := x.ej
  have h2 := x.ee
  refine ⟨by rw [List.getElem?_set_ne (by omega)]; exact x.ent, x.rows.mono fun i o' hi q => by rw [List.getElem?_set_ne (by omega)]; exact q, x.fr.set (by omega), h1, h2⟩
/-- between the turns of the table's loop: the rest r, the rows done -/
inductive TI (zs : List Int) (σ₀ : List O) (j e : Nat) (n : Nat) (ν : Vars) (σ' : List O) : Prop
  | mk (r : List Int) (done : List (Int × Int × Int × Int)) (is : List Nat) (hn : r.length = n) (h1 : ν.lookup (Str.ofString "iterator") = some (.ref j)) (h2 : ν.lookup (Str.ofString "entries") = some (.ref e)) (hs : Strm σ' j (r.map .int)) (T : TP σ₀ j e done is σ')
      (hc : chunk (nums 0 zs) = done ++ chunk (nums 0 r)) (hl : done.length + r.length ≤ zs.length) : TI zs σ₀ j e n ν σ'
section
variable {d : Nat} {sc : Scope} {ν : Vars} {σ : List O} {Q : V → List O → Prop} {QE : String → List O → Prop}
theorem CallR.iterS {x : V} {zs : List Int} (hsrc : TabSrc σ x zs) (hq : ∀ o, Strm (σ ++ [o]) σ.length (zs.map .int) → Q (.ref σ.length) (σ ++ [o])) : CallR wd d (.builtin "iter") [x] σ Q := by
  cases hsrc with
  | bytes b =>
    refine CallR.iterB (hq _ ?_)
    have := Strm.bytes (σ := σ ++ [.biter b 0]) (j := σ.length) (k := 0) (b := b) (by simp)
    rw [List.drop_zero] at this
    rw [KBw.bInts, List.map_map]; exact this
  | @list k zs h =>
    refine CallR.iterL h (hq _ ?_)
    have lt := (List.getElem?_eq_some_iff.mp h).1
    exact Strm.list (σ := σ ++ [.iter k 0]) (j := σ.length) (k := 0) (by simp) (Fr.app _ _ h) lt
theorem PVX.varint (B : Bd wd) {f y : Str} {a : Addr} {fd : FuncData} {scope : Scope} {body : List Stmt} {p p' p'' : Pos} (hG : wd.G f = some (.ref a)) (K : FnSc wd.K a fd scope body [Str.ofString "iterator"]) (SV : ∀ L, VarintSpec (wd.in L) scope body) (hx : sc.names.lookup f = some .globalImplicit)
    {j : Nat} {zs : List Int} (hν : ν.lookup y = some (.ref j)) (hs : Strm σ j (zs.map .int)) (hz : zs.length ≤ 1000000) (hok : ∀ v rest o', vint 0 zs = some (v, rest) → Strm (σ.set j o') j (rest.map .int) → Q (.int v) (σ.set j o')) (hend : ∀ o', vint 0 zs = Option.none → Strm (σ.set j o') j [] → QE "StopIteration" (σ.set j o'))
    (hd : (f == ("__debug__" : Str)) = false := by decide) (hd' : (y == ("__debug__" : Str)) = false := by decide) (hn : (y == ("__classdict__" : Str)) = false := by decide) :
    PVX wd (d + 1) sc ν σ (eval (.Call (.Name f p') [.Name y p''] [] p)) Q QE :=
  PVX.callU B hG K hx (PVs.cons (PV.name hν (PVs.nil ⟨rfl, fun L => SV L d σ j zs Q QE hs hz hok hend⟩) hd' hn)) hd
end
end Mine
end
noncomputable section
open PySem PySem.W PyProof.Rows PySem.SeqAt PySem.Calls
set_option Elab.async false
set_option genSizeOf false
set_option genInjectivity false
set_option maxRecDepth 100000
set_option linter.unusedVariables false
namespace Mine
variable {wd : Wd}
section
variable {d : Nat} {sc : Scope} {ν : Vars} {σ : List O} {Q : V → List O → Prop}
theorem Src.okFr {src : Src} {σ σ' : List O} (h : src.ok σ) (f : Fr σ σ') : src.ok σ' := by
  cases src with
  | list i l => exact f _ _ h
  | tup l => trivial
  | range a b s => trivial
inductive MapP (wd : Wd) (d : Nat) (sc' : Scope) (x : Str) (fv : Vars) (elt : Expr) (ifs : List Expr) (Q : V → List O → Prop) (v : V) (σ₁ : List O) : Prop
  | mk (src : Src) (hof : src.of v) (hok : src.ok σ₁) (hsz : src.xs.length ≤ 1000000) (P : V → Bool) (F : V → V)
      (turn : ∀ y ∈ src.xs, ∀ σ', Fr σ₁ σ' → PB wd d sc' ((x, y) :: fv) σ' (testsOf ifs) fun b σ₂ => b = P y ∧ Fr σ' σ₂ ∧ (b = true → PV wd d sc' ((x, y) :: fv) σ₂ (eval elt) fun v σ₃ => v = F y ∧ Fr σ₂ σ₃))
      (fin : ∀ σ', Fr σ₁ σ' → σ'[σ₁.length]? = some (.list ((src.xs.filter P).map F)) → Q (.ref σ₁.length) σ') : MapP wd d sc' x fv elt ifs Q v σ₁
theorem PV.compMap {elt iter : Expr} {x : Str} {px pos : Pos} {ifs : List Expr} {scope : Scope} (K : CompSc scope sc x)
    (h : PV wd d sc ν σ (eval iter) (MapP wd d (relab scope sc) x (freeVars scope ν) elt ifs Q))
    (hf : ∀ env x, foldedSetIterable iter env x = pure x := by intro _ _; rfl) :
    PV wd d sc ν σ (eval (.ListComp elt [⟨.Name x px, iter, ifs, 0⟩] scope pos)) Q := by
  refine PV.comp K (PG.mono h fun v σ₁ hq => ?_) hf
  obtain ⟨src, hof, hok, hsz, P, F, hbody, hend⟩ := hq
  refine ⟨src, hof, hok, hsz, fun k acc σ' => Fr σ₁ σ' ∧ σ'[σ₁.length]? = some (.list acc) ∧ acc = ((src.xs.take k).filter P).map F, ⟨Fr.app, by simp, by simp⟩, fun k acc σ' hI => src.okFr hok hI.1, ?_, ?_⟩
  · rintro k y acc σ' hy ⟨hfr, hacc, rfl⟩
    have hk : k < src.xs.length := (List.getElem?_eq_some_iff.mp hy).1
    have hyk : src.xs[k] = y := (List.getElem?_eq_some_iff.mp hy).2
    have ht : src.xs.take (k + 1) = src.xs.take k ++ [y] := by rw [List.take_add_one, hy]; rfl
    refine PG.mono (hbody y (List.mem_of_getElem? hy) σ' hfr) fun b σ₂ hb => ?_
    obtain ⟨rfl, f2, hv⟩ := hb
    cases c : P y with
    | false =>
      rw [if_neg (by simp)]
      exact ⟨hfr.trans f2, f2 _ _ hacc, by rw [ht, List.filter_append]; simp [c]⟩
    | true =>
      rw [if_pos rfl]
      refine PG.mono (hv c) fun v σ₃ hq => ?_
      obtain ⟨rfl, f3⟩ := hq
      have h3 := f3 _ _ (f2 _ _ hacc)
      refine ⟨h3, (hfr.trans (f2.trans f3)).set (Nat.le_refl _), List.getElem?_set_self (List.getElem?_eq_some_iff.mp h3).1, ?_⟩
      rw [ht, List.filter_append]; simp [c]
  · rintro acc σ' ⟨hfr, hacc, rfl⟩
    rw [List.take_length] at hacc
    exact hend σ' hfr hacc
end
end Mine
end
noncomputable section
open PySem PySem.W PyProof.Rows PySem.SeqAt PySem.Calls
set_option Elab.async false
set_option genSizeOf false
set_option genInjectivity false
set_option maxRecDepth 100000
set_option linter.unusedVariables false
namespace Mine
variable {wd : Wd}
section
variable {d : Nat} {σ : List O} {Q : V → List O → Prop}
theorem CallR.listList {i : Nat} {l : List V} (hi : σ[i]? = some (.list l)) (hz : l.length ≤ 1000000) (hq : Q (.ref σ.length) (σ ++ [.list l])) : CallR wd d (.type "list") [.ref i] σ Q := by
  intro A φ s vs hA hS rs R E hR
  obtain ⟨_, _, rfl, r, rs⟩ := rs.cons_inv; obtain rfl := rs.nil_inv; obtain ⟨adr, rfl, ea⟩ := r.ref_inv
  obtain ⟨vs, n, g, r⟩ := hS.listAt ea hi
  have hl := r.length
  refine call_list_seq adr (.inl rfl) g rfl rfl (fun h' c' hk hD => ?_) (by rw [List.size_toArray, sizeLine_eq, ← hl]; omega)
  have st0 : Step noW φ s.heap φ h' := Step.kept' hk
  have st : Step noW φ s.heap (φ ++ [s.heap.objs.size]) h' := by
    refine ⟨⟨_, rfl⟩, fun b m => ?_, fun b o' eb _ => ⟨o', hk _ _ eb⟩, fun b o' eb _ _ => .inl (hk _ _ eb)⟩
    rcases List.mem_append.mp m with m | m
    · exact .inl m
    · rw [List.mem_singleton.mp m]; exact .inr ⟨get_size_none _, id⟩
  obtain ⟨x2, S2⟩ := hS.add (o := .list l) (get_size_none _) hk hD ⟨vs, c', rfl, r.step st hard_no⟩
  exact hR _ _ _ _ s.toks _ hq x2 S2 (.ref (by rw [← hS.len]; simp))
end
end Mine
end
noncomputable section
open PySem PySem.W PyProof.Rows PySem.SeqAt PySem.Calls
set_option Elab.async false
set_option genSizeOf false
set_option genInjectivity false
set_option maxRecDepth 100000
set_option linter.unusedVariables false
namespace Mine
variable {wd : Wd}
theorem rangeN_one (a b : Int) : rangeN a b 1 = (b - a).toNat := by
  have := rangeSize_nat a b
  unfold rangeN; rw [this]; exact Int.toNat_natCast _
theorem src_range {a b s : Int} {k : Nat} {y : V} (h : (Src.xs (.range a b s))[k]? = some y) : k < rangeN a b s ∧ y = .int (a + k * s) := by
  have hk : k < rangeN a b s := by
    have := (List.getElem?_eq_some_iff.mp h).1
    simpa [Src.xs, rangeL] using this
  refine ⟨hk, ?_⟩
  have : (Src.xs (.range a b s))[k]? = some (.int (a + k * s)) := by simp [Src.xs, rangeL, hk]
  rw [this] at h; cases h; rfl
theorem srcN (a b s : Nat) (ha : a ≤ 1000000) (hb : b ≤ 1000000) (h0 : 0 < s) (hs : s ≤ 1000) : Src.of (.range a b s) (.range a b s) := ⟨rfl, by omega, by omega, by omega, by omega, by omega, by omega⟩
/-- digits put together -/
def fold6 (v : Int) (ds : List Int) : Int := ds.foldl (fun v b => v * 64 + b % 64) v
theorem fold6_snoc (v : Int) (ds : List Int) (b : Int) : fold6 v (ds ++ [b]) = fold6 v ds * 64 + b % 64 := by simp [fold6]
/-- the pending number and the rest -/
theorem nums_step (v : Int) (b : Int) (r : List Int) : nums v (b :: r) = if 64 ≤ b % 128 then nums (v * 64 + b % 64) r else (v * 64 + b % 64) :: nums 0 r := rfl
theorem filter_all {α : Type} (l : List α) : l.filter (fun _ => true) = l := List.filter_eq_self.mpr fun _ _ => rfl
end Mine
end
noncomputable section
open PySem PySem.W PyProof.Rows PySem.SeqAt PySem.Calls
set_option Elab.async false
set_option genSizeOf false
set_option genInjectivity false
set_option maxRecDepth 100000
set_option linter.unusedVariables false
namespace Mine
variable {wd : Wd}
theorem cl_nat (n k : Nat) : cl n (k : Int) = min k n := by
  unfold cl; rw [if_neg (by omega), Int.toNat_natCast]
theorem cut_to {α : Type} (l : List α) (n : Nat) : cut l Option.none (some (n : Int)) = l.take n := by
  unfold cut
  simp only [Option.map_none, Option.getD_none, Option.map_some, Option.getD_some, cl_nat, List.drop_zero, Nat.sub_zero]
  rcases Nat.le_total n l.length with h | h
  · rw [Nat.min_eq_left h]
  · rw [Nat.min_eq_right h, List.take_length, List.take_of_length_le h]
/-- what every law of this program stands on -/
structure Kit (wd : Wd) : Prop where
  B : Bd wd
  oU : OwnName wd.K wd.C.UC CE
  oE : OwnName wd.K wd.C.EC SL
  kU : keepIn wd.K (.ref wd.C.UC) = true
  mU : makesIn wd.K wd.C.UC = true
  iU : findIn wd.K (.ref wd.C.UC) "__init__" = some (some (.builtin "object.__init__"))
  gU : wd.G (Str.ofString "_Unknown") = some (.ref wd.C.UC)
  tab : ∃ a fd scope body, wd.G (Str.ofString "_parse_exception_table") = some (.ref a) ∧ FnSc wd.K a fd scope body [Str.ofString "code"] ∧ ∀ L, TabSpec (wd.in L) scope body
  get : ∀ (nm : Str) (k : Nat), [(Str.ofString "start", 0), (Str.ofString "end", 1), (Str.ofString "target", 2), (Str.ofString "depth", 3), (Str.ofString "lasti", 4)].lookup nm = some k → ∀ (d : Nat) (σ : List O) (l : List V) (i : Nat) (v : V) (Q : V → List O → Prop), l[k]? = some v → i < σ.length → Q v σ → GetR wd (d + 2) (.row l i) nm σ Q
theorem bInts_byteArr {zs : List Int} (h : ∀ z ∈ zs, 0 ≤ z ∧ z < 256) : KBw.bInts (byteArr zs) = zs := by
  unfold byteArr
  rw [KBw.ints_list, List.map_map]
  conv => rhs; rw [← List.map_id zs]
  apply List.map_congr_left
  intro z hz
  obtain ⟨h0, h1⟩ := h z hz
  show ((z.toNat.toUInt8).toNat : Int) = z
  rw [show (z.toNat.toUInt8).toNat = z.toNat % 256 from rfl]
  omega
/-- two things alike: what == says of them -/
def plainV : V → Bool
  | .int _ | .bool _ | .none | .str _ => true
  | _ => false
theorem EqS.refl' : ∀ {v : V}, plainV v = true → EqS v v true
  | .int a, _ => by have := EqS.int a a; rwa [beq_self_eq_true] at this
  | .bool a, _ => by have := EqS.bool a a; rwa [beq_self_eq_true] at this
  | .str a, _ => by have := EqS.str a a; rwa [beq_self_eq_true] at this
  | .none, _ => .none
theorem EqSs.refl' : ∀ {l : List V}, (∀ v ∈ l, plainV v = true) → EqSs l l true
  | [], _ => .nil
  | v :: l, h => .cons (EqS.refl' (h v (List.mem_cons_self ..))) (EqSs.refl' fun w m => h w (List.mem_cons_of_mem _ m))
def plainT : V → Prop
  | .tup l => ∀ v ∈ l, plainV v = true
  | v => plainV v = true
theorem EqV.refl' {v : V} (h : plainT v) : EqV v v true := by
  cases v <;> first | exact .tup (EqSs.refl' h) | exact .s (EqS.refl' h)
theorem EqVs.refl' : ∀ {l : List V}, (∀ v ∈ l, plainT v) → EqVs l l true
  | [], _ => .nil
  | v :: l, h => .cons (EqV.refl' (h v (List.mem_cons_self ..))) (EqVs.refl' fun w m => h w (List.mem_cons_of_mem _ m))
theorem PV.table (K : Kit wd) {d : Nat} {sc : Scope} {ν : Vars} {σ : List O} {Q : V → List O → Prop} {y : Str} {p p' p'' : Pos} (hx : sc.names.lookup (Str.ofString "_parse_exception_table") = some .globalImplicit) {i : Nat} {x : V} {zs : List Int} (hν : ν.lookup y = some (.code i)) (hi : σ[i]? = some (.attr CE (some x))) (hs : TabSrc σ x zs) (hz : zs.length ≤ 100000)
    (hok : ∀ σ' e is, Fr σ σ' → σ.length ≤ e → σ'[e]? = some (.list (rowsV (chunk (nums 0 zs)) is)) → Rows σ' (e + 1) (chunk (nums 0 zs)) is → Q (.ref e) σ')
    (hd' : (y == ("__debug__" : Str)) = false := by decide) (hn : (y == ("__classdict__" : Str)) = false := by decide) : PV wd (d + 4) sc ν σ (eval (.Call (.Name (Str.ofString "_parse_exception_table") p') [.Name y p''] [] p)) Q := by
  obtain ⟨aT, fT, sT, bT, gT, FT, TS⟩ := K.tab
  exact PV.ofX (PVX.callU K.B gT FT hx (PVs.cons (PV.name hν (PVs.nil ⟨rfl, fun L => TS L d σ i x zs Q hi hs hz hok⟩) hd' hn)) (by decide))
theorem rowsV_len {qs : List (Int × Int × Int × Int)} {is : List Nat} (h : is.length = qs.length) : (rowsV qs is).length = qs.length := by
  unfold rowsV; rw [List.length_zipWith, h, Nat.min_self]
theorem rowsV_get {qs : List (Int × Int × Int × Int)} {is : List Nat} {k : Nat} {q : Int × Int × Int × Int} {i : Nat} (h : qs[k]? = some q) (h2 : is[k]? = some i) : (rowsV qs is)[k]? = some (.row (rowV q) i) := by
  unfold rowsV; rw [List.getElem?_zipWith, h, h2]
end Mine
end
noncomputable section
open PySem PySem.W PyProof.Rows PySem.SeqAt PySem.Calls
set_option Elab.async false
set_option genSizeOf false
set_option genInjectivity false
set_option maxRecDepth 100000
set_option linter.unusedVariables false
namespace Mine
/-- what a name of the top stands for -/
def gOf (K : Frag) (x : Str) : Option Value := match nsIn K mainGlobals x with
  | some (some v) => some v
  | some Option.none => if (x == ("__name__" : Str)) = true then Option.none else bootBuiltins x
  | Option.none => Option.none
theorem bd_of {prog : Program} {w : World} {C : Cls} {K : Frag} {h : Heap} {fs : List Addr} {mg mb : Str → Option Value} (X : K.In h) (g : h.Ns mainGlobals mg) (b : h.Ns builtinsNs mb) (hb : ∀ x : Str, x ≠ "__name__" → mb x = bootBuiltins x) (nl : h.NoLimit) : Bd ⟨prog, w, C, ⟨h, fs⟩, K, gOf K⟩ := by
  refine ⟨fun x v e => ⟨mg, mb, g, b, ?_⟩, nl, X⟩
  have e' : gOf K x = some v := e
  unfold gOf at e'
  cases q : nsIn K mainGlobals x with
  | none => rw [q] at e'; cases e'
  | some r =>
    rw [q] at e'
    cases r with
    | some u => cases e'; exact .inl (mg_of X g q)
    | none =>
      dsimp only at e'
      split at e'
      · cases e'
      · rename_i c
        exact .inr ⟨mg_none_of X g q, (hb x fun z => c (by rw [z]; exact beq_self_eq_true _)).trans e'⟩
theorem close (wd : Wd) {A : Around} {env : Env} {s₁ s : Shared} {sc : Scope} {ν : Vars} {t : Env → Sem Flow} (hb : wd.hb = ⟨s₁.heap, [s₁.heap.objs.size]⟩) (hA : AOk [s₁.heap.objs.size] 10 A) (hE : EnvR wd.C s₁.heap [] s.heap sc ν env) (hl : env.locals = s₁.heap.objs.size)
    (hk : ∀ b o, s₁.heap.get? b = some o → s.heap.get? b = some o) (law : PF wd 10 sc ν [] t fun fl _ _ => fl = .ret (.bool true)) {R : Flow → Shared → Prop} {E : Value → Shared → Prop}
    (hR : ∀ h' tk m, PyProof.Rows.Fr s₁.heap s₁.heap.objs.size h' m → R (.ret (.bool true)) { s with heap := h', toks := tk }) : wpAny (model wd.prog wd.w) A (t env) R E s := by
  have hA' : AOk wd.hb.fs 10 A := by rw [hb]; exact hA
  have hE' : EnvR wd.C wd.hb.heap [] s.heap sc ν env := by rw [hb]; exact hE
  have hS : SR wd.C wd.hb [] s.heap [] := by
    rw [hb]
    refine ⟨rfl, List.nodup_nil, hk, fun _ m => (by cases m), fun a m => ?_, fun i a o e => (by cases e)⟩
    rw [List.mem_singleton.mp m]
    refine ⟨by simp, get_size_none _, ?_⟩
    obtain ⟨mm, n, _⟩ := hE.ns
    rw [hl] at n
    exact ns_dict n
  refine law A env [] s hA' hE' hS R E fun f ν' σ' φ' h' tk f' hq x S E₁ r => ?_
  subst hq
  cases r with | ret r =>
  cases r
  obtain ⟨mm, n, _⟩ := E₁.ns
  rw [hl] at n
  exact hR h' tk mm ⟨n, fun b o e => S.base b o (by rw [hb]; exact e), Nat.le_refl _⟩
theorem aok_law {env : Env} {L : Addr} (hf : env.frame = some L) (hk : env.scope.kind ≠ .module) : AOk [L] 10 (callerA.deeper env) := by
  refine ⟨rfl, show callerA.depth + 1 + 10 * 10 + 20 < recursionLimit by decide, show callerA.units + 3 + 100 * 10 + 1000 < cLine by decide, [env], rfl, ⟨by rw [List.map_singleton, hf]; rfl, fun e m => by rw [List.mem_singleton.mp m]; exact hk⟩⟩
theorem well_list {P : Params} {h : Heap} {a : Addr} {xs : List PyData} {vs : List Value} (w : Well P h (.ref a) (ofPy (PyData.list xs))) (hL : h.IsList a vs.toArray) : h.get? a = some (listObj vs 0) := by
  obtain ⟨ys, e⟩ : ∃ ys, ofPy (PyData.list xs) = .list ys := ⟨_, rfl⟩
  rw [e] at w
  cases w with
  | @list _ ws _ g r =>
    obtain ⟨o, h1, h2, n, h3⟩ := hL
    rw [g] at h1
    cases h1
    injection h3 with h4 h5
    have : ws = vs := by simpa using h4
    rw [g, this]
theorem vrs_ints {C : Cls} {φ : List Addr} {h : Heap} : ∀ {xs : List Int} {vs : List Value}, IntsAre vs xs → VRs C φ h (xs.map .int) vs := by
  intro xs vs hI
  induction hI with
  | nil => exact .nil
  | cons n t _ ih => exact .cons (.int n t) ih
end Mine
end
noncomputable section
open PySem PySem.W PyProof.Rows PySem.SeqAt
set_option Elab.async false
set_option genSizeOf false
set_option genInjectivity false
set_option maxRecDepth 100000
set_option linter.unusedVariables false
namespace Mine
variable {wd : Wd}
section
variable {prog : Program} {w : World} {A : Around} {E : Value → Shared → Prop} {s : Shared}
end
section
variable {d : Nat} {sc : Scope} {ν : Vars} {σ : List O}
theorem PV.neg {e : Expr} {p : Pos} {Q : V → List O → Prop} (h : PV wd d sc ν σ (eval e) fun v σ₁ => ∃ i, v = .int i ∧ Q (.int (-i)) σ₁) : PV wd d sc ν σ (eval (.UnaryOp .USub e p)) Q := by
  intro A env φ s hA hE hS R E hR
  refine UnaryOp_ (h A env φ s hA hE hS _ _ fun v σ₁ φ₁ h₁ tk v' hq x S r => ?_)
  obtain ⟨i, rfl, hq⟩ := hq
  obtain ⟨_, rfl⟩ := r.int_inv
  exact PyProof.Rows.neg_int (hR _ σ₁ φ₁ h₁ _ _ hq x S (.int _ _))
end
end Mine
end
noncomputable section
open PySem PySem.W PyProof.Rows PySem.SeqAt
set_option Elab.async false
set_option genSizeOf false
set_option genInjectivity false
set_option maxRecDepth 4000
set_option linter.unusedVariables false
namespace Mine
variable {wd : Wd}
section
variable {prog : Program} {w : World} {A : Around} {R : Result → Shared → Prop} {s : Shared}
abbrev Noted (prog : Program) (w : World) (A : Around) (env : Env) (R : Result → Shared → Prop) : Value → Shared → Prop := notedBy (model prog w) A env fun e s' => R (.error e) s'
theorem comp2_out {elt t1 i1 t2 i2 : Expr} {scope : Scope} {pos : Pos} {it acc : Value} {env : Env} (I : Nat → Shared → Prop)
    (turn : ∀ n s, I n s → wpAny (model prog w) A (pyNext it) (fun r s₁ => match r with
      | none => R (.ok .next) s₁
      | some v => wpAny (model prog w) A (assign t1 env v) (fun _ s₂ => wpAny (model prog w) A (eval i2 env) (fun x s₃ =>
          wpAny (model prog w) A (pyIter x) (fun it2 s₄ => codeAny (model prog w) A (.compStart (.ListComp elt [⟨t1, i1, [], 0⟩, ⟨t2, i2, [], 0⟩] scope pos) 1 it2 acc env) (fun r s₅ => match r with | .ok _ => ∃ m, m < n ∧ I m s₅ | .error _ => False) s₄) (Noted prog w A env R) s₃)
          (Noted prog w A env R) s₂) (Noted prog w A env R) s₁) (Noted prog w A env R) s)
    (n : Nat) (h : I n s) (ht : ∀ v, letOwnedTupleGo t1 it v = pure () := by intro _; rfl) (hf : ∀ x, foldedSetIterable i2 env x = pure x := by intro _; rfl) :
    codeAny (model prog w) A (.compLoop (.ListComp elt [⟨t1, i1, [], 0⟩, ⟨t2, i2, [], 0⟩] scope pos) 0 it acc env) R s := by
  refine codeAny_loop rfl I (fun n s hI => ?_) n h
  show wpAny _ A ((compTurn (.ListComp elt [⟨t1, i1, [], 0⟩, ⟨t2, i2, [], 0⟩] scope pos) 0 it acc env).onRaise (fun x => do noteFrame x env; theTreesLotGoes x)) _ _ s
  refine wpAny_noted ?_
  have e : compTurn (.ListComp elt [⟨t1, i1, [], 0⟩, ⟨t2, i2, [], 0⟩] scope pos) 0 it acc env = (standAt i1.pos >>= fun _ => pyNext it >>= fun r => match r with
      | none => pure (.done .next)
      | some v => letOwnedTupleGo t1 it v >>= fun _ => assign t1 env v >>= fun _ =>
        eval i2 env >>= fun x => standAt i2.pos >>= fun _ => foldedSetIterable i2 env x >>= fun x => holding [x] (pyIter x) >>= fun it2 => runOwn (.compStart (.ListComp elt [⟨t1, i1, [], 0⟩, ⟨t2, i2, [], 0⟩] scope pos) 1 it2 acc env) env >>= fun _ =>
          again (.compLoop (.ListComp elt [⟨t1, i1, [], 0⟩, ⟨t2, i2, [], 0⟩] scope pos) 0 it acc env)) := by rfl
  rw [e]
  refine wpAny_bind (wpAny_standAt (wpAny_bind (wpAny_mono (turn n s hI) (fun r s₁ h₁ => ?_) fun _ _ h' => h')))
  cases r with
  | none => exact wpAny_pure h₁
  | some v =>
    refine wpAny_bind (wpAny_of_eq (ht v) ?_)
    refine wpAny_bind (wpAny_mono h₁ (fun _ s₂ h₂ => wpAny_bind (wpAny_mono h₂ (fun x s₃ h₃ => wpAny_bind (wpAny_standAt ?_)) fun _ _ h' => h')) fun _ _ h' => h')
    refine wpAny_bind (wpAny_of_eq (hf x) ?_)
    refine wpAny_bind (wpAny_holding (wpAny_mono h₃ (fun it2 s₄ h₄ => ?_) fun _ _ h' => h'))
    refine wpAny_bind (wpAny_runOwn (codeAny_mono h₄ fun r s₅ h₅ => ?_))
    cases r with
    | ok _ => exact wpAny_pure ⟨rfl, h₅⟩
    | error _ => exact h₅.elim
theorem comp2_in {elt t1 i1 t2 i2 : Expr} {scope : Scope} {pos : Pos} {it acc : Value} {env : Env} (I : Nat → Shared → Prop)
    (turn : ∀ n s, I n s → wpAny (model prog w) A (pyNext it) (fun r s₁ => match r with
      | none => R (.ok .next) s₁
      | some v => wpAny (model prog w) A (assign t2 env v) (fun _ s₂ => wpAny (model prog w) A (eval elt env) (fun x s₃ =>
          wpAny (model prog w) A (call (.builtin "list.append") [acc, x]) (fun _ s₄ => ∃ m, m < n ∧ I m s₄) (Noted prog w A env R) s₃)
          (Noted prog w A env R) s₂) (Noted prog w A env R) s₁) (Noted prog w A env R) s)
    (n : Nat) (h : I n s) (ht : ∀ v, letOwnedTupleGo t2 it v = pure () := by intro _; rfl) :
    codeAny (model prog w) A (.compLoop (.ListComp elt [⟨t1, i1, [], 0⟩, ⟨t2, i2, [], 0⟩] scope pos) 1 it acc env) R s := by
  refine codeAny_loop rfl I (fun n s hI => ?_) n h
  show wpAny _ A ((compTurn (.ListComp elt [⟨t1, i1, [], 0⟩, ⟨t2, i2, [], 0⟩] scope pos) 1 it acc env).onRaise (fun x => do noteFrame x env; theTreesLotGoes x)) _ _ s
  refine wpAny_noted ?_
  have e : compTurn (.ListComp elt [⟨t1, i1, [], 0⟩, ⟨t2, i2, [], 0⟩] scope pos) 1 it acc env = (standAt i2.pos >>= fun _ => pyNext it >>= fun r => match r with
      | none => pure (.done .next)
      | some v => letOwnedTupleGo t2 it v >>= fun _ => assign t2 env v >>= fun _ =>
        (eval elt env >>= fun x => call (.builtin "list.append") [acc, x] >>= fun _ => pure ()) >>= fun _ =>
          again (.compLoop (.ListComp elt [⟨t1, i1, [], 0⟩, ⟨t2, i2, [], 0⟩] scope pos) 1 it acc env)) := by rfl
  rw [e]
  refine wpAny_bind (wpAny_standAt (wpAny_bind (wpAny_mono (turn n s hI) (fun r s₁ h₁ => ?_) fun _ _ h' => h')))
  cases r with
  | none => exact wpAny_pure h₁
  | some v =>
    refine wpAny_bind (wpAny_of_eq (ht v) ?_)
    exact wpAny_bind (wpAny_mono h₁ (fun _ s₂ h₂ => wpAny_bind (wpAny_bind (wpAny_mono h₂ (fun x s₃ h₃ => wpAny_bind (wpAny_mono h₃
      (fun _ s₄ h₄ => wpAny_pure (wpAny_pure ⟨rfl, h₄⟩)) fun _ _ h' => h')) fun _ _ h' => h'))) fun _ _ h' => h')
theorem comp2_start {elt t1 i1 t2 i2 : Expr} {scope : Scope} {pos : Pos} {it acc : Value} {env : Env}
    (h0 : codeAny (model prog w) A (.compLoop (.ListComp elt [⟨t1, i1, [], 0⟩, ⟨t2, i2, [], 0⟩] scope pos) 1 it acc env) R s)
    (h : wpAny (model prog w) A (pyIter it) (fun it' s' => codeAny (model prog w) A (.compLoop (.ListComp elt [⟨t1, i1, [], 0⟩, ⟨t2, i2, [], 0⟩] scope pos) 1 it' acc env) R s') (Noted prog w A env R) s) :
    codeAny (model prog w) A (.compStart (.ListComp elt [⟨t1, i1, [], 0⟩, ⟨t2, i2, [], 0⟩] scope pos) 1 it acc env) R s := by
  refine codeAny_of_tree ?_
  show wpAny _ _ ((compStart (.ListComp elt [⟨t1, i1, [], 0⟩, ⟨t2, i2, [], 0⟩] scope pos) 1 it acc env).onRaise (fun x => do noteFrame x env; standAt theWindowsPlace)) _ _ s
  refine wpAny_notedAt ?_
  unfold compStart
  show wpAny _ _ (ask >>= _) _ _ s
  refine wpAny_bind (wpAny_askSetting (wpAny_ite ?_))
  split
  · first
      | exact wpAny_bind (wpAny_pure (wpAny_pure (And.intro rfl h0)))
      | exact wpAny_pure (And.intro rfl h0)
  · refine wpAny_bind (wpAny_rule ?_)
    show wpAny _ _ (standAt i2.pos >>= _) _ _ s
    exact wpAny_bind (wpAny_standAt (wpAny_bind (wpAny_mono h (fun it' s' h' => wpAny_pure (And.intro rfl h')) fun _ _ x => x)))
end
/-- one step of a comprehension's `for` -/
theorem comp_turn {A : Around} (hA : A.handled = none) {x : Str} {px : Pos} {sc' : Scope} {ν' : Vars} {cenv : Env} {it : Addr} {src : Src} {k : Nat} {φ : List Addr} {s : Shared} {σ : List O} {E : Value → Shared → Prop}
    (hx : sc'.names.lookup x = some .local) (hok : src.ok σ) (S : SR wd.C wd.hb φ s.heap σ) (EC : EnvR wd.C wd.hb.heap φ s.heap sc' ν' cenv) (hit : Iat wd.C φ s.heap it k src) (ni : it ∉ φ) (bIt : wd.hb.heap.get? it = Option.none) (fsIt : it ∉ wd.hb.fs)
    (hk : k ≤ src.xs.length) {Qn : Shared → Prop} {Qs : Unit → Shared → Prop}
    (hend : k = src.xs.length → ∀ h', Heap.ExtBut it s.heap h' → SR wd.C wd.hb φ h' σ → EnvR wd.C wd.hb.heap φ h' sc' ν' cenv → Qn { s with heap := h' })
    (hnext : ∀ y h' tk', src.xs[k]? = some y → (∀ b o, b ≠ it → b ≠ cenv.locals → s.heap.get? b = some o → h'.get? b = some o) → SR wd.C wd.hb φ h' σ → EnvR wd.C wd.hb.heap φ h' sc' ((x, y) :: ν') cenv → Iat wd.C φ h' it (k + 1) src → Qs () { s with heap := h', toks := tk' }) :
    wpAny (model wd.prog wd.w) A (pyNext (.ref it)) (fun r s₁ => match r with | Option.none => Qn s₁ | some v => wpAny (model wd.prog wd.w) A (assign (.Name x px) cenv v) Qs E s₁) E s := by
  have nw : ¬ WE cenv it := EC.notFields hit.fields
  obtain ⟨oi, hi1, hi2⟩ := hit.not
  have hard : Hard (· = it) s.heap := fun a o e g => by subst e; rw [hi1] at g; cases g; exact hi2
  have carry : ∀ {h'}, Heap.ExtBut it s.heap h' → SR wd.C wd.hb φ h' σ ∧ EnvR wd.C wd.hb.heap φ h' sc' ν' cenv := fun he =>
    ⟨S.same (Step.iter he) hard (fun a ma o g => he a o (fun q => ni (q ▸ ma)) g) (fun b o g g2 => he b o (fun q => by rw [q, bIt] at g; cases g) g2) (fun a m o g d => ⟨o, he a o (fun q => fsIt (q ▸ m)) g, d⟩), EC.keep (Step.iter he) hard fun a w q => nw (q ▸ w)⟩
  refine iter_next hA hok S hit hk (fun hk h' he => ?_) (fun y h' tk' y' hy ry hit' hs => ?_)
  · obtain ⟨b, c⟩ := carry he
    exact hend hk h' he b c
  · obtain ⟨b, c⟩ := carry hs.extBut
    obtain ⟨mm, n, hm⟩ := c.ns
    have hk2 : cenv.scope.kind = .function := by rw [EC.isSc]; exact EC.fk
    refine wpAny_assign_Name (wpAny_storeName_local (by unfold Env.kindOf; rw [EC.isSc]; exact hx) n (fun h₄ n₄ hs₄ => ?_) (by rw [hk2]; rfl))
    dsimp only at n₄ hs₄ ⊢
    obtain ⟨st₄, E₄⟩ := c.setLocal hx n hm ry n₄ hs₄
    have S₄ := b.own c st₄ (fun a o w e => (hs₄.2 a fun q => w (.inl q)).trans e) (ns_dict n₄)
    have nw' : ¬ WE cenv it := c.notFields hit'.fields
    exact hnext y h₄ _ hy (fun b o n1 n2 e => (hs₄.2 b n2).trans (hs.extBut b o n1 e)) S₄ E₄ (hit'.step st₄ c.hard ni nw')
end Mine
end
noncomputable section
open PySem PySem.W PyProof.Rows PySem.SeqAt
set_option Elab.async false
set_option genSizeOf false
set_option genInjectivity false
set_option maxRecDepth 4000
set_option linter.unusedVariables false
namespace Mine
variable {wd : Wd}
theorem Iat.keepL {C : Cls} {φ φ' : List Addr} {h h' : Heap} {it i k : Nat} {l : List V} (x : Iat C φ h it k (.list i l)) (e : ∀ a, φ[i]? = some a → φ'[i]? = some a) (g : ∀ o, h.get? it = some o → h'.get? it = some o) : Iat C φ' h' it k (.list i l) := by
  obtain ⟨a, ea, o, h1, h2⟩ := x
  exact ⟨a, e a ea, o, g o h1, h2⟩
theorem Step.late {φ φ' : List Addr} {h h' : Heap} (x : Step noW φ h φ' h') {b : Addr} (n : h'.get? b = none) : h.get? b = none := by
  cases e : h.get? b with
  | none => rfl
  | some o => obtain ⟨o', e'⟩ := x.live b o e id; rw [n] at e'; cases e'
section
variable {d : Nat} {sc : Scope} {ν : Vars} {σ : List O} {Q : V → List O → Prop}
/-- what stands between the turns of the two `for`s -/
structure FlatI (wd : Wd) (D : Addr) (sc' : Scope) (fv : Vars) (cenv : Env) (φ₁ : List Addr) (h₁ : Heap) (σ₁ : List O) (it i k : Nat) (is : List V) (acc : List V) (φ' : List Addr) (h' : Heap) : Prop where
  hφ : φ'[σ₁.length]? = some D
  x : Step noW φ₁ h₁ φ' h'
  S : SR wd.C wd.hb φ' h' (σ₁ ++ [.list acc])
  E : EnvR wd.C wd.hb.heap φ' h' sc' fv cenv
  a : Iat wd.C φ' h' it k (.list i is)
  ni : it ∉ φ'
theorem FlatI.moved {D : Addr} {sc' : Scope} {fv ν' : Vars} {cenv : Env} {φ₁ : List Addr} {h₁ : Heap} {σ₁ : List O} {it i k it2 : Nat} {is : List V} {acc : List V} {φ' : List Addr} {h' h'' : Heap} (F : FlatI wd D sc' fv cenv φ₁ h₁ σ₁ it i k is acc φ' h')
    (n2 : h₁.get? it2 = none) (nL : h₁.get? cenv.locals = none) (ne : it ≠ it2) (kp : ∀ b o, b ≠ it2 → b ≠ cenv.locals → h'.get? b = some o → h''.get? b = some o) (S : SR wd.C wd.hb φ' h'' (σ₁ ++ [.list acc])) (EE : EnvR wd.C wd.hb.heap φ' h'' sc' ν' cenv)
    (hν : ∀ y v, fv.lookup y = some v → ν'.lookup y = some v) : FlatI wd D sc' fv cenv φ₁ h₁ σ₁ it i k is acc φ' h'' := by
  have nl : it ≠ cenv.locals := fun q => F.E.notFields F.a.fields (.inl q)
  refine ⟨F.hφ, ⟨F.x.pre, F.x.fresh, fun b o e _ => ?_, fun b o e n w => ?_⟩, S, EE.less hν, F.a.keepL (fun _ e => e) fun o e => kp it o ne nl e, F.ni⟩
  · obtain ⟨o', e'⟩ := F.x.live b o e id
    exact ⟨o', kp b o' (fun q => by rw [q, n2] at e; cases e) (fun q => by rw [q, nL] at e; cases e) e'⟩
  · have b1 : b ≠ it2 := fun q => by rw [q, n2] at e; cases e
    have b2 : b ≠ cenv.locals := fun q => by rw [q, nL] at e; cases e
    rcases F.x.keep b o e n w with e' | ⟨dd, sl, e'⟩
    · exact .inl (kp b o b1 b2 e')
    · exact .inr ⟨dd, sl, kp b _ b1 b2 e'⟩
theorem FlatI.step {D : Addr} {sc' : Scope} {fv : Vars} {cenv : Env} {φ₁ : List Addr} {h₁ : Heap} {σ₁ : List O} {it i k : Nat} {is : List V} {acc acc' : List V} {φ' φ'' : List Addr} {h' h'' : Heap} (F : FlatI wd D sc' fv cenv φ₁ h₁ σ₁ it i k is acc φ' h')
    (x : Step noW φ' h' φ'' h'') (S : SR wd.C wd.hb φ'' h'' (σ₁ ++ [.list acc'])) : FlatI wd D sc' fv cenv φ₁ h₁ σ₁ it i k is acc' φ'' h'' := by
  obtain ⟨o, _, e, _⟩ := F.a.fields
  exact ⟨x.look F.hφ, F.x.trans x, S, F.E.step x, F.a.step x hard_no F.ni id, x.off e F.ni⟩
inductive FlatJ (wd : Wd) (s : Shared) (D : Addr) (sc' : Scope) (fv : Vars) (cenv : Env) (φ₁ : List Addr) (h₁ : Heap) (σ₁ : List O) (it i k : Nat) (is : List V) (acc : List V) (it2 j : Nat) (l : List V) (m : Nat) (s' : Shared) : Prop
  | mk (k2 : Nat) (φ' : List Addr) (h' : Heap) (tk' : Nat) (hm : m + k2 = l.length) (e : s' = { s with heap := h', toks := tk' }) (F : FlatI wd D sc' fv cenv φ₁ h₁ σ₁ it i k is (acc ++ l.take k2) φ' h') (a2 : Iat wd.C φ' h' it2 k2 (.list j l)) (ni2 : it2 ∉ φ') : FlatJ wd s D sc' fv cenv φ₁ h₁ σ₁ it i k is acc it2 j l m s'
theorem flat_in {x y : Str} {px py p2 p3 pos : Pos} {iter : Expr} {scope : Scope} {A : Around} (hA : AOk wd.hb.fs d A) {s : Shared} {D : Addr} {sc' : Scope} {fv : Vars} {cenv : Env} {φ₁ φ₂ : List Addr} {h₁ h₂ : Heap} {tk₂ : Nat} {σ₁ : List O} {it i k : Nat} {is acc : List V} {it2 j : Nat} {l : List V}
    (hy : sc'.names.lookup y = some .local) (hj : σ₁[j]? = some (.list l)) (hz : acc.length + l.length ≤ 1000000) (nL : h₁.get? cenv.locals = Option.none) (n2 : h₁.get? it2 = Option.none) (b2 : wd.hb.heap.get? it2 = Option.none) (f2 : it2 ∉ wd.hb.fs) (ne : it ≠ it2)
    (fy : fv.lookup y = Option.none) (F : FlatI wd D sc' fv cenv φ₁ h₁ σ₁ it i k is acc φ₂ h₂) (a2 : Iat wd.C φ₂ h₂ it2 0 (.list j l)) (ni2 : it2 ∉ φ₂) (hd : (y == ("__debug__" : Str)) = false) (hn : (y == ("__classdict__" : Str)) = false) {R : Result → Shared → Prop}
    (hR : ∀ φ' h' tk', FlatI wd D sc' fv cenv φ₁ h₁ σ₁ it i k is (acc ++ l) φ' h' → R (.ok .next) { s with heap := h', toks := tk' }) :
    codeAny (model wd.prog wd.w) A (.compLoop (.ListComp (.Name y p3) [⟨.Name x px, iter, [], 0⟩, ⟨.Name y py, .Name x p2, [], 0⟩] scope pos) 1 (.ref it2) (.ref D) cenv) R { s with heap := h₂, toks := tk₂ } := by
  refine comp2_in (FlatJ wd s D sc' fv cenv φ₁ h₁ σ₁ it i k is acc it2 j l) ?_ l.length ⟨0, φ₂, h₂, tk₂, rfl, rfl, by rw [List.take_zero, List.append_nil]; exact F, a2, ni2⟩
  rintro m _ ⟨k2, φ', h', tk', hm, rfl, F, a2, ni2⟩
  refine comp_turn hA.hd (src := .list j l) (k := k2) (x := y) hy (by show (σ₁ ++ _)[j]? = _; rw [List.getElem?_append_left (List.getElem?_eq_some_iff.mp hj).1]; exact hj) F.S F.E a2 ni2 b2 f2 (by show k2 ≤ l.length; omega) (fun hk h'' he S' E' => ?_) (fun v h'' tk'' hv kp S' E' a2' => ?_)
  · have hk' : k2 = l.length := hk
    have := F.moved n2 nL ne (fun b o q _ e => he b o q e) S' E' fun _ _ e => e
    rw [hk', List.take_length] at this
    exact hR φ' h'' tk' this
  · have hv : l[k2]? = some v := hv
    have hk2 : k2 < l.length := (List.getElem?_eq_some_iff.mp hv).1
    have wk : ∀ z u, fv.lookup z = some u → List.lookup z ((y, v) :: fv) = some u := fun z u e => by
      rw [List.lookup_cons]
      cases q : z == y with
      | false => exact e
      | true => rw [eq_of_beq q, fy] at e; cases e
    have F' := F.moved n2 nL ne kp S' E' wk
    refine PV.name (d := d) (Q := fun u σ' => u = v ∧ σ' = σ₁ ++ [O.list (acc ++ l.take k2)]) (by rw [List.lookup_cons, beq_self_eq_true]) ⟨rfl, rfl⟩ hd hn A cenv φ' _ hA E' S' _ _ fun u σ₃ φ₃ h₃ tk₃ u' hq x₃ S₃ r₃ => ?_
    obtain ⟨rfl, rfl⟩ := hq
    have F3 := F'.step x₃ S₃
    have ac : (σ₁ ++ [O.list (acc ++ l.take k2)])[σ₁.length]? = some (.list (acc ++ l.take k2)) := by simp
    refine CallR.append (wd := wd) (d := d) (Q := fun u' σ' => u' = V.none ∧ σ' = (σ₁ ++ [O.list (acc ++ l.take k2)]).set σ₁.length (.list (acc ++ l.take k2 ++ [u]))) ac (by rw [List.length_append, List.length_take]; omega) ⟨rfl, rfl⟩ A φ₃ { s with heap := h₃, toks := tk₃ } [.ref D, u'] hA S₃ (.cons (.ref F3.hφ) (.cons r₃ .nil)) _ _ fun u4 σ₄ φ₄ h₄ tk₄ u4' hq x₄ S₄ r₄ => ?_
    obtain ⟨rfl, rfl⟩ := hq
    have es : (σ₁ ++ [O.list (acc ++ l.take k2)]).set σ₁.length (.list (acc ++ l.take k2 ++ [u])) = σ₁ ++ [O.list (acc ++ l.take (k2 + 1))] := by
      rw [List.set_append_right _ _ (Nat.le_refl _), Nat.sub_self, List.take_add_one, hv, List.append_assoc]; rfl
    rw [es] at S₄
    obtain ⟨o3, _, e3, _⟩ := a2'.fields
    have a3 := a2'.step x₃ hard_no ni2 id
    have n3 := x₃.off e3 ni2
    obtain ⟨o4, _, e4, _⟩ := a3.fields
    exact ⟨m - 1, by omega, k2 + 1, φ₄, h₄, tk₄, by omega, rfl, F3.step x₄ S₄, a3.step x₄ hard_no n3 id, x₄.off e4 n3⟩
/-- what a double `for` needs of its iterable -/
inductive FlatP (Q : V → List O → Prop) (v : V) (σ₁ : List O) : Prop
  | mk (i : Nat) (is : List Nat) (ls : List (List V)) (hv : v = .ref i) (hi : σ₁[i]? = some (.list (is.map .ref))) (hn : is.length = ls.length) (hl : ∀ (k j : Nat) (l : List V), is[k]? = some j → ls[k]? = some l → σ₁[j]? = some (O.list l)) (hz : ls.flatten.length ≤ 1000000) (hq : Q (.ref σ₁.length) (σ₁ ++ [.list ls.flatten])) : FlatP Q v σ₁
inductive FlatO (wd : Wd) (s : Shared) (D : Addr) (sc' : Scope) (fv : Vars) (cenv : Env) (φ₁ : List Addr) (h₁ : Heap) (σ₁ : List O) (it i : Nat) (is : List V) (ls : List (List V)) (m : Nat) (s' : Shared) : Prop
  | mk (k : Nat) (φ' : List Addr) (h' : Heap) (tk' : Nat) (hm : m + k = is.length) (e : s' = { s with heap := h', toks := tk' }) (F : FlatI wd D sc' fv cenv φ₁ h₁ σ₁ it i k is (ls.take k).flatten φ' h') : FlatO wd s D sc' fv cenv φ₁ h₁ σ₁ it i is ls m s'
theorem flatten_take_len {α : Type} (ls : List (List α)) (k : Nat) (l : List α) (h : ls[k]? = some l) : (ls.take k).flatten.length + l.length ≤ ls.flatten.length := by
  have e : ls.take (k + 1) = ls.take k ++ [l] := by rw [List.take_add_one, h]; rfl
  have := congrArg List.flatten (List.take_append_drop (k + 1) ls)
  rw [← this, List.flatten_append, List.length_append, e, List.flatten_append, List.length_append]
  simp
theorem flat_out {x y : Str} {px py p2 p3 pos : Pos} {iter : Expr} {scope : Scope} {A : Around} (hA : AOk wd.hb.fs d A) {s : Shared} {D : Addr} {sc' : Scope} {fv : Vars} {cenv : Env} {φ₁ φ₂ : List Addr} {h₁ h₂ : Heap} {tk₂ : Nat} {σ₁ : List O} {it i : Nat} {is : List Nat} {ls : List (List V)}
    (hx : sc'.names.lookup x = some .local) (hy : sc'.names.lookup y = some .local) (hi : σ₁[i]? = some (.list (is.map .ref))) (hn : is.length = ls.length) (hl : ∀ (k j : Nat) (l : List V), is[k]? = some j → ls[k]? = some l → σ₁[j]? = some (O.list l)) (hz : ls.flatten.length ≤ 1000000)
    (nL : h₁.get? cenv.locals = Option.none) (n1 : h₁.get? it = Option.none) (b1 : wd.hb.heap.get? it = Option.none) (f1 : it ∉ wd.hb.fs) (bl : ∀ b, h₁.get? b = Option.none → wd.hb.heap.get? b = Option.none) (fl : ∀ b, h₁.get? b = Option.none → b ∉ wd.hb.fs)
    (fx : fv.lookup x = Option.none) (fy : fv.lookup y = Option.none) (F : FlatI wd D sc' fv cenv φ₁ h₁ σ₁ it i 0 (is.map .ref) [] φ₂ h₂) (hdx : (x == ("__debug__" : Str)) = false) (hnx : (x == ("__classdict__" : Str)) = false) (hd : (y == ("__debug__" : Str)) = false) (hn' : (y == ("__classdict__" : Str)) = false) (hxy : (y == x) = false) {R : Result → Shared → Prop}
    (hf : ∀ env v, foldedSetIterable (.Name x p2) env v = pure v)
    (hR : ∀ φ' h' tk', φ'[σ₁.length]? = some D → Step noW φ₁ h₁ φ' h' → SR wd.C wd.hb φ' h' (σ₁ ++ [.list ls.flatten]) → EnvR wd.C wd.hb.heap φ' h' sc' fv cenv → R (.ok .next) { s with heap := h', toks := tk' }) :
    codeAny (model wd.prog wd.w) A (.compLoop (.ListComp (.Name y p3) [⟨.Name x px, iter, [], 0⟩, ⟨.Name y py, .Name x p2, [], 0⟩] scope pos) 0 (.ref it) (.ref D) cenv) R { s with heap := h₂, toks := tk₂ } := by
  refine comp2_out (FlatO wd s D sc' fv cenv φ₁ h₁ σ₁ it i (is.map .ref) ls) ?_ is.length ⟨0, φ₂, h₂, tk₂, by rw [List.length_map]; omega, rfl, F⟩ (hf := hf cenv)
  rintro m _ ⟨k, φ', h', tk', hm, rfl, F⟩
  rw [List.length_map] at hm
  have hlen : (Src.xs (.list i (is.map V.ref))).length = is.length := by show (is.map V.ref).length = _; rw [List.length_map]
  have hi' : ∀ t : List V, (σ₁ ++ [O.list t])[i]? = some (.list (is.map .ref)) := fun t => by rw [List.getElem?_append_left (List.getElem?_eq_some_iff.mp hi).1]; exact hi
  refine comp_turn hA.hd (src := .list i (is.map .ref)) (k := k) (x := x) hx (hi' _) F.S F.E F.a F.ni b1 f1 (by rw [hlen]; omega) (fun hk h'' he S' E' => ?_) (fun v h'' tk'' hv kp S' E' a' => ?_)
  · rw [hlen] at hk
    subst hk
    rw [hn, List.take_length] at F S'
    exact hR φ' h'' tk' F.hφ (F.x.ext n1 he) S' E'
  · have hv : (is.map V.ref)[k]? = some v := hv
    rw [List.getElem?_map] at hv
    obtain ⟨j, hj, rfl⟩ := Option.map_eq_some_iff.mp hv
    have hk : k < is.length := (List.getElem?_eq_some_iff.mp hj).1
    obtain ⟨l, hlk⟩ : ∃ l, ls[k]? = some l := ⟨ls[k]'(by omega), List.getElem?_eq_getElem _⟩
    have hjl := hl k j l hj hlk
    have hzz := flatten_take_len ls k l hlk
    have hj' : ∀ t : List V, (σ₁ ++ [O.list t])[j]? = some (.list l) := fun t => by rw [List.getElem?_append_left (List.getElem?_eq_some_iff.mp hjl).1]; exact hjl
    have wk : ∀ z u, fv.lookup z = some u → List.lookup z ((x, V.ref j) :: fv) = some u := fun z u e => by
      rw [List.lookup_cons]
      cases q : z == x with
      | false => exact e
      | true => rw [eq_of_beq q, fx] at e; cases e
    have nl : it ≠ cenv.locals := fun q => F.E.notFields F.a.fields (.inl q)
    have xx : Step noW φ₁ h₁ φ' h'' := by
      refine ⟨F.x.pre, F.x.fresh, fun b o e _ => ?_, fun b o e n w => ?_⟩
      · obtain ⟨o', e'⟩ := F.x.live b o e id
        exact ⟨o', kp b o' (fun q => by rw [q, n1] at e; cases e) (fun q => by rw [q, nL] at e; cases e) e'⟩
      · have b1 : b ≠ it := fun q => by rw [q, n1] at e; cases e
        have b2 : b ≠ cenv.locals := fun q => by rw [q, nL] at e; cases e
        rcases F.x.keep b o e n w with e' | ⟨dd, sl, e'⟩
        · exact .inl (kp b o b1 b2 e')
        · exact .inr ⟨dd, sl, kp b _ b1 b2 e'⟩
    have F' : FlatI wd D sc' fv cenv φ₁ h₁ σ₁ it i (k + 1) (is.map .ref) (ls.take k).flatten φ' h'' := ⟨F.hφ, xx, S', E'.less wk, a', F.ni⟩
    refine PV.name (d := d) (Q := fun u σ' => u = .ref j ∧ σ' = σ₁ ++ [O.list (ls.take k).flatten]) (by rw [List.lookup_cons, beq_self_eq_true]) ⟨rfl, rfl⟩ hdx hnx A cenv φ' _ hA E' S' _ _ fun u σ₃ φ₃ h₃ tk₃ u' hq x₃ S₃ r₃ => ?_
    obtain ⟨rfl, rfl⟩ := hq
    have F3 := F'.step x₃ S₃
    refine iter_open (src := .list j l) rfl (hj' _) S₃ r₃ fun ob hit => ?_
    dsimp only at hit ⊢
    have n2' : h₃.get? h₃.objs.size = Option.none := get_size_none _
    have n2 := F3.x.late n2'
    have F4 := F3.step (Step.pushed ob) (S₃.pushed ob)
    have ne : it ≠ h₃.objs.size := fun q => by
      obtain ⟨o, _, e, _⟩ := F3.a.fields
      rw [q, n2'] at e; cases e
    have ni2 : h₃.objs.size ∉ φ₃ := VR.fresh S₃
    have loop := flat_in (x := x) (px := px) (py := py) (p2 := p2) (p3 := p3) (pos := pos) (iter := iter) (scope := scope) (s := s) (tk₂ := tk₃) hA hy hjl (by omega) nL n2 (bl _ n2) (fl _ n2) ne fy F4 hit ni2 hd hn' (R := fun r s₅ => match r with | .ok _ => ∃ m', m' < m ∧ FlatO wd s D sc' fv cenv φ₁ h₁ σ₁ it i (is.map .ref) ls m' s₅ | .error _ => False) (fun φ5 h5 tk5 F5 => by
      refine ⟨m - 1, by omega, k + 1, φ5, h5, tk5, by rw [List.length_map]; omega, rfl, ?_⟩
      rw [List.take_add_one, hlk, List.flatten_append]
      simpa using F5)
    exact comp2_start loop (iter_self hit loop)
theorem flat_core {x y : Str} {px py p2 p3 pos : Pos} {iter : Expr} {scope : Scope} (K : CompSc scope sc x) (hy : scope.names.lookup y = some .local) {A : Around} (hA : AOk wd.hb.fs d A) {env : Env} {φ₁ : List Addr} {s : Shared} {h₁ : Heap} {tk : Nat} {σ₁ : List O} {v : V} {v' : Value} {E : Value → Shared → Prop}
    (E₁ : EnvR wd.C wd.hb.heap φ₁ h₁ sc ν env) (S : SR wd.C wd.hb φ₁ h₁ σ₁) (r : VR wd.C φ₁ h₁ v v') (hq : FlatP Q v σ₁)
    (hd : (x == ("__debug__" : Str)) = false) (hn : (x == ("__classdict__" : Str)) = false) (hd' : (y == ("__debug__" : Str)) = false) (hn' : (y == ("__classdict__" : Str)) = false) (hxy : (y == x) = false) (hf2 : ∀ env v, foldedSetIterable (.Name x p2) env v = pure v) {RR : Value → Addr → Result → Shared → Prop}
    (hRR : ∀ (D L : Addr) (σ' : List O) (b : V) φ' h' tk', Q b σ' → VR wd.C φ' h' b (.ref D) → h₁.get? L = Option.none → wd.hb.heap.get? L = Option.none → L ∉ wd.hb.fs → Step noW φ₁ h₁ φ' h' → SR wd.C wd.hb φ' h' σ' → (∃ m, h'.Ns L m) → L ∉ φ' → RR (.ref D) L (.ok .next) { s with heap := h', toks := tk' }) :
    wpAny (model wd.prog wd.w) A (pyIter v') (fun it s₂ => wpAny (model wd.prog wd.w) A (newList []) (fun acc s₃ => wpAny (model wd.prog wd.w) A (newFunctionEnv scope env.globals (clo env.cells scope.names []) [] env.qual none .none (some env)) (fun cenv s₄ =>
      codeAny (model wd.prog wd.w) A (.compStart (.ListComp (.Name y p3) [⟨.Name x px, iter, [], 0⟩, ⟨.Name y py, .Name x p2, [], 0⟩] scope pos) 0 it acc { cenv with scope := relab scope sc }) (RR acc cenv.locals) s₄) E s₃) E s₂) E { s with heap := h₁, toks := tk } := by
  obtain ⟨i, is, ls, rfl, hi, hlen, hl, hz, hq⟩ := hq
  refine iter_open (src := .list i (is.map .ref)) rfl hi S r fun ob hit => ?_
  dsimp only at hit ⊢
  refine wpAny_newObj_type (wpAny_newFunctionEnv K.ncell (by intro y hy; simp at hy) (fun h₃ hns hsb => ?_) K.kind)
  dsimp only at hns hsb ⊢
  obtain ⟨x2, S2, r2⟩ := (S.pushed ob).push (listObj [] 0) (.list []) rfl ⟨[], 0, rfl, .nil⟩
  have stp := Step.pushed (φ := φ₁) (h := h₁) ob
  have fIt : h₁.get? h₁.objs.size = none := get_size_none _
  have fL : ((h₁.push ob).push (listObj [] 0)).get? ((h₁.push ob).push (listObj [] 0)).objs.size = none := get_size_none _
  have nL := VR.fresh S2
  have keep3 : ∀ b o, ((h₁.push ob).push (listObj [] 0)).get? b = some o → h₃.get? b = some o := fun b o e => (hsb.2 b (fun q => by rw [q] at e; exact absurd (e.symm.trans fL) (by simp))).trans (Heap.get?_push_of_some _ e)
  have hD : (φ₁ ++ [(h₁.push ob).objs.size])[σ₁.length]? = some (h₁.push ob).objs.size := by rw [← S.len]; simp
  have st3 := (stp.trans x2).trans (Step.kept' keep3)
  have S3 := S2.kept keep3
  have f1L : h₁.get? ((h₁.push ob).push (listObj [] 0)).objs.size = none := by
    cases q : h₁.get? ((h₁.push ob).push (listObj [] 0)).objs.size with
    | none => rfl
    | some o => exact absurd ((Heap.get?_push_of_some (listObj [] 0) (Heap.get?_push_of_some ob q)).symm.trans fL) (by simp)
  have bOf : ∀ c, h₁.get? c = none → wd.hb.heap.get? c = none := fun c hc => by
    cases q : wd.hb.heap.get? c with
    | none => rfl
    | some o => have := S.base c o q; rw [hc] at this; cases this
  have fsOf : ∀ c, h₁.get? c = none → c ∉ wd.hb.fs := fun c hc m => by obtain ⟨_, _, o, e, _⟩ := S.fr c m; rw [hc] at e; cases e
  have nIt1 : h₁.objs.size ∉ φ₁ := VR.fresh S
  have nIt : h₁.objs.size ∉ φ₁ ++ [(h₁.push ob).objs.size] := fun m => by
    rcases List.mem_append.mp m with m | m
    · exact nIt1 m
    · rw [List.mem_singleton, Heap.size_push] at m
      exact absurd m (Nat.ne_of_lt (Nat.lt_succ_self _))
  have hit3 := (hit.step x2 hard_no nIt1 id).step (Step.kept' keep3) hard_no nIt id
  have EC := E₁.comp K (L := ((h₁.push ob).push (listObj [] 0)).objs.size) (env' := { newEnv scope ((h₁.push ob).push (listObj [] 0)).objs.size env.globals (clo env.cells scope.names []) env.qual none .none (some env) builtinsNs with scope := relab scope sc }) st3 rfl rfl (by rfl) rfl rfl f1L nL (bOf _ f1L) hns
  have loc : ∀ z, scope.names.lookup z = some .local → (relab scope sc).names.lookup z = some .local := fun z hz => by
    show List.lookup z (List.map _ scope.names) = _
    rw [relab_lookup, hz]; rfl
  have no : ∀ z, scope.names.lookup z = some .local → (freeVars scope ν).lookup z = none := fun z hz => by
    unfold freeVars
    rw [lookup_filter (fun z => scope.names.lookup z == some .free), hz]; rfl
  have loop := fun (cenv : Env) (hcL : cenv.locals = ((h₁.push ob).push (listObj [] 0)).objs.size) (EC : EnvR wd.C wd.hb.heap (φ₁ ++ [(h₁.push ob).objs.size]) h₃ (relab scope sc) (freeVars scope ν) cenv) => flat_out (x := x) (y := y) (px := px) (py := py) (p2 := p2) (p3 := p3) (pos := pos) (iter := iter) (scope := scope) (A := A) hA (s := s) (tk₂ := tk) (D := (h₁.push ob).objs.size) (sc' := relab scope sc) (fv := freeVars scope ν) (cenv := cenv) (φ₁ := φ₁) (h₁ := h₁) (σ₁ := σ₁) (it := h₁.objs.size)
    (loc x K.target) (loc y hy) hi hlen hl hz (by rw [hcL]; exact f1L) fIt (bOf _ fIt) (fsOf _ fIt) bOf fsOf (no x K.target) (no y hy) ⟨hD, st3, S3, EC, hit3, nIt⟩ hd hn hd' hn' hxy hf2
    (R := RR (.ref (h₁.push ob).objs.size) ((h₁.push ob).push (listObj [] 0)).objs.size) (fun φ' h' tk' hφ xx b c => by
      obtain ⟨mm, n, _⟩ := c.ns
      rw [hcL] at n
      exact hRR _ _ _ _ φ' h' tk' hq (.ref hφ) f1L (bOf _ f1L) (fsOf _ f1L) xx b ⟨mm, n⟩ (by rw [← hcL]; exact c.Lφ))
  exact codeAny_compStart_list (loop _ rfl EC) (iter_self hit3 (loop _ rfl EC))
theorem ns_hard {h : Heap} {L : Addr} {m : Str → Option Value} (n : h.Ns L m) : Hard (· = L) h := fun a o e g => by
  subst e
  obtain ⟨o', h1, h2⟩ := ns_get n
  rw [h1] at g; cases g; exact h2
theorem Step.butL {φ : List Addr} {h h' : Heap} {L : Addr} (hs : Heap.SameBut L h h') : Step (· = L) φ h φ h' := ⟨List.prefix_refl _, fun _ q => .inl q, fun b o g w => ⟨o, (hs.2 b w).trans g⟩, fun b o g _ w => .inl ((hs.2 b w).trans g)⟩
/-- `[y for x in xs for y in x]`, xs a list of lists -/
theorem PV.flat {x y : Str} {px py p2 p3 pos : Pos} {iter : Expr} {scope : Scope} (K : CompSc scope sc x) (hy : scope.names.lookup y = some .local)
    (h : PV wd d sc ν σ (eval iter) (FlatP Q))
    (hd : (x == ("__debug__" : Str)) = false := by decide) (hn : (x == ("__classdict__" : Str)) = false := by decide) (hd' : (y == ("__debug__" : Str)) = false := by decide) (hn' : (y == ("__classdict__" : Str)) = false := by decide) (hxy : (y == x) = false := by decide)
    (hf : ∀ env x, foldedSetIterable iter env x = pure x := by intro _ _; rfl) (hf2 : ∀ env v, foldedSetIterable (.Name x p2) env v = pure v := by intro _ _; rfl) :
    PV wd d sc ν σ (eval (.ListComp (.Name y p3) [⟨.Name x px, iter, [], 0⟩, ⟨.Name y py, .Name x p2, [], 0⟩] scope pos)) Q := by
  intro A env φ s hA hE hS R E hR
  rw [eval_ListComp]
  have hcl := closure_is (scope := scope) (env := env) fun y hy hf => hE.has _ (K.free y hy hf)
  have hrel : relabel scope env = relab scope sc := by unfold relabel relab; rw [← hE.isSc]; rfl
  refine wpAny_comprehension_free (use := none) rfl (hf env) hcl K.kind K.locals (h A env φ s hA hE hS _ _ fun v σ₁ φ₁ h₁ tk v' hq xst S r => ?_)
  rw [hrel]
  refine flat_core K hy hA (s := s) (tk := tk) (hE.step xst) S r hq hd hn hd' hn' hxy hf2 fun D L σ' b φ' h' tk' hq rb f1L bL fsL xx S' n fL' => ?_
  obtain ⟨mm, n⟩ := n
  refine ⟨mm, n, fun h'' hs'' => ?_⟩
  exact hR _ _ φ' h'' tk' _ hq (xst.trans (xx.ext f1L hs''.extBut)) (S'.same (Step.butL hs'') (ns_hard n) (fun a ma o g => (hs''.2 a fun q => fL' (q ▸ ma)).trans g) (fun b o g g2 => (hs''.2 b fun q => by rw [q, bL] at g; cases g).trans g2) (fun a m o g d => ⟨o, (hs''.2 a fun q => fsL (q ▸ m)).trans g, d⟩)) (rb.step (Step.butL hs'') (ns_hard n))
end
end Mine
end
noncomputable section
open PySem PySem.W PyProof.Rows PySem.SeqAt PySem.Calls
set_option Elab.async false
set_option genSizeOf false
set_option genInjectivity false
set_option maxRecDepth 100000
set_option linter.unusedVariables false
namespace Mine
variable {wd : Wd}
structure EntryQ (K : Frag) (C : Addr) : Prop where
  eq : ∀ (M : Model) (h : Heap), K.In h → Looks M h (typeLookup (.ref C) "__eq__") (some (.builtin "tuple.__eq__"))
abbrev rowObj (C dx : Addr) (vs : List Value) (n : Nat) : Obj := { cls := .ref C, dict := some dx, data := .seq vs.toArray n }
theorem row_eqAt {C f : Addr} {KK : Frag} (K : EntryK KK C f) (KQ : EntryQ KK C) {p q dx dy : Addr} {vs ws : List Value} {n m : Nat} {e : Nat → Bool} {A : Around} {s : Shared} (X : KK.In s.heap) (g1 : s.heap.get? p = some (rowObj C dx vs n)) (g2 : s.heap.get? q = some (rowObj C dy ws m)) (hu : A.units + 10 < cLine)
    (hlen : vs.length = ws.length) (he : ∀ j (h1 : j < vs.toArray.size) (h2 : j < ws.toArray.size), EqAt A.in1 s vs.toArray[j] ws.toArray[j] (e j)) : RcAt A s (.ref p) (.ref q) ((List.range vs.length).all e) := by
  intro prog w E Q hQ
  obtain ⟨hh, g, dd, t, os⟩ := s
  dsimp only at *
  have t1 : Looks (model prog w) hh (typeOf (.ref p)) (.ref C) := (Looks.ld g1).andThen .now
  have t2 : Looks (model prog w) hh (typeOf (.ref q)) (.ref C) := (Looks.ld g2).andThen .now
  have i1 : Looks (model prog w) hh (isInstance (.ref p) (.type "tuple")) true := t1.andThen (K.sub _ _ X)
  have i2 : Looks (model prog w) hh (isInstance (.ref q) (.type "tuple")) true := t2.andThen (K.sub _ _ X)
  have Lb : ∀ v, Looks (model prog w) hh (bindSpecial (.builtin "tuple.__eq__") v) (.builtin "tuple.__eq__", [v]) := fun v => .of_pure (by kernel_rfl)
  have hsz : (vs.toArray.toList.zip ws.toArray.toList).length = vs.length := by simp [hlen]
  have body : ∀ (R : Value → Shared → Prop) (E : Value → Shared → Prop), R (.bool ((List.range vs.length).all e)) ⟨hh, g, dd, t, os⟩ → wpAny (model prog w) A (call (.builtin "tuple.__eq__") [.ref p, .ref q]) R E ⟨hh, g, dd, t, os⟩ := by
    intro R E hR
    refine wpAny_call (codeAny_call_builtin PySem.F.slot_tuple_eq.plain PySem.F.entry_tuple_eq ?_)
    refine @check_slot (model prog w) _ _ ⟨hh, g, dd, t, os⟩ "tuple.__eq__" "tuple" "__eq__" (.ref p) [.ref q] [] _ (by decide +kernel) (by decide +kernel) i1 (PySem.F.args_tuple_eq_2 _ _) ?_
    unfold Builtin.«tuple.__eq__»
    repeat lk
    show wpAny _ _ (forIn (vs.zip ws) ((none : Option Fin), ()) fun x (_ : Option Fin × Unit) => (do let r ← eqBool x.1 x.2; if (!r) = true then (do let v ← ret (.bool false); pure (ForInStep.done (some v, ()))) else pure (ForInStep.yield (none, ())) : Sem (ForInStep (Option Fin × Unit)))) _ _ _
    refine wpAny_forIn_list _ (fun rest b s' => b = (none, ()) ∧ s' = ⟨hh, g, dd, t, os⟩ ∧ ∃ i, i ≤ vs.length ∧ rest = (vs.zip ws).drop i ∧ (List.range i).all e = true) _ ?_ ?_ _ _ ⟨rfl, rfl, 0, Nat.zero_le _, rfl, rfl⟩
    · rintro ⟨y, x⟩ rest b s' ⟨rfl, rfl, i, hi, hz, ha⟩
      have hlt : i < (vs.zip ws).length := by
        rcases Nat.lt_or_ge i (vs.zip ws).length with h' | h'
        · exact h'
        · rw [List.drop_of_length_le h'] at hz; cases hz
      rw [List.drop_eq_getElem_cons hlt] at hz
      injection hz with hyx hrest
      have h1 : i < vs.length := by simp at hlt; omega
      have h2 : i < ws.length := by omega
      have ey : y = vs[i] := by have := congrArg Prod.fst hyx; simpa using this
      have ex : x = ws[i] := by have := congrArg Prod.snd hyx; simpa using this
      subst ey ex
      refine wpAny_bind (he i (by simpa using h1) (by simpa using h2) prog w _ _ ?_)
      cases hy : e i with
      | true =>
        refine wpAny_pure ⟨rfl, rfl, i + 1, h1, hrest, ?_⟩
        rw [List.range_succ, List.all_append, ha]; simp [hy]
      | false =>
        have hf : (List.range vs.length).all e = false := by
          rw [List.all_eq_false]
          exact ⟨i, List.mem_range.mpr h1, by simp [hy]⟩
        rw [hf] at hR
        exact wpAny_bind (wpAny_pure (wpAny_pure (wpAny_pure hR)))
    · rintro b s' ⟨rfl, rfl, i, hi, hz, ha⟩
      have hge : i = vs.length := by
        rcases Nat.lt_or_ge i (vs.zip ws).length with h' | h'
        · rw [List.drop_eq_getElem_cons h'] at hz; cases hz
        · simp at h'; omega
      subst hge
      rw [ha] at hR
      have hc : Builtin.Tuple.tupleCompareSizes CmpOp.Eq vs.toArray.size ws.toArray.size = .bool true := by
        unfold Builtin.Tuple.tupleCompareSizes; simp [hlen]
      show wpAny _ _ (ret (Builtin.Tuple.tupleCompareSizes CmpOp.Eq vs.toArray.size ws.toArray.size)) _ _ _
      rw [hc]
      exact wpAny_pure hR
  have one : wpAny (model prog w) A (tryCompare (.ref p) (cmpInfo .Eq).2.1 (.ref q)) (fun r s' => ∃ v, r = some v ∧ Q v s') E ⟨hh, g, dd, t, os⟩ := by
    unfold tryCompare
    simp only [callSpecialIfBound?, bindSpecialIfBound?]
    refine wpAny_bind (wpAny_holding (wpAny_bind (wpAny_bind (wpAny_bind (t1.here ((KQ.eq _ _ X).here ?_))))))
    refine wpAny_bind (wpAny_askSetting (wpAny_ite ?_))
    have fin : wpAny (model prog w) A (call (.builtin "tuple.__eq__") ([Value.ref p] ++ [Value.ref q]) >>= fun v => pure (some v)) (fun r s' => wpAny (model prog w) A (match r with
      | some Value.notImplemented => pure none
      | none => pure none
      | some v => pure (some v)) (fun r s' => ∃ v, r = some v ∧ Q v s') E s') E ⟨hh, g, dd, t, os⟩ := wpAny_bind (body _ _ (wpAny_pure (wpAny_pure ⟨_, rfl, hQ⟩)))
    split
    · exact wpAny_bind ((Lb _).here (wpAny_pure (by exact fin)))
    · exact wpAny_tryCatch (wpAny_bind ((Lb _).here (wpAny_pure (by exact fin))))
  unfold richCompare
  simp only [oneThing_ref]
  refine wpAny_holding (wpAny_bind (wpAny_cRoomFor (by omega) ?_))
  refine wpAny_bind (t1.here (wpAny_bind (t2.here ?_)))
  rw [if_neg (by simp)]
  refine wpAny_bind (wpAny_pure ?_)
  rw [if_neg (by simp)]
  refine wpAny_bind (wpAny_mono one (fun r s' h => ?_) fun _ _ x => x)
  obtain ⟨v, rfl, h⟩ := h
  exact wpAny_pure h
end Mine
end
noncomputable section
open PySem PySem.W PyProof.Rows PySem.SeqAt PySem.Calls
set_option Elab.async false
set_option genSizeOf false
set_option genInjectivity false
set_option maxRecDepth 100000
set_option linter.unusedVariables false
namespace Mine
variable {wd : Wd}
section
variable {prog : Program} {w : World} {A : Around} {E : Value → Shared → Prop} {C f : Addr} {KK : Frag}
end
section
variable {d : Nat} {σ : List O} {Q : V → List O → Prop} {f : Addr}
theorem CallR.isEntry (B : Bd wd) (hi : isIn wd.K (.ref wd.C.EC) wd.C.EC = true) {l : List V} {i : Nat} (hq : Q (.bool true) σ) : CallR wd d (.builtin "isinstance") [.row l i, .ecls] σ Q := by
  intro A φ s vs hA hS rs R E hR
  obtain ⟨_, _, rfl, r, rs⟩ := rs.cons_inv; obtain ⟨_, _, rfl, r2, rs⟩ := rs.cons_inv; obtain rfl := rs.nil_inv; obtain rfl := r2.ecls_inv; obtain ⟨a, dx, ws, n, rfl, e, off, ed, rq⟩ := r.row_inv
  have X := B.X.keeps hS.base
  exact isi_call X (fun M => (Looks.ld e).andThen .now) hi (by intro h; cases h) (hR _ σ φ s.heap s.toks _ hq .refl hS (.bool true))
end
end Mine
end
noncomputable section
open PySem PySem.W PyProof.Rows PySem.SeqAt PySem.Calls
set_option Elab.async false
set_option genSizeOf false
set_option genInjectivity false
set_option maxRecDepth 4000
set_option linter.unusedVariables false
namespace Mine
variable {wd : Wd}
/-- two rows compared -/
inductive EqW : V → V → Bool → Prop
  | row {l m : List V} {i j : Nat} {x : Bool} (h : EqSs l m x) : EqW (.row l i) (.row m j) x
/-- two lists of rows compared -/
inductive EqRL : List V → List V → Bool → Prop
  | len {l m : List V} (h : l.length ≠ m.length) : EqRL l m false
  | all {l m : List V} (e : Nat → Bool) (h : l.length = m.length) (he : ∀ k a b, l[k]? = some a → m[k]? = some b → EqW a b (e k)) : EqRL l m ((List.range l.length).all e)
section
variable {C : Cls} {φ : List Addr} {s : Shared} {A : Around} {f : Addr} {KK : Frag}
theorem EqW.sound (K : EntryK KK C.EC f) (KQ : EntryQ KK C.EC) (X : KK.In s.heap) {a b : V} {x : Bool} {a' b' : Value} (h : EqW a b x) (hu : A.units + 20 < cLine) (ra : VR C φ s.heap a a') (rb : VR C φ s.heap b b') : EqAt A s a' b' x := by
  cases h with
  | @row l m i j x h =>
    obtain ⟨p, dx, vs, n, rfl, e1, o1, ed1, r1⟩ := ra.row_inv
    obtain ⟨q, dy, ws, k, rfl, e2, o2, ed2, r2⟩ := rb.row_inv
    obtain ⟨hl, e, he, hx⟩ := h.get
    have hvw : vs.length = ws.length := by rw [← r1.length, ← r2.length, hl]
    by_cases hpq : p = q
    · subst hpq
      rw [e1] at e2
      have hvw : vs = ws := by
        have := congrArg Obj.data (Option.some.inj e2)
        injection this with h1 _
        exact congrArg Array.toList h1
      subst hvw
      have hall : x = true := by
        rw [← hx, List.all_eq_true]
        intro j hj
        have hj' : j < l.length := List.mem_range.mp hj
        have hj2 : j < m.length := by omega
        have k1 : l[j]? = some (l[j]'hj') := List.getElem?_eq_getElem hj'
        have k2 : m[j]? = some (m[j]'hj2) := List.getElem?_eq_getElem hj2
        have k3 := he j _ _ k1 k2
        obtain ⟨v1, h1, h2⟩ := r1.get k1
        obtain ⟨v2, h3, h4⟩ := r2.get k2
        rw [h1] at h3; cases h3
        exact k3.self h2 h4
      rw [hall]; exact .same _
    · refine .of_refs hpq ?_
      have := row_eqAt (A := A) (s := s) (e := e) K KQ X e1 e2 (by omega) hvw fun j h1 h2 => by
        obtain ⟨u, hu1, hu2⟩ := r1.at h1
        obtain ⟨w, hw1, hw2⟩ := r2.at h2
        exact ((he j u w hu1 hw1).sound hu2 hw2).1
      rw [← r1.length, hx] at this
      exact this
theorem EqRL.sound (K : EntryK KK C.EC f) (KQ : EntryQ KK C.EC) (X : KK.In s.heap) {l m : List V} {x : Bool} {a b : Addr} {vs ws : List Value} (h : EqRL l m x) (hu : A.units + 30 < cLine) (ha : s.heap.IsList a vs.toArray) (hb : s.heap.IsList b ws.toArray) (r1 : VRs C φ s.heap l vs) (r2 : VRs C φ s.heap m ws) :
    RcAt A s (.ref a) (.ref b) x ∧ RcNeAt A s (.ref a) (.ref b) (!x) := by
  cases h with
  | len h =>
    have hsz : (vs.toArray.size != ws.toArray.size) = true := by rw [List.size_toArray, List.size_toArray, ← r1.length, ← r2.length]; simpa using h
    exact ⟨.lists_lengths ha hb hsz (by omega), .lists_lengths ha hb hsz (by omega)⟩
  | all e hl he =>
    have hsz : vs.toArray.size = ws.toArray.size := by rw [List.size_toArray, List.size_toArray, ← r1.length, ← r2.length, hl]
    have hh : ∀ j (h1 : j < vs.toArray.size) (h2 : j < ws.toArray.size), EqAt A.in1 s vs.toArray[j] ws.toArray[j] (e j) := fun j h1 h2 => by
      obtain ⟨u, hu1, hu2⟩ := r1.at h1
      obtain ⟨w, hw1, hw2⟩ := r2.at h2
      exact (he j u w hu1 hw1).sound K KQ X (by show A.units + 1 + 20 < _; omega) hu2 hw2
    have h1 := RcAt.lists ha hb hsz (by omega) hh
    have h2 := RcNeAt.lists ha hb hsz (by omega) hh
    rw [List.size_toArray, ← r1.length] at h1 h2
    exact ⟨h1, h2⟩
end
section
variable {d : Nat} {sc : Scope} {ν : Vars} {σ : List O} {T : Bool → List O → Prop} {f : Addr}
/-- two lists of rows of the store, compared in a test -/
theorem PB.cmpRows (B : Bd wd) (K : EntryK wd.K wd.C.EC f) (KQ : EntryQ wd.K wd.C.EC) {l r : Expr} {op : CmpOp} {p : Pos} {t : Env → Sem Value} (hop : op = .Eq ∨ op = .NotEq)
    (h : PV wd d sc ν σ (eval l) fun a σ₁ => PV wd d sc ν σ₁ (eval r) fun b σ₂ => ∃ i j ls ms x, a = .ref i ∧ b = .ref j ∧ σ₂[i]? = some (.list ls) ∧ σ₂[j]? = some (.list ms) ∧ EqRL ls ms x ∧ T (if op = .Eq then x else !x) σ₂)
    (hm : behindInMarks op r = false := by with_unfolding_all rfl) : PB wd d sc ν σ (fun env => isTrue (.Compare l [op] [r] p) env (t env)) T := by
  intro A env φ s hA hE hS R E hR
  refine wpAny_isTrue_Compare1 (PV.two h hA hE hS fun a b σ' φ' h' tk a' b' hq x S ra rb => ?_) hm
  obtain ⟨i, j, ls, ms, y, rfl, rfl, hi, hj, he, hq⟩ := hq
  obtain ⟨_, rfl, ea⟩ := ra.ref_inv; obtain ⟨_, rfl, eb⟩ := rb.ref_inv
  obtain ⟨vs, n, g1, r1⟩ := S.listAt ea hi
  obtain ⟨ws, m, g2, r2⟩ := S.listAt eb hj
  have X := B.X.keeps S.base
  have hu : A.units + 1000 < cLine := by have := hA.un; omega
  have both := he.sound (A := A) (s := { s with heap := h', toks := tk }) K KQ X (by omega) ⟨_, g1, rfl, _, rfl⟩ ⟨_, g2, rfl, _, rfl⟩ r1 r2
  rcases hop with rfl | rfl
  · exact both.1 wd.prog wd.w E _ (wpAny_truthy_bool (hR _ σ' φ' h' tk _ hq x S rfl))
  · exact both.2 wd.prog wd.w E _ (wpAny_truthy_bool (hR _ σ' φ' h' tk _ hq x S rfl))
end
end Mine
end
noncomputable section
open PySem PySem.W PyProof.Rows PySem.SeqAt PySem.Calls
set_option Elab.async false
set_option genSizeOf false
set_option genInjectivity false
set_option maxRecDepth 4000
set_option linter.unusedVariables false
namespace Mine
variable {wd : Wd}
/-- the row that a law reckons -/
def dueV (q : Int × Int × Int × Int) : V := .tup [.int (2 * q.1), .int (2 * (q.1 + q.2.1)), .int (2 * q.2.2.1), .int (q.2.2.2 / 2), .bool (q.2.2.2 % 2 == 1)]
theorem chunk_len : ∀ (l : List Int), (chunk l).length = l.length / 4
  | [] => rfl
  | [_] => by show 0 = 1 / 4; omega
  | [_, _] => by show 0 = 2 / 4; omega
  | [_, _, _] => by show 0 = 3 / 4; omega
  | a :: b :: c :: d :: r => by
    show (chunk r).length + 1 = (r.length + 4) / 4
    rw [chunk_len r]; omega
theorem chunk_take : ∀ (l : List Int) (n : Nat), chunk (l.take n) = (chunk l).take (n / 4)
  | [], n => by rw [List.take_nil]; exact List.take_nil.symm
  | [a], n => by
    match n with
    | 0 => rfl
    | n + 1 => rw [List.take_of_length_le (by simp)]; exact List.take_nil.symm
  | [a, b], n => by
    match n with
    | 0 => rfl
    | 1 => rfl
    | n + 2 => rw [List.take_of_length_le (by simp)]; exact List.take_nil.symm
  | [a, b, c], n => by
    match n with
    | 0 => rfl
    | 1 => rfl
    | 2 => rfl
    | n + 3 => rw [List.take_of_length_le (by simp)]; exact List.take_nil.symm
  | a :: b :: c :: d :: r, n => by
    match n with
    | 0 => rfl
    | 1 => rfl
    | 2 => rfl
    | 3 => rfl
    | n + 4 =>
      show (a, b, c, d) :: chunk (r.take n) = ((a, b, c, d) :: chunk r).take ((n + 4) / 4)
      rw [chunk_take r n, show (n + 4) / 4 = n / 4 + 1 by omega, List.take_succ_cons]
theorem nums_len : ∀ (xs : List Int) (v : Int), (nums v xs).length ≤ xs.length
  | [], _ => Nat.le_refl _
  | b :: xs, v => by
    rw [nums_step]
    split
    · have := nums_len xs (v * 64 + b % 64); rw [List.length_cons]; omega
    · have := nums_len xs 0; rw [List.length_cons, List.length_cons]; omega
theorem due_row (q : Int × Int × Int × Int) : V.tup (rowV q) = dueV q := by
  unfold rowV dueV
  have e1 : (Builtin.bitAnd q.2.2.2 1 != 0) = (q.2.2.2 % 2 == 1) := by
    rw [and1]
    by_cases c : q.2.2.2 % 2 = 1
    · rw [c]; rfl
    · rw [show q.2.2.2 % 2 = 0 by omega]; rfl
  rw [e1, show q.1 * 2 = 2 * q.1 by omega, show 2 * q.1 + q.2.1 * 2 = 2 * (q.1 + q.2.1) by omega, show q.2.2.1 * 2 = 2 * q.2.2.1 by omega, Int.fdiv_eq_ediv_of_nonneg _ (by decide)]
  rfl
theorem rangeN0 (n : Nat) : rangeN 0 (n : Int) 1 = n := by rw [rangeN_one, Int.sub_zero]; rfl
end Mine
end
noncomputable section
open PySem PySem.W PyProof.Rows PySem.SeqAt PySem.Calls
set_option Elab.async false
set_option genSizeOf false
set_option genInjectivity false
set_option maxRecDepth 100000
set_option linter.unusedVariables false
namespace Mine
section
variable {prog : Program} {w : World} {A : Around} {E : Value → Shared → Prop} {s : Shared} {Q : Value → Shared → Prop}
end
variable {wd : Wd}
section
variable {d : Nat} {sc : Scope} {ν : Vars} {σ : List O}
end
end Mine
end
noncomputable section
open PySem PySem.W PyProof.Rows PySem.SeqAt PySem.Calls
set_option Elab.async false
set_option genSizeOf false
set_option genInjectivity false
set_option maxRecDepth 100000
set_option linter.unusedVariables false
namespace Mine
variable {wd : Wd}
section
variable {d : Nat} {sc : Scope} {ν : Vars} {σ : List O}
end
end Mine
end
noncomputable section
open PySem PySem.W PyProof.Rows PySem.SeqAt PySem.Calls
set_option Elab.async false
set_option genSizeOf false
set_option genInjectivity false
set_option maxRecDepth 100000
set_option linter.unusedVariables false
namespace Mine
variable {wd : Wd}
section
variable {d : Nat} {σ : List O} {Q : V → List O → Prop} {QE : String → List O → Prop}
end
end Mine
end
noncomputable section
open PySem PySem.W PyProof.Rows PySem.SeqAt PySem.Calls
set_option Elab.async false
set_option genSizeOf false
set_option genInjectivity false
set_option maxRecDepth 100000
set_option linter.unusedVariables false
namespace Mine
section
variable {prog : Program} {w : World} {A : Around} {E : Value → Shared → Prop} {s : Shared} {Q : Value → Shared → Prop}
end
variable {wd : Wd}
section
variable {d : Nat} {sc : Scope} {ν : Vars} {σ : List O}
end
end Mine
end
noncomputable section
open PySem PySem.W PyProof.Rows PySem.SeqAt PySem.Calls
set_option Elab.async false
set_option genSizeOf false
set_option genInjectivity false
set_option maxRecDepth 100000
set_option linter.unusedVariables false
namespace Mine
variable {wd : Wd} {d : Nat} {sc : Scope} {ν : Vars} {σ : List O} {Q : V → List O → Prop}
/-- a number and a truth value added -/
theorem PV.addB {l r : Expr} {p : Pos} (h : PV wd d sc ν σ (eval l) fun a σ₁ => PV wd d sc ν σ₁ (eval r) fun b σ₂ => ∃ i c, a = .int i ∧ b = .bool c ∧ Q (.int (i + if c then 1 else 0)) σ₂) :
    PV wd d sc ν σ (eval (.BinOp l .Add r p)) Q := by
  intro A env φ s hA hE hS R E hR
  refine wpAny_BinOp (PV.two h hA hE hS fun a b σ' φ' h' tk a' b' hq x S ra rb => ?_)
  obtain ⟨i, c, rfl, rfl, hq⟩ := hq
  obtain ⟨_, rfl⟩ := ra.int_inv
  obtain rfl := rb.bool_inv
  exact add_int_bool (hR _ σ' φ' h' _ _ hq x S (.int _ _))
end Mine
end
noncomputable section
open PySem PySem.W PyProof.Rows
set_option Elab.async false
set_option genSizeOf false
set_option genInjectivity false
set_option linter.unusedVariables false
namespace Mine
/-- law 03: the numbers, item by item -/
def cont (b : Int) : Bool := decide (64 ≤ b % 128)
def Rep (p : List Int) (v : Int) : Prop := (∃ n, p.map cont = List.replicate n true ++ [false]) ∧ fold6 0 p = v
theorem fold6_cons (v b : Int) (l : List Int) : fold6 v (b :: l) = fold6 (v * 64 + b % 64) l := rfl
theorem nums_go : ∀ (n : Nat) (p : List Int) (a : Int) (r : List Int), p.map cont = List.replicate n true ++ [false] → nums a (p ++ r) = fold6 a p :: nums 0 r
  | 0, p, a, r, h => by
    match p, h with
    | [b], h =>
      have hb : ¬ 64 ≤ b % 128 := by simpa [cont] using h
      show nums a (b :: r) = _
      rw [nums_step, if_neg hb]; rfl
    | [], h => simp at h
    | _ :: _ :: _, h => simp at h
  | n + 1, p, a, r, h => by
    match p, h with
    | [], h => simp at h
    | b :: q, h =>
      rw [List.map_cons, List.replicate_succ, List.cons_append] at h
      injection h with h1 h2
      have hb : 64 ≤ b % 128 := by simpa [cont] using h1
      show nums a (b :: (q ++ r)) = _
      rw [nums_step, if_pos hb, nums_go n q _ r h2]; rfl
theorem nums_cut : ∀ (p : List Int) (a : Int), (∀ b ∈ p, cont b = true) → nums a p = []
  | [], _, _ => rfl
  | b :: p, a, h => by
    have hb : 64 ≤ b % 128 := by simpa [cont] using h b (List.mem_cons_self ..)
    rw [nums_step, if_pos hb]
    exact nums_cut p _ fun c hc => h c (List.mem_cons_of_mem _ hc)
theorem Rep.ne {p : List Int} {v : Int} (h : Rep p v) : p ≠ [] := by
  rintro rfl
  obtain ⟨⟨n, e⟩, _⟩ := h
  simp at e
/-- a list of numbers, each item by item -/
inductive Reps : List (List Int) → List Int → Prop
  | nil : Reps [] []
  | cons {p : List Int} {v : Int} {ps : List (List Int)} {vs : List Int} (h : Rep p v) (r : Reps ps vs) : Reps (p :: ps) (v :: vs)
theorem Reps.nums {ps : List (List Int)} {vs : List Int} (h : Reps ps vs) : nums 0 ps.flatten = vs := by
  induction h with
  | nil => rfl
  | cons a r ih =>
    obtain ⟨⟨n, e⟩, hv⟩ := a
    rw [List.flatten_cons, nums_go n _ 0 _ e, ih, hv]
theorem Rep.front {p : List Int} {v : Int} (h : Rep p v) : ∀ b ∈ p.dropLast, cont b = true := by
  obtain ⟨⟨n, e⟩, _⟩ := h
  have : p.dropLast.map cont = List.replicate n true := by
    rw [List.map_dropLast, e, List.dropLast_concat]
  intro b hb
  have : cont b ∈ List.replicate n true := this ▸ List.mem_map_of_mem hb
  exact List.eq_of_mem_replicate this
theorem Reps.flat_ne {ps : List (List Int)} {vs : List Int} (h : Reps ps vs) (hn : vs ≠ []) : ps.flatten ≠ [] := by
  cases h with
  | nil => exact absurd rfl hn
  | cons a r => rw [List.flatten_cons]; exact fun e => a.ne (List.append_eq_nil_iff.mp e).1
theorem Reps.nums_cut {ps : List (List Int)} {vs : List Int} (h : Reps ps vs) : Mine.nums 0 ps.flatten.dropLast = vs.dropLast := by
  induction h with
  | nil => rfl
  | @cons p v ps vs a r ih =>
    cases r with
    | nil =>
      rw [List.flatten_cons, List.flatten_nil, List.append_nil]
      exact Mine.nums_cut _ _ a.front
    | @cons p' v' ps' vs' a' r' =>
      have hne : (p' :: ps').flatten ≠ [] := (Reps.cons a' r').flat_ne (by simp)
      obtain ⟨⟨n, e⟩, hv⟩ := a
      rw [List.flatten_cons, List.dropLast_append_of_ne_nil hne, nums_go n _ 0 _ e, ih, hv]; rfl
theorem fold6_one : ∀ (l : List Int) (a : Int), 1 ≤ a → 1 ≤ fold6 a l
  | [], _, h => h
  | b :: l, a, h => fold6_one l (a * 64 + b % 64) (by omega)
/-- a digit behind; the last digit off -/
theorem last_cont {ds : List Int} {b : Int} {n : Nat} (e : (ds ++ [b]).map cont = List.replicate n true ++ [false]) : ds.map cont = List.replicate n true ∧ ¬ 64 ≤ b % 128 := by
  rw [List.map_append, List.map_cons, List.map_nil] at e
  obtain ⟨h1, h2⟩ := List.append_inj' e rfl
  refine ⟨h1, ?_⟩
  injection h2 with h3 _
  simpa [cont] using h3
end Mine
end
noncomputable section
open PySem PySem.W PyProof.Rows
set_option Elab.async false
set_option genSizeOf false
set_option genInjectivity false
set_option linter.unusedVariables false
namespace Mine
/-- law 05: the octets that are needed -/
abbrev Row4 := Int × Int × Int × Int
def four (r : Row4) : List Int := [r.1, r.2.1, r.2.2.1, r.2.2.2]
theorem nil_snoc {α : Type} (l : List α) : l = [] ∨ ∃ m b, l = m ++ [b] := by
  by_cases h : l = []
  · exact .inl h
  · exact .inr ⟨l.dropLast, l.getLast h, (List.dropLast_concat_getLast h).symm⟩
theorem pw64 (i : Nat) : ∀ (n : Nat), 0 < (64 : Int) ^ i ∧ (64 : Int) ^ i ≤ 64 ^ (i + n)
  | 0 => ⟨Int.pow_pos (by decide), Int.le_refl _⟩
  | n + 1 => by
    have h := pw64 i n
    have e : (64 : Int) ^ (i + (n + 1)) = 64 ^ (i + n) * 64 := by rw [← Nat.add_assoc, Int.pow_succ]
    exact ⟨h.1, by omega⟩
theorem chunk_flat : ∀ (l : List Int), (chunk l).flatMap four = l.take (l.length / 4 * 4)
  | [] => rfl
  | [a] => by rw [show ([a] : List Int).length / 4 * 4 = 0 by simp]; rfl
  | [a, b] => by rw [show ([a, b] : List Int).length / 4 * 4 = 0 by simp]; rfl
  | [a, b, c] => by rw [show ([a, b, c] : List Int).length / 4 * 4 = 0 by simp]; rfl
  | a :: b :: c :: d :: r => by
    show a :: b :: c :: d :: (chunk r).flatMap four = _
    rw [chunk_flat r, show (a :: b :: c :: d :: r).length / 4 * 4 = r.length / 4 * 4 + 1 + 1 + 1 + 1 by simp only [List.length_cons]; omega]
    rfl
/-- the digits ahead of a number's last one: no nought in front -/
structure Front (q : List Int) (u : Int) : Prop where
  c : ∀ z ∈ q, 64 ≤ z ∧ z < 128
  h : q.head? ≠ some 64
  v : fold6 0 q = u
theorem Front.zero {q : List Int} (f : Front q 0) : q = [] := by
  cases q with
  | nil => rfl
  | cons z r =>
    exfalso
    have h1 := f.c z (List.mem_cons_self ..)
    have h2 : z ≠ 64 := fun e => f.h (by rw [e]; rfl)
    have h3 := f.v
    rw [fold6_cons] at h3
    have := fold6_one r (0 * 64 + z % 64) (by omega)
    omega
theorem Front.init {q : List Int} {z u : Int} (f : Front (q ++ [z]) u) : Front q (u / 64) ∧ z = 64 + u % 64 ∧ u ≠ 0 := by
  have h1 := f.c z (List.mem_append_right _ (List.mem_singleton.mpr rfl))
  have h3 := f.v
  rw [fold6_snoc] at h3
  refine ⟨⟨fun y m => f.c y (List.mem_append_left _ m), fun e => f.h ?_, by omega⟩, by omega, fun e => ?_⟩
  · cases q with
    | nil => cases e
    | cons y r => exact e
  · subst e
    have := f.zero
    simp at this
theorem Front.uniq : ∀ (n : Nat) (q q' : List Int) (u : Int), q.length = n → Front q u → Front q' u → q = q'
  | 0, q, q', u, hn, f, g => by
    obtain rfl := List.length_eq_zero_iff.mp hn
    have : u = 0 := f.v.symm
    subst this
    exact g.zero.symm
  | n + 1, q, q', u, hn, f, g => by
    rcases nil_snoc q with rfl | ⟨r, z, rfl⟩
    · simp at hn
    obtain ⟨f1, f2, f3⟩ := f.init
    rcases nil_snoc q' with rfl | ⟨r', z', rfl⟩
    · exact absurd g.v.symm f3
    obtain ⟨g1, g2, g3⟩ := g.init
    rw [Front.uniq n r r' (u / 64) (by simpa using hn) f1 g1, f2, g2]
/-- a number's fewest digits -/
inductive Can : List Int → Int → Prop
  | mk {q : List Int} {u b : Int} (f : Front q u) (h0 : 0 ≤ b) (h1 : b < 64) : Can (q ++ [b]) (u * 64 + b)
theorem Can.uniq {p p' : List Int} {v v' : Int} (h : Can p v) (h' : Can p' v') (e : v = v') : p = p' := by
  cases h with
  | @mk q u b f h0 h1 =>
    cases h' with
    | @mk q' u' b' f' h0' h1' =>
      have e1 : u = u' := by omega
      have e2 : b = b' := by omega
      subst e1; subst e2
      rw [Front.uniq _ q q' u rfl f f']
inductive Cans : List (List Int) → List Int → Prop
  | nil : Cans [] []
  | cons {p : List Int} {v : Int} {ps : List (List Int)} {vs : List Int} (h : Can p v) (r : Cans ps vs) : Cans (p :: ps) (v :: vs)
theorem Cans.uniq {ps : List (List Int)} {vs : List Int} (h : Cans ps vs) : ∀ {ps' : List (List Int)}, Cans ps' vs → ps = ps' := by
  induction h with
  | nil => intro ps' g; cases g; rfl
  | cons a r ih =>
    intro ps' g
    cases g with
    | cons a' r' => rw [a.uniq a' rfl, ih r']
theorem Cans.app {ps ps' : List (List Int)} {vs vs' : List Int} (h : Cans ps vs) (h' : Cans ps' vs') : Cans (ps ++ ps') (vs ++ vs') := by
  induction h with
  | nil => exact h'
  | cons a r ih => exact .cons a ih
theorem Cans.take {ps : List (List Int)} {vs : List Int} (h : Cans ps vs) : ∀ (n : Nat), Cans (ps.take n) (vs.take n) := by
  induction h with
  | nil => intro n; rw [List.take_nil, List.take_nil]; exact .nil
  | cons a r ih =>
    intro n
    cases n with
    | zero => exact .nil
    | succ n => exact .cons a (ih n)
theorem Cans.length {ps : List (List Int)} {vs : List Int} (h : Cans ps vs) : ps.length = vs.length := by
  induction h with
  | nil => rfl
  | cons _ _ ih => rw [List.length_cons, List.length_cons, ih]
/-- an octet more -/
theorem Front.on {q : List Int} {u b : Int} (f : Front q u) (hb : 64 ≤ b % 128) (hn : b % 64 ≠ 0 ∨ q ≠ []) : Front (q ++ [b % 128]) (u * 64 + b % 64) := by
  refine ⟨fun z m => ?_, fun e => ?_, by rw [fold6_snoc, f.v]; omega⟩
  · rcases List.mem_append.mp m with m | m
    · exact f.c z m
    · rw [List.mem_singleton.mp m]; omega
  · cases q with
    | nil =>
      have e1 : b % 128 = 64 := by injection e
      rcases hn with hn | hn
      · omega
      · exact hn rfl
    | cons y r => exact f.h e
theorem Front.last {q : List Int} {u b : Int} (f : Front q u) (hb : b % 128 < 64) : Can (q ++ [b % 128]) (u * 64 + b % 64) := by
  rw [show b % 128 = b % 64 by omega]
  exact .mk f (by omega) (by omega)
theorem Front.skip {q : List Int} {u b : Int} (f : Front q u) (hb : b % 64 = 0) (hq : q = []) : Front q (u * 64 + b % 64) := by
  subst hq
  have : u = 0 := f.v.symm
  subst this
  rw [hb]; exact ⟨fun _ m => (by cases m), (by simp), rfl⟩
/-- any octets: whole numbers and a rest -/
theorem split_nums : ∀ (n : Nat) (l : List Int), l.length ≤ n → ∃ ps tail, l = ps.flatten ++ tail ∧ Reps ps (nums 0 l) ∧ (∀ b ∈ tail, cont b = true)
  | 0, l, h => by
    obtain rfl := List.length_eq_zero_iff.mp (Nat.le_zero.mp h)
    exact ⟨[], [], rfl, .nil, fun _ m => by cases m⟩
  | n + 1, l, h => by
    by_cases c : ∀ b ∈ l, cont b = true
    · exact ⟨[], l, rfl, by rw [nums_cut l 0 c]; exact .nil, c⟩
    · have : ∃ a b r, l = a ++ b :: r ∧ (∀ z ∈ a, cont z = true) ∧ cont b = false := by
        clear h
        induction l with
        | nil => exact absurd (fun _ m => by cases m) c
        | cons z l ih =>
          by_cases hz : cont z = true
          · obtain ⟨a, b, r, h1, h2, h3⟩ := ih fun q => c fun y m => by
              rcases List.mem_cons.mp m with rfl | m
              · exact hz
              · exact q y m
            exact ⟨z :: a, b, r, by rw [h1]; rfl, fun y m => by
              rcases List.mem_cons.mp m with rfl | m
              · exact hz
              · exact h2 y m, h3⟩
          · exact ⟨[], z, l, rfl, fun _ m => (by cases m), by simpa using hz⟩
      obtain ⟨a, b, r, rfl, ha, hb⟩ := this
      have hm : (a ++ [b]).map cont = List.replicate a.length true ++ [false] := by
        rw [List.map_append, List.map_singleton, hb, List.eq_replicate_iff.mpr ⟨List.length_map .., fun x m => by
          obtain ⟨z, mz, rfl⟩ := List.mem_map.mp m
          exact ha z mz⟩]
      obtain ⟨ps, tail, h1, h2, h3⟩ := split_nums n r (by simp at h; omega)
      refine ⟨(a ++ [b]) :: ps, tail, ?_, ?_, h3⟩
      · rw [List.flatten_cons, List.append_assoc, ← h1]; simp
      · rw [show a ++ b :: r = (a ++ [b]) ++ r by simp, nums_go a.length (a ++ [b]) 0 r hm]
        exact .cons ⟨⟨_, hm⟩, rfl⟩ h2
theorem Reps.nums_app {ps : List (List Int)} {vs : List Int} (h : Reps ps vs) (r : List Int) : Mine.nums 0 (ps.flatten ++ r) = vs ++ Mine.nums 0 r := by
  induction h with
  | nil => rfl
  | cons a q ih =>
    obtain ⟨⟨n, e⟩, hv⟩ := a
    rw [List.flatten_cons, List.append_assoc, nums_go n _ 0 _ e, ih, hv]; rfl
theorem Rep.drop0 {b v : Int} {p : List Int} (h : Rep (b :: p) v) (hb : b % 128 = 64) : Rep p v := by
  obtain ⟨⟨n, e⟩, hv⟩ := h
  rw [List.map_cons, show cont b = true by unfold cont; exact decide_eq_true (by omega)] at e
  cases n with
  | zero => simp at e
  | succ n =>
    rw [List.replicate_succ, List.cons_append] at e
    injection e with _ e
    refine ⟨⟨n, e⟩, ?_⟩
    rw [fold6_cons, show (0 : Int) * 64 + b % 64 = 0 by omega] at hv
    exact hv
theorem Reps.mid {a c : List (List Int)} {p p' : List Int} {vs : List Int} (h : Reps (a ++ p :: c) vs) (hp : ∀ v, Rep p v → Rep p' v) : Reps (a ++ p' :: c) vs := by
  induction a generalizing vs with
  | nil =>
    cases h with
    | cons x r => exact .cons (hp _ x) r
  | cons y a ih =>
    cases h with
    | cons x r => exact .cons x (ih r)
/-- where no octet can be left out, there is nothing but whole rows, and no nought in front -/
theorem least_of {l : List Int} {R : List Row4} (hR : chunk (nums 0 l) = R) (hmin : ∀ k < l.length, chunk (nums 0 (l.eraseIdx k)) ≠ R) :
    ∃ ps, l = ps.flatten ∧ Reps ps (R.flatMap four) ∧ ∀ b p, b :: p ∈ ps → b % 128 ≠ 64 := by
  obtain ⟨ps, tail, h1, h2, h3⟩ := split_nums l.length l (Nat.le_refl _)
  have hlast : l ≠ [] → chunk (nums 0 l.dropLast) ≠ R := fun hl => by
    have := hmin (l.length - 1) (by have := List.length_pos_iff.mpr hl; omega)
    rwa [List.eraseIdx_length_sub_one] at this
  have ht : tail = [] := by
    apply Classical.byContradiction
    intro ht
    have hl : l ≠ [] := by rw [h1]; simp [ht]
    apply hlast hl
    rw [h1, List.dropLast_append_of_ne_nil ht, h2.nums_app, nums_cut _ _ fun b m => h3 b (List.dropLast_subset _ m), List.append_nil]
    exact hR
  subst ht
  rw [List.append_nil] at h1
  have h4 : (nums 0 l).length % 4 = 0 := by
    apply Classical.byContradiction
    intro hc
    have hl : l ≠ [] := by rintro rfl; exact hc rfl
    apply hlast hl
    have : nums 0 l.dropLast = (nums 0 l).dropLast := by
      have := h2.nums_cut
      rwa [← h1] at this
    rw [this, List.dropLast_eq_take, chunk_take, hR]
    rw [List.take_of_length_le]
    rw [← hR, chunk_len]
    omega
  refine ⟨ps, h1, ?_, ?_⟩
  · rw [← hR, chunk_flat, List.take_of_length_le (by omega)]; exact h2
  · intro b p hm hb
    obtain ⟨a, c, rfl⟩ := List.append_of_mem hm
    apply hmin a.flatten.length (by rw [h1]; simp)
    have : l.eraseIdx a.flatten.length = (a ++ p :: c).flatten := by
      rw [h1, List.flatten_append, List.flatten_cons, List.eraseIdx_append_of_length_le (Nat.le_refl _), Nat.sub_self, List.flatten_append, List.flatten_cons]
      rfl
    rw [this, (h2.mid fun v r => r.drop0 hb).nums]
    exact hR
theorem Rep.can {p : List Int} {v : Int} (h : Rep p v) (hn : ∀ b r, p = b :: r → b % 128 ≠ 64) : Can (p.map (· % 128)) v := by
  rcases nil_snoc p with rfl | ⟨q, b, rfl⟩
  · exact absurd rfl h.ne
  obtain ⟨⟨n, e⟩, hv⟩ := h
  obtain ⟨h1, h2⟩ := last_cont e
  have hq : ∀ z ∈ q, cont z = true := fun z m => List.eq_of_mem_replicate (h1 ▸ List.mem_map_of_mem m)
  have hf : ∀ (q : List Int) (a : Int), fold6 a (q.map (· % 128)) = fold6 a q := by
    intro q
    induction q with
    | nil => intro a; rfl
    | cons z q ih => intro a; rw [List.map_cons, fold6_cons, fold6_cons, show z % 128 % 64 = z % 64 by omega, ih]
  have F : Front (q.map (· % 128)) (fold6 0 q) := ⟨fun z m => by
    obtain ⟨y, my, rfl⟩ := List.mem_map.mp m
    have := hq y my
    unfold cont at this
    have := of_decide_eq_true this
    omega, fun e => by
    cases q with
    | nil => cases e
    | cons y r =>
      have e1 : y % 128 = 64 := by injection e
      exact hn y (r ++ [b]) rfl e1, hf q 0⟩
  rw [fold6_snoc] at hv
  have := F.last (b := b) (by omega)
  rw [hv] at this
  rw [List.map_append]
  exact this
theorem Reps.cans {ps : List (List Int)} {vs : List Int} (h : Reps ps vs) (hn : ∀ b p, b :: p ∈ ps → b % 128 ≠ 64) : Cans (ps.map fun p => p.map (· % 128)) vs := by
  induction h with
  | nil => exact .nil
  | cons a r ih => exact .cons (a.can fun b r e => hn b r (e ▸ List.mem_cons_self ..)) (ih fun b p m => hn b p (List.mem_cons_of_mem _ m))
/-- the numbers are small -/
theorem nums_bd : ∀ (l : List Int) (u : Int) (k : Nat), 0 ≤ u → u < 64 ^ k → ∀ v ∈ nums u l, 0 ≤ v ∧ v < 64 ^ (k + l.length)
  | [], u, k, _, _, v, m => by cases m
  | b :: l, u, k, h0, h1, v, m => by
    have h2 : u * 64 + b % 64 < 64 ^ (k + 1) := by rw [Int.pow_succ]; omega
    have up : ∀ (i : Nat) (x : Int), x < 64 ^ i → x < 64 ^ (i + l.length) := fun i x h => by
      have := (pw64 i l.length).2
      omega
    rw [nums_step] at m
    split at m
    · have := nums_bd l (u * 64 + b % 64) (k + 1) (by omega) h2 v m
      rwa [show k + 1 + l.length = k + (b :: l).length by rw [List.length_cons]; omega] at this
    · rcases List.mem_cons.mp m with rfl | m
      · have := up _ _ h2
        rw [show k + 1 + l.length = k + (b :: l).length by rw [List.length_cons]; omega] at this
        exact ⟨by omega, this⟩
      · have := nums_bd l 0 0 (by decide) (by decide) v m
        refine ⟨this.1, ?_⟩
        have h3 := (pw64 (0 + l.length) (k + 1)).2
        rw [show 0 + l.length + (k + 1) = k + (b :: l).length by rw [List.length_cons]; omega] at h3
        omega
/-- rows compared -/
theorem rowV_eq (q : Row4) : rowV q = [.int (2 * q.1), .int (2 * (q.1 + q.2.1)), .int (2 * q.2.2.1), .int (q.2.2.2 / 2), .bool (q.2.2.2 % 2 == 1)] := by
  have := due_row q
  unfold dueV at this
  injection this
theorem row_eqs (q p : Row4) : EqSs (rowV q) (rowV p) (decide (q = p)) := by
  rw [rowV_eq, rowV_eq]
  have h := EqSs.cons (.int (2 * q.1) (2 * p.1)) (.cons (.int (2 * (q.1 + q.2.1)) (2 * (p.1 + p.2.1))) (.cons (.int (2 * q.2.2.1) (2 * p.2.2.1)) (.cons (.int (q.2.2.2 / 2) (p.2.2.2 / 2)) (.cons (.bool (q.2.2.2 % 2 == 1) (p.2.2.2 % 2 == 1)) .nil))))
  have e : ((2 * q.1 == 2 * p.1) && ((2 * (q.1 + q.2.1) == 2 * (p.1 + p.2.1)) && ((2 * q.2.2.1 == 2 * p.2.2.1) && ((q.2.2.2 / 2 == p.2.2.2 / 2) && (((q.2.2.2 % 2 == 1) == (p.2.2.2 % 2 == 1)) && true))))) = decide (q = p) := by
    obtain ⟨q1, q2, q3, q4⟩ := q
    obtain ⟨p1, p2, p3, p4⟩ := p
    dsimp only
    rw [Bool.eq_iff_iff]
    simp only [Bool.and_eq_true, beq_iff_eq, decide_eq_true_eq, Prod.mk.injEq, Bool.and_true]
    have hb : ((q4 % 2 == 1) = (p4 % 2 == 1)) ↔ q4 % 2 = p4 % 2 := by
      constructor
      · intro h
        by_cases c : q4 % 2 = 1
        · rw [c, beq_self_eq_true] at h
          have := beq_iff_eq.mp h.symm
          omega
        · rw [beq_false_of_ne c] at h
          have : ¬ p4 % 2 = 1 := fun e => by rw [e, beq_self_eq_true] at h; cases h
          omega
      · intro h; rw [h]
    rw [hb]
    constructor
    · rintro ⟨a, b, c, d, e⟩; exact ⟨by omega, by omega, by omega, by omega⟩
    · rintro ⟨a, b, c, d⟩; exact ⟨by omega, by omega, by omega, by omega, by omega⟩
  rw [← e]; exact h
theorem rows_eq {qs ps : List Row4} {is js : List Nat} (h1 : is.length = qs.length) (h2 : js.length = ps.length) : EqRL (rowsV qs is) (rowsV ps js) (decide (qs = ps)) := by
  by_cases c : qs.length = ps.length
  · have h := EqRL.all (l := rowsV qs is) (m := rowsV ps js) (fun k => decide (qs[k]? = ps[k]?)) (by rw [rowsV_len h1, rowsV_len h2, c]) fun k a b ha hb => by
      have hk : k < qs.length := by rw [← rowsV_len h1]; exact (List.getElem?_eq_some_iff.mp ha).1
      rw [rowsV_get (List.getElem?_eq_getElem hk) (List.getElem?_eq_getElem (by omega : k < is.length))] at ha
      rw [rowsV_get (List.getElem?_eq_getElem (by omega : k < ps.length)) (List.getElem?_eq_getElem (by omega : k < js.length))] at hb
      cases ha; cases hb
      have := row_eqs qs[k] (ps[k]'(by omega))
      have e : decide (qs[k]? = ps[k]?) = decide (qs[k] = ps[k]'(by omega)) := by
        rw [List.getElem?_eq_getElem hk, List.getElem?_eq_getElem (by omega : k < ps.length)]
        simp
      rw [e]
      exact .row this
    have e : ((List.range (rowsV qs is).length).all fun k => decide (qs[k]? = ps[k]?)) = decide (qs = ps) := by
      rw [rowsV_len h1, Bool.eq_iff_iff, List.all_eq_true, decide_eq_true_eq]
      constructor
      · intro h
        apply List.ext_getElem?
        intro k
        by_cases hk : k < qs.length
        · exact of_decide_eq_true (h k (List.mem_range.mpr hk))
        · rw [List.getElem?_eq_none_iff.mpr (by omega), List.getElem?_eq_none_iff.mpr (by omega)]
      · rintro rfl k _
        exact decide_eq_true rfl
    rwa [e] at h
  · rw [decide_eq_false fun e => c (by rw [e])]
    exact .len (by rw [rowsV_len h1, rowsV_len h2]; exact c)
end Mine
end
noncomputable section
open PySem PySem.W PyProof.Rows
set_option Elab.async false
set_option maxRecDepth 100000
set_option maxHeartbeats 4000000
set_option linter.unusedVariables false
namespace Mine

noncomputable def pw : Program := PySem.Challenge.pw_io0064_05
noncomputable def bd : List Stmt := pw.main.body
noncomputable def st (i : Nat) : Stmt := bd.getD i (.Pass ⟨0, 0, 0, 0⟩)
noncomputable def sc (i j : Nat) : Stmt := match st i with | .ClassDef _ _ _ b .. => b.getD j (.Pass ⟨0, 0, 0, 0⟩) | s => s
noncomputable def fdA : Stmt → Arguments | .FunctionDef _ a .. => a | _ => ⟨[], [], none, [], [], none, []⟩
noncomputable def fdB : Stmt → List Stmt | .FunctionDef _ _ b .. => b | _ => []
noncomputable def fdS : Stmt → Scope | .FunctionDef _ _ _ _ _ _ s .. => s | _ => pw.main.scope
noncomputable def o164 : ((x0 : @PySem.Params) → @PySem.Obj) := (fun (x0 : @PySem.Params) => ⟨(.type "tuple"), none, (.seq #[(.str (Str.ofString "self") 353)] 0), #[]⟩)
noncomputable def o96 : ((x0 : @PySem.Params) → @PySem.Obj) := (fun (x0 : @PySem.Params) => ⟨(.type "type"), none, (.cls ⟨(Str.ofString "_tuplegetter"), [(.type "object")], [(.ref 60), (.type "object")], 59, (Str.ofString "_tuplegetter"), true, [], [], false, none, false⟩), #[none, none, (some (.str (Str.ofString "_tuplegetter") 196)), (some (.str (Str.ofString "_tuplegetter") 204)), (some (.builtin "object.__new__")), (some (.bool true))]⟩)
noncomputable def o157 : ((x0 : @PySem.Params) → @PySem.Obj) := (fun (x0 : @PySem.Params) => ⟨(.type "tuple"), none, (.seq #[(.str (Str.ofString "self") 342), (.str (Str.ofString "kwds") 343), (.str (Str.ofString "result") 344)] 0), #[]⟩)
noncomputable def o115 : ((x0 : @PySem.Params) → @PySem.Obj) := (fun (x0 : @PySem.Params) => ⟨(.type "code"), none, (.fields #[(.str (Str.ofString "__repr__") 265), (.str (Str.ofString "_Unknown.__repr__") 266), (.str (Str.ofString "/claim/cut.py") 267), (.int 25 0), (.int 1 0), (.int 0 0), (.int 0 0), (.int 3 0), (.ref 72), (.bool true), (.int 181 0), (.ref 73), .none, (.ref 74), (.ref 75), (.ref 76), (.int 269 0), (.int 25 0), (.str (Str.ofString "/claim/cut.py") 270)]), #[]⟩)
noncomputable def o145 : ((x0 : @PySem.Params) → @PySem.Obj) := (fun (x0 : @PySem.Params) => ⟨.none, none, (.fields #[]), #[]⟩)
noncomputable def o230 : ((x0 : @PySem.Params) → @PySem.Obj) := (fun (x0 : @PySem.Params) => ⟨(.type "code"), none, (.fields #[(.str (Str.ofString "_make") 316), (.str (Str.ofString "_ExceptionTableEntryBase._make") 317), (.str (Str.ofString "/claim/cut.py") 318), (.int 37 0), (.int 2 0), (.int 0 0), (.int 0 0), (.int 3 0), (.ref 104), (.bool true), (.int 181 0), (.ref 105), .none, (.ref 106), (.ref 107), (.ref 108), (.int 322 0), (.int 37 0), (.str (Str.ofString "/claim/cut.py") 323)]), #[]⟩)
noncomputable def o302 : ((x0 : @PySem.Params) → @PySem.Obj) := (fun (x0 : @PySem.Params) => ⟨(.type "tuple"), none, (.seq #[] 0), #[]⟩)
noncomputable def o229 : ((x0 : @PySem.Params) → @PySem.Obj) := (fun (x0 : @PySem.Params) => ⟨.none, none, (.func ⟨(Str.ofString "_make"), (Str.ofString "_ExceptionTableEntryBase._make"), (fdA (sc 4 5)), (.stmts (fdB (sc 4 5))), (fdS (sc 4 5)), 0, [], .none, .none, .none, .none, none, .none, .none, 0⟩), #[]⟩)
noncomputable def o330 : ((x0 : @PySem.Params) → @PySem.Obj) := (fun (x0 : @PySem.Params) => ⟨(.type "tuple"), none, (.seq #[] 0), #[]⟩)
noncomputable def o135 : ((x0 : @PySem.Params) → @PySem.Obj) := (fun (x0 : @PySem.Params) => ⟨(.type "tuple"), none, (.seq #[(.str (Str.ofString "start") 296), (.str (Str.ofString "end") 297), (.str (Str.ofString "target") 298), (.str (Str.ofString "depth") 299), (.str (Str.ofString "lasti") 300)] 0), #[]⟩)
noncomputable def o106 : ((x0 : @PySem.Params) → @PySem.Obj) := (fun (x0 : @PySem.Params) => ⟨(.type "tuple"), none, (.seq #[] 0), #[]⟩)
noncomputable def o177 : ((x0 : @PySem.Params) → @PySem.Obj) := (fun (x0 : @PySem.Params) => ⟨.none, none, (.fields #[]), #[]⟩)
noncomputable def o132 : ((x0 : @PySem.Params) → @PySem.Obj) := (fun (x0 : @PySem.Params) => ⟨(.type "code"), none, (.fields #[(.str (Str.ofString "_ExceptionTableEntryBase") 282), (.str (Str.ofString "_ExceptionTableEntryBase") 283), (.str (Str.ofString "/claim/cut.py") 284), (.int 27 0), (.int 0 0), (.int 0 0), (.int 0 0), (.int 0 0), (.ref 90), (.bool false), (.int 181 0), (.ref 91), .none, .none, .none, .none, (.int 285 0), (.int 27 0), (.str (Str.ofString "/claim/cut.py") 286)]), #[]⟩)
noncomputable def o281 : ((x0 : @PySem.Params) → @PySem.Obj) := (fun (x0 : @PySem.Params) => ⟨(.type "type"), none, (.cls ⟨(Str.ofString "_ExceptionTableEntryBase"), [(.type "tuple")], [(.ref 162), (.type "tuple"), (.type "object")], 161, (Str.ofString "_ExceptionTableEntryBase"), false, [], [(.ref 175)], false, none, false⟩), #[(some (.ref 86)), none, (some (.str (Str.ofString "_ExceptionTableEntryBase") 280)), (some (.str (Str.ofString "_ExceptionTableEntryBase") 288)), (some .none), (some (.bool false))]⟩)
noncomputable def o99 : ((x0 : @PySem.Params) → @PySem.Obj) := (fun (x0 : @PySem.Params) => ⟨(.type "super"), none, (.fields #[(.ref 60), (.ref 60), (.ref 60)]), #[]⟩)
noncomputable def o79 : ((x0 : @PySem.Params) → @PySem.Obj) := (fun (x0 : @PySem.Params) => ⟨(.type "function"), none, (.func ⟨(Str.ofString "__get__"), (Str.ofString "_tuplegetter.__get__"), (fdA (sc 2 1)), (.stmts (fdB (sc 2 1))), (fdS (sc 2 1)), 3, [], (.ref 36), .none, .none, (.str (Str.ofString "cpy313.dis") 194), none, (.ref 42), .none, 0⟩), #[]⟩)
noncomputable def o322 : ((x0 : @PySem.Params) → @PySem.Obj) := (fun (x0 : @PySem.Params) => ⟨(.type "function"), none, (.func ⟨(Str.ofString "_law_write"), (Str.ofString "_law_write"), (fdA (st 10)), (.stmts (fdB (st 10))), (fdS (st 10)), 3, [], .none, .none, .none, (.str (Str.ofString "law_io0064_05") 477), none, (.ref 205), .none, 0⟩), #[]⟩)
noncomputable def o324 : ((x0 : @PySem.Params) → @PySem.Obj) := (fun (x0 : @PySem.Params) => ⟨.none, none, (.fields #[]), #[]⟩)
noncomputable def o279 : ((x0 : @PySem.Params) → @PySem.Obj) := (fun (x0 : @PySem.Params) => ⟨(.type "dict"), none, (.dict #[⟨(@PySem.PyData.keyHash x0 (Str.ofString "__name__")), (.str (Str.ofString "__name__") 165), (.str (Str.ofString "law_io0064_05") 477)⟩, ⟨(@PySem.PyData.keyHash x0 (Str.ofString "__doc__")), (.str (Str.ofString "__doc__") 166), .none⟩, ⟨(@PySem.PyData.keyHash x0 (Str.ofString "__package__")), (.str (Str.ofString "__package__") 167), .none⟩, ⟨(@PySem.PyData.keyHash x0 (Str.ofString "__loader__")), (.str (Str.ofString "__loader__") 168), (.builtin "__main__.__loader__#opaque")⟩, ⟨(@PySem.PyData.keyHash x0 (Str.ofString "__spec__")), (.str (Str.ofString "__spec__") 169), .none⟩, ⟨(@PySem.PyData.keyHash x0 (Str.ofString "__annotations__")), (.str (Str.ofString "__annotations__") 170), (.ref 6)⟩, ⟨(@PySem.PyData.keyHash x0 (Str.ofString "__builtins__")), (.str (Str.ofString "__builtins__") 171), (.ref 4)⟩, ⟨(@PySem.PyData.keyHash x0 (Str.ofString "__file__")), (.str (Str.ofString "__file__") 173), (.str (Str.ofString "/claim/cut.py") 172)⟩, ⟨(@PySem.PyData.keyHash x0 (Str.ofString "__cached__")), (.str (Str.ofString "__cached__") 174), .none⟩, ⟨(@PySem.PyData.keyHash x0 (Str.ofString "_wall")), (.str (Str.ofString "_wall") 193), (.ref 21)⟩, ⟨(@PySem.PyData.keyHash x0 (Str.ofString "_tuplegetter")), (.str (Str.ofString "_tuplegetter") 252), (.ref 60)⟩, ⟨(@PySem.PyData.keyHash x0 (Str.ofString "_Unknown")), (.str (Str.ofString "_Unknown") 279), (.ref 81)⟩, ⟨(@PySem.PyData.keyHash x0 (Str.ofString "_ExceptionTableEntryBase")), (.str (Str.ofString "_ExceptionTableEntryBase") 433), (.ref 162)⟩, ⟨(@PySem.PyData.keyHash x0 (Str.ofString "_ExceptionTableEntry")), (.str (Str.ofString "_ExceptionTableEntry") 451), (.ref 175)⟩, ⟨(@PySem.PyData.keyHash x0 (Str.ofString "_parse_varint")), (.str (Str.ofString "_parse_varint") 460), (.ref 185)⟩, ⟨(@PySem.PyData.keyHash x0 (Str.ofString "_parse_exception_table")), (.str (Str.ofString "_parse_exception_table") 476), (.ref 192)⟩, ⟨(@PySem.PyData.keyHash x0 (Str.ofString "_law_read")), (.str (Str.ofString "_law_read") 486), (.ref 199)⟩, ⟨(@PySem.PyData.keyHash x0 (Str.ofString "_law_write")), (.str (Str.ofString "_law_write") 494), (.ref 206)⟩, ⟨(@PySem.PyData.keyHash x0 (Str.ofString "_law_least")), (.str (Str.ofString "_law_least") 500), (.ref 211)⟩] 19), #[]⟩)
noncomputable def o54 : ((x0 : @PySem.Params) → @PySem.Obj) := (fun (x0 : @PySem.Params) => ⟨(.type "tuple"), none, (.seq #[] 0), #[]⟩)
noncomputable def o95 : ((x0 : @PySem.Params) → @PySem.Obj) := (fun (x0 : @PySem.Params) => ⟨(.type "dict"), none, (.dict #[⟨(@PySem.PyData.keyHash x0 (Str.ofString "__module__")), (.str (Str.ofString "__module__") 203), (.str (Str.ofString "cpy313.dis") 194)⟩, ⟨(@PySem.PyData.keyHash x0 (Str.ofString "__firstlineno__")), (.str (Str.ofString "__firstlineno__") 207), (.int 5 206)⟩, ⟨(@PySem.PyData.keyHash x0 (Str.ofString "__init__")), (.str (Str.ofString "__init__") 216), (.ref 35)⟩, ⟨(@PySem.PyData.keyHash x0 (Str.ofString "__get__")), (.str (Str.ofString "__get__") 225), (.ref 43)⟩, ⟨(@PySem.PyData.keyHash x0 (Str.ofString "__set__")), (.str (Str.ofString "__set__") 234), (.ref 50)⟩, ⟨(@PySem.PyData.keyHash x0 (Str.ofString "__delete__")), (.str (Str.ofString "__delete__") 242), (.ref 57)⟩, ⟨(@PySem.PyData.keyHash x0 (Str.ofString "__static_attributes__")), (.str (Str.ofString "__static_attributes__") 245), (.ref 58)⟩, ⟨(@PySem.PyData.keyHash x0 (Str.ofString "__dict__")), (.str (Str.ofString "__dict__") 247), (.ref 61)⟩, ⟨(@PySem.PyData.keyHash x0 (Str.ofString "__weakref__")), (.str (Str.ofString "__weakref__") 249), (.ref 62)⟩, ⟨(@PySem.PyData.keyHash x0 (Str.ofString "__doc__")), (.str (Str.ofString "__doc__") 250), .none⟩] 4), #[]⟩)
noncomputable def o75 : ((x0 : @PySem.Params) → @PySem.Obj) := (fun (x0 : @PySem.Params) => ⟨(.type "tuple"), none, (.seq #[(.str (Str.ofString "self") 220), (.str (Str.ofString "obj") 221), (.str (Str.ofString "objtype") 222)] 0), #[]⟩)
noncomputable def o285 : ((x0 : @PySem.Params) → @PySem.Obj) := (fun (x0 : @PySem.Params) => ⟨(.type "tuple"), none, (.seq #[] 0), #[]⟩)
noncomputable def o283 : ((x0 : @PySem.Params) → @PySem.Obj) := (fun (x0 : @PySem.Params) => ⟨(.type "builtin_function_or_method"), none, (.fields #[(.builtin "type.__prepare__"), (.type "type")]), #[]⟩)
noncomputable def o175 : ((x0 : @PySem.Params) → @PySem.Obj) := (fun (x0 : @PySem.Params) => ⟨(.type "function"), none, (.func ⟨(Str.ofString "_asdict"), (Str.ofString "_ExceptionTableEntryBase._asdict"), (fdA (sc 4 9)), (.stmts (fdB (sc 4 9))), (fdS (sc 4 9)), 3, [], .none, .none, .none, (.str (Str.ofString "cpy313.dis") 194), none, (.ref 134), .none, 0⟩), #[]⟩)
noncomputable def o126 : ((x0 : @PySem.Params) → @PySem.Obj) := (fun (x0 : @PySem.Params) => ⟨(.type "tuple"), none, (.seq #[(.type "tuple")] 0), #[]⟩)
noncomputable def o89 : ((x0 : @PySem.Params) → @PySem.Obj) := (fun (x0 : @PySem.Params) => ⟨(.type "tuple"), none, (.seq #[(.str (Str.ofString "self") 238), (.str (Str.ofString "obj") 239)] 0), #[]⟩)
noncomputable def o64 : ((x0 : @PySem.Params) → @PySem.Obj) := (fun (x0 : @PySem.Params) => ⟨(.type "frame"), none, .plain, #[(some (.ref 27)), (some (.ref 3)), (some (.ref 24)), none, (some (.str (Str.ofString "cpy313.dis") 194)), none, (some (.ref 0))]⟩)
noncomputable def o256 : ((x0 : @PySem.Params) → @PySem.Obj) := (fun (x0 : @PySem.Params) => ⟨.none, none, (.fields #[(.int 33 0), (.int 4 0), (.ref 102), (.int 38 0), (.int 4 0), (.ref 109), (.int 45 0), (.int 4 0), (.ref 120), (.int 56 0), (.int 4 0), (.ref 127), (.int 60 0), (.int 4 0), (.ref 134), (.int 63 0), (.int 4 0), (.ref 141)]), #[]⟩)
noncomputable def o105 : ((x0 : @PySem.Params) → @PySem.Obj) := (fun (x0 : @PySem.Params) => ⟨(.type "dict"), none, (.dict #[⟨(@PySem.PyData.keyHash x0 (Str.ofString "__module__")), (.str (Str.ofString "__module__") 260), (.str (Str.ofString "cpy313.dis") 194)⟩, ⟨(@PySem.PyData.keyHash x0 (Str.ofString "__qualname__")), (.str (Str.ofString "__qualname__") 262), (.str (Str.ofString "_Unknown") 261)⟩, ⟨(@PySem.PyData.keyHash x0 (Str.ofString "__firstlineno__")), (.str (Str.ofString "__firstlineno__") 264), (.int 23 263)⟩, ⟨(@PySem.PyData.keyHash x0 (Str.ofString "__repr__")), (.str (Str.ofString "__repr__") 271), (.ref 78)⟩, ⟨(@PySem.PyData.keyHash x0 (Str.ofString "__static_attributes__")), (.str (Str.ofString "__static_attributes__") 272), (.ref 79)⟩] 5), #[]⟩)
noncomputable def o138 : ((x0 : @PySem.Params) → @PySem.Obj) := (fun (x0 : @PySem.Params) => ⟨.none, none, (.fields #[]), #[]⟩)
noncomputable def o247 : ((x0 : @PySem.Params) → @PySem.Obj) := (fun (x0 : @PySem.Params) => ⟨.none, none, (.func ⟨(Str.ofString "__repr__"), (Str.ofString "_ExceptionTableEntryBase.__repr__"), (fdA (sc 4 8)), (.stmts (fdB (sc 4 8))), (fdS (sc 3 0)), 0, [], .none, .none, .none, .none, none, .none, .none, 0⟩), #[]⟩)
noncomputable def o240 : ((x0 : @PySem.Params) → @PySem.Obj) := (fun (x0 : @PySem.Params) => ⟨.none, none, (.func ⟨(Str.ofString "_replace"), (Str.ofString "_ExceptionTableEntryBase._replace"), (fdA (sc 4 6)), (.stmts (fdB (sc 4 6))), (fdS (sc 4 6)), 0, [], .none, .none, .none, .none, none, .none, .none, 0⟩), #[]⟩)
noncomputable def o101 : ((x0 : @PySem.Params) → @PySem.Obj) := (fun (x0 : @PySem.Params) => ⟨(.type "dict"), none, (.dict #[⟨(@PySem.PyData.keyHash x0 (Str.ofString "__name__")), (.str (Str.ofString "__name__") 165), (.str (Str.ofString "cpy313.dis") 194)⟩, ⟨(@PySem.PyData.keyHash x0 (Str.ofString "__doc__")), (.str (Str.ofString "__doc__") 166), .none⟩, ⟨(@PySem.PyData.keyHash x0 (Str.ofString "__package__")), (.str (Str.ofString "__package__") 167), .none⟩, ⟨(@PySem.PyData.keyHash x0 (Str.ofString "__loader__")), (.str (Str.ofString "__loader__") 168), (.builtin "__main__.__loader__#opaque")⟩, ⟨(@PySem.PyData.keyHash x0 (Str.ofString "__spec__")), (.str (Str.ofString "__spec__") 169), .none⟩, ⟨(@PySem.PyData.keyHash x0 (Str.ofString "__annotations__")), (.str (Str.ofString "__annotations__") 170), (.ref 6)⟩, ⟨(@PySem.PyData.keyHash x0 (Str.ofString "__builtins__")), (.str (Str.ofString "__builtins__") 171), (.ref 4)⟩, ⟨(@PySem.PyData.keyHash x0 (Str.ofString "__file__")), (.str (Str.ofString "__file__") 173), (.str (Str.ofString "/claim/cut.py") 172)⟩, ⟨(@PySem.PyData.keyHash x0 (Str.ofString "__cached__")), (.str (Str.ofString "__cached__") 174), .none⟩, ⟨(@PySem.PyData.keyHash x0 (Str.ofString "_wall")), (.str (Str.ofString "_wall") 193), (.ref 21)⟩, ⟨(@PySem.PyData.keyHash x0 (Str.ofString "_tuplegetter")), (.str (Str.ofString "_tuplegetter") 252), (.ref 60)⟩, ⟨(@PySem.PyData.keyHash x0 (Str.ofString "_Unknown")), (.str (Str.ofString "_Unknown") 279), (.ref 81)⟩] 12), #[]⟩)
noncomputable def o51 : ((x0 : @PySem.Params) → @PySem.Obj) := (fun (x0 : @PySem.Params) => ⟨(.type "tuple"), none, (.seq #[] 0), #[]⟩)
noncomputable def o67 : ((x0 : @PySem.Params) → @PySem.Obj) := (fun (x0 : @PySem.Params) => ⟨(.type "tuple"), none, (.seq #[(.str (Str.ofString "self") 211), (.str (Str.ofString "index") 212), (.str (Str.ofString "doc") 213)] 0), #[]⟩)
noncomputable def o248 : ((x0 : @PySem.Params) → @PySem.Obj) := (fun (x0 : @PySem.Params) => ⟨(.type "code"), none, (.fields #[(.str (Str.ofString "__repr__") 350), (.str (Str.ofString "_ExceptionTableEntryBase.__repr__") 351), (.str (Str.ofString "/claim/cut.py") 352), (.int 56 0), (.int 1 0), (.int 0 0), (.int 0 0), (.int 3 0), (.ref 122), (.bool true), (.int 181 0), (.ref 123), .none, (.ref 124), (.ref 125), (.ref 126), (.int 354 0), (.int 56 0), (.str (Str.ofString "/claim/cut.py") 355)]), #[]⟩)
noncomputable def o216 : ((x0 : @PySem.Params) → @PySem.Obj) := (fun (x0 : @PySem.Params) => ⟨(.type "tuple"), none, (.seq #[(.str (Str.ofString "start") 296), (.str (Str.ofString "end") 297), (.str (Str.ofString "target") 298), (.str (Str.ofString "depth") 299), (.str (Str.ofString "lasti") 300)] 0), #[]⟩)
noncomputable def o83 : ((x0 : @PySem.Params) → @PySem.Obj) := (fun (x0 : @PySem.Params) => ⟨(.type "tuple"), none, (.seq #[] 0), #[]⟩)
noncomputable def o117 : ((x0 : @PySem.Params) → @PySem.Obj) := (fun (x0 : @PySem.Params) => ⟨(.type "tuple"), none, (.seq #[] 0), #[]⟩)
noncomputable def o232 : ((x0 : @PySem.Params) → @PySem.Obj) := (fun (x0 : @PySem.Params) => ⟨(.type "dict"), none, (.dict #[⟨(@PySem.PyData.keyHash x0 (Str.ofString "__module__")), (.str (Str.ofString "__module__") 326), (.str (Str.ofString "cpy313.dis") 194)⟩, ⟨(@PySem.PyData.keyHash x0 (Str.ofString "__name__")), (.str (Str.ofString "__name__") 329), (.str (Str.ofString "_make") 328)⟩, ⟨(@PySem.PyData.keyHash x0 (Str.ofString "__qualname__")), (.str (Str.ofString "__qualname__") 332), (.str (Str.ofString "_ExceptionTableEntryBase._make") 331)⟩, ⟨(@PySem.PyData.keyHash x0 (Str.ofString "__doc__")), (.str (Str.ofString "__doc__") 334), (.str (Str.ofString "Make a new _ExceptionTableEntryBase object from a sequence or iterable") 324)⟩, ⟨(@PySem.PyData.keyHash x0 (Str.ofString "__annotations__")), (.str (Str.ofString "__annotations__") 336), (.ref 113)⟩] 5), #[]⟩)
noncomputable def o59 : ((x0 : @PySem.Params) → @PySem.Obj) := (fun (x0 : @PySem.Params) => ⟨(.type "builtin_function_or_method"), none, (.fields #[(.builtin "type.__prepare__"), (.type "type")]), #[]⟩)
noncomputable def o109 : ((x0 : @PySem.Params) → @PySem.Obj) := (fun (x0 : @PySem.Params) => ⟨(.type "frame"), none, .plain, #[(some (.ref 70)), (some (.ref 3)), (some (.ref 67)), none, (some (.str (Str.ofString "cpy313.dis") 194)), none, (some (.ref 0))]⟩)
noncomputable def o224 : ((x0 : @PySem.Params) → @PySem.Obj) := (fun (x0 : @PySem.Params) => ⟨(.type "function"), none, (.func ⟨(Str.ofString "__new__"), (Str.ofString "_ExceptionTableEntryBase.__new__"), (fdA (sc 4 4)), (.stmts (fdB (sc 4 4))), (fdS (sc 4 4)), 3, [], .none, .none, (.str (Str.ofString "Create new instance of _ExceptionTableEntryBase(start, end, target, depth, lasti)") 314), (.str (Str.ofString "cpy313.dis") 194), none, (.ref 102), .none, 0⟩), #[]⟩)
noncomputable def o91 : ((x0 : @PySem.Params) → @PySem.Obj) := (fun (x0 : @PySem.Params) => ⟨.none, none, (.func ⟨(Str.ofString "__delete__"), (Str.ofString "_tuplegetter.__delete__"), (fdA (sc 2 3)), (.stmts (fdB (sc 2 3))), (fdS (sc 2 3)), 0, [], .none, .none, .none, .none, none, .none, .none, 0⟩), #[]⟩)
noncomputable def o208 : ((x0 : @PySem.Params) → @PySem.Obj) := (fun (x0 : @PySem.Params) => ⟨(.type "builtin_function_or_method"), none, (.fields #[(.builtin "type.__prepare__"), (.type "type")]), #[]⟩)
noncomputable def o43 : ((x0 : @PySem.Params) → @PySem.Obj) := (fun (x0 : @PySem.Params) => ⟨(.type "tuple"), none, (.seq #[] 0), #[]⟩)
noncomputable def o55 : ((x0 : @PySem.Params) → @PySem.Obj) := (fun (x0 : @PySem.Params) => ⟨.none, none, (.func ⟨(Str.ofString "_wall"), (Str.ofString "_wall"), (fdA (st 0)), (.stmts (fdB (st 0))), (fdS (st 0)), 0, [], .none, .none, .none, .none, none, .none, .none, 0⟩), #[]⟩)
noncomputable def o71 : ((x0 : @PySem.Params) → @PySem.Obj) := (fun (x0 : @PySem.Params) => ⟨(.type "function"), none, (.func ⟨(Str.ofString "__init__"), (Str.ofString "_tuplegetter.__init__"), (fdA (sc 2 0)), (.stmts (fdB (sc 2 0))), (fdS (sc 2 0)), 3, [], .none, .none, .none, (.str (Str.ofString "cpy313.dis") 194), none, (.ref 34), .none, 0⟩), #[]⟩)
noncomputable def o252 : ((x0 : @PySem.Params) → @PySem.Obj) := (fun (x0 : @PySem.Params) => ⟨(.type "tuple"), none, (.seq #[(.str (Str.ofString "self") 361)] 0), #[]⟩)
noncomputable def o220 : ((x0 : @PySem.Params) → @PySem.Obj) := (fun (x0 : @PySem.Params) => ⟨(.type "tuple"), none, (.seq #[(.str (Str.ofString "_cls") 306), (.str (Str.ofString "start") 307), (.str (Str.ofString "end") 308), (.str (Str.ofString "target") 309), (.str (Str.ofString "depth") 310), (.str (Str.ofString "lasti") 311)] 0), #[]⟩)
noncomputable def o87 : ((x0 : @PySem.Params) → @PySem.Obj) := (fun (x0 : @PySem.Params) => ⟨(.type "tuple"), none, (.seq #[] 0), #[]⟩)
noncomputable def o121 : ((x0 : @PySem.Params) → @PySem.Obj) := (fun (x0 : @PySem.Params) => ⟨(.type "getset_descriptor"), none, (.fields #[(.str (Str.ofString "__weakref__") 275), (.ref 81), (.builtin "ExceptionGroup.__weakref__"), .none]), #[]⟩)
noncomputable def o236 : ((x0 : @PySem.Params) → @PySem.Obj) := (fun (x0 : @PySem.Params) => ⟨(.type "tuple"), none, (.seq #[(.str (Str.ofString "__class__") 341)] 0), #[]⟩)
noncomputable def o63 : ((x0 : @PySem.Params) → @PySem.Obj) := (fun (x0 : @PySem.Params) => ⟨(.type "code"), none, (.fields #[(.str (Str.ofString "_tuplegetter") 198), (.str (Str.ofString "_tuplegetter") 199), (.str (Str.ofString "/claim/cut.py") 200), (.int 5 0), (.int 0 0), (.int 0 0), (.int 0 0), (.int 0 0), (.ref 25), (.bool false), (.int 181 0), (.ref 26), .none, .none, .none, .none, (.int 201 0), (.int 5 0), (.str (Str.ofString "/claim/cut.py") 202)]), #[]⟩)
noncomputable def o113 : ((x0 : @PySem.Params) → @PySem.Obj) := (fun (x0 : @PySem.Params) => ⟨(.type "tuple"), none, (.seq #[] 0), #[]⟩)
noncomputable def o228 : ((x0 : @PySem.Params) → @PySem.Obj) := (fun (x0 : @PySem.Params) => ⟨(.type "tuple"), none, (.seq #[] 0), #[]⟩)
noncomputable def o212 : ((x0 : @PySem.Params) → @PySem.Obj) := (fun (x0 : @PySem.Params) => ⟨.none, none, (.fields #[(.int 33 0), (.int 4 0), (.ref 102), (.int 38 0), (.int 4 0), (.ref 109), (.int 45 0), (.int 4 0), (.ref 120), (.int 56 0), (.int 4 0), (.ref 127)]), #[]⟩)
noncomputable def o244 : ((x0 : @PySem.Params) → @PySem.Obj) := (fun (x0 : @PySem.Params) => ⟨.none, none, (.fields #[]), #[]⟩)
noncomputable def o53 : ((x0 : @PySem.Params) → @PySem.Obj) := (fun (x0 : @PySem.Params) => ⟨(.type "tuple"), none, (.seq #[(.str (Str.ofString "k") 190)] 0), #[]⟩)
noncomputable def o69 : ((x0 : @PySem.Params) → @PySem.Obj) := (fun (x0 : @PySem.Params) => ⟨.none, none, (.func ⟨(Str.ofString "__init__"), (Str.ofString "_tuplegetter.__init__"), (fdA (sc 2 0)), (.stmts (fdB (sc 2 0))), (fdS (sc 2 0)), 0, [], .none, .none, .none, .none, none, .none, .none, 0⟩), #[]⟩)
noncomputable def o103 : ((x0 : @PySem.Params) → @PySem.Obj) := (fun (x0 : @PySem.Params) => ⟨(.type "tuple"), none, (.seq #[] 0), #[]⟩)
noncomputable def o250 : ((x0 : @PySem.Params) → @PySem.Obj) := (fun (x0 : @PySem.Params) => ⟨(.type "tuple"), none, (.seq #[] 0), #[]⟩)
noncomputable def o218 : ((x0 : @PySem.Params) → @PySem.Obj) := (fun (x0 : @PySem.Params) => ⟨(.type "tuple"), none, (.seq #[] 0), #[]⟩)
noncomputable def o85 : ((x0 : @PySem.Params) → @PySem.Obj) := (fun (x0 : @PySem.Params) => ⟨(.type "code"), none, (.fields #[(.str (Str.ofString "__set__") 226), (.str (Str.ofString "_tuplegetter.__set__") 227), (.str (Str.ofString "/claim/cut.py") 228), (.int 18 0), (.int 3 0), (.int 0 0), (.int 0 0), (.int 3 0), (.ref 44), (.bool true), (.int 181 0), (.ref 45), .none, (.ref 46), (.ref 47), (.ref 48), (.int 232 0), (.int 18 0), (.str (Str.ofString "/claim/cut.py") 233)]), #[]⟩)
noncomputable def o119 : ((x0 : @PySem.Params) → @PySem.Obj) := (fun (x0 : @PySem.Params) => ⟨(.type "type"), none, (.cls ⟨(Str.ofString "_Unknown"), [(.type "object")], [(.ref 81), (.type "object")], 80, (Str.ofString "_Unknown"), true, [], [], false, none, false⟩), #[none, none, (some (.str (Str.ofString "_Unknown") 253)), (some (.str (Str.ofString "_Unknown") 261)), (some (.builtin "object.__new__")), (some (.bool true))]⟩)
noncomputable def o234 : ((x0 : @PySem.Params) → @PySem.Obj) := (fun (x0 : @PySem.Params) => ⟨(.type "dict"), none, (.dict #[] 0), #[]⟩)
noncomputable def o61 : ((x0 : @PySem.Params) → @PySem.Obj) := (fun (x0 : @PySem.Params) => ⟨(.type "tuple"), none, (.seq #[] 0), #[]⟩)
noncomputable def o77 : ((x0 : @PySem.Params) → @PySem.Obj) := (fun (x0 : @PySem.Params) => ⟨.none, none, (.func ⟨(Str.ofString "__get__"), (Str.ofString "_tuplegetter.__get__"), (fdA (sc 2 1)), (.stmts (fdB (sc 2 1))), (fdS (sc 2 1)), 0, [], .none, .none, .none, .none, none, .none, .none, 0⟩), #[]⟩)
noncomputable def o111 : ((x0 : @PySem.Params) → @PySem.Obj) := (fun (x0 : @PySem.Params) => ⟨.none, none, (.fields #[]), #[]⟩)
noncomputable def o226 : ((x0 : @PySem.Params) → @PySem.Obj) := (fun (x0 : @PySem.Params) => ⟨.none, none, (.fields #[]), #[]⟩)
noncomputable def o93 : ((x0 : @PySem.Params) → @PySem.Obj) := (fun (x0 : @PySem.Params) => ⟨(.type "function"), none, (.func ⟨(Str.ofString "__delete__"), (Str.ofString "_tuplegetter.__delete__"), (fdA (sc 2 3)), (.stmts (fdB (sc 2 3))), (fdS (sc 2 3)), 3, [], .none, .none, .none, (.str (Str.ofString "cpy313.dis") 194), none, (.ref 56), .none, 0⟩), #[]⟩)
noncomputable def o210 : ((x0 : @PySem.Params) → @PySem.Obj) := (fun (x0 : @PySem.Params) => ⟨(.type "cell"), none, (.cell none), #[]⟩)
noncomputable def o242 : ((x0 : @PySem.Params) → @PySem.Obj) := (fun (x0 : @PySem.Params) => ⟨(.type "function"), none, (.func ⟨(Str.ofString "_replace"), (Str.ofString "_ExceptionTableEntryBase._replace"), (fdA (sc 4 6)), (.stmts (fdB (sc 4 6))), (fdS (sc 4 6)), 3, [((Str.ofString "__class__"), 89)], .none, .none, (.str (Str.ofString "Return a new _ExceptionTableEntryBase object replacing specified fields with new values") 347), (.str (Str.ofString "cpy313.dis") 194), none, (.ref 120), (.ref 114), 0⟩), #[]⟩)
noncomputable def o45 : ((x0 : @PySem.Params) → @PySem.Obj) := (fun (x0 : @PySem.Params) => ⟨(.type "code"), none, (.fields #[(.str (Str.ofString "<module>") 182), (.str (Str.ofString "<module>") 183), (.str (Str.ofString "/claim/cut.py") 184), (.int 1 0), (.int 0 0), (.int 0 0), (.int 0 0), (.int 0 0), (.ref 11), (.bool false), (.int 181 0), (.ref 12), .none, .none, .none, .none, (.int 185 0), (.int 1 0), (.str (Str.ofString "/claim/cut.py") 186)]), #[]⟩)
noncomputable def o57 : ((x0 : @PySem.Params) → @PySem.Obj) := (fun (x0 : @PySem.Params) => ⟨(.type "function"), none, (.func ⟨(Str.ofString "_wall"), (Str.ofString "_wall"), (fdA (st 0)), (.stmts (fdB (st 0))), (fdS (st 0)), 3, [], .none, .none, .none, (.str (Str.ofString "__main__") 164), none, (.ref 20), .none, 0⟩), #[]⟩)
noncomputable def o73 : ((x0 : @PySem.Params) → @PySem.Obj) := (fun (x0 : @PySem.Params) => ⟨(.type "tuple"), none, (.seq #[] 0), #[]⟩)
noncomputable def o107 : ((x0 : @PySem.Params) → @PySem.Obj) := (fun (x0 : @PySem.Params) => ⟨.none, none, (.fields #[(.int 25 0), (.int 4 0), (.ref 77)]), #[]⟩)
noncomputable def o254 : ((x0 : @PySem.Params) → @PySem.Obj) := (fun (x0 : @PySem.Params) => ⟨.none, none, (.func ⟨(Str.ofString "_asdict"), (Str.ofString "_ExceptionTableEntryBase._asdict"), (fdA (sc 4 9)), (.stmts (fdB (sc 4 9))), (fdS (sc 4 9)), 0, [], .none, .none, .none, .none, none, .none, .none, 0⟩), #[]⟩)
noncomputable def o222 : ((x0 : @PySem.Params) → @PySem.Obj) := (fun (x0 : @PySem.Params) => ⟨.none, none, (.func ⟨(Str.ofString "__new__"), (Str.ofString "_ExceptionTableEntryBase.__new__"), (fdA (sc 4 4)), (.stmts (fdB (sc 4 4))), (fdS (sc 4 4)), 0, [], .none, .none, .none, .none, none, .none, .none, 0⟩), #[]⟩)
noncomputable def o123 : ((x0 : @PySem.Params) → @PySem.Obj) := (fun (x0 : @PySem.Params) => ⟨(.type "builtin_function_or_method"), none, (.fields #[(.builtin "object.__init_subclass__"), (.ref 81)]), #[]⟩)
noncomputable def o238 : ((x0 : @PySem.Params) → @PySem.Obj) := (fun (x0 : @PySem.Params) => ⟨(.type "tuple"), none, (.seq #[(.str (Str.ofString "self") 342), (.str (Str.ofString "kwds") 343), (.str (Str.ofString "result") 344)] 0), #[]⟩)
noncomputable def o65 : ((x0 : @PySem.Params) → @PySem.Obj) := (fun (x0 : @PySem.Params) => ⟨(.type "tuple"), none, (.seq #[] 0), #[]⟩)
noncomputable def o81 : ((x0 : @PySem.Params) → @PySem.Obj) := (fun (x0 : @PySem.Params) => ⟨.none, none, (.fields #[]), #[]⟩)
noncomputable def o97 : ((x0 : @PySem.Params) → @PySem.Obj) := (fun (x0 : @PySem.Params) => ⟨(.type "getset_descriptor"), none, (.fields #[(.str (Str.ofString "__dict__") 246), (.ref 60), (.builtin "function.__dict__"), (.builtin "function.__dict__#set")]), #[]⟩)
noncomputable def o214 : ((x0 : @PySem.Params) → @PySem.Obj) := (fun (x0 : @PySem.Params) => ⟨(.type "frame"), none, .plain, #[(some (.ref 92)), (some (.ref 3)), (some (.ref 88)), none, (some (.str (Str.ofString "cpy313.dis") 194)), none, (some (.ref 0))]⟩)
noncomputable def o246 : ((x0 : @PySem.Params) → @PySem.Obj) := (fun (x0 : @PySem.Params) => ⟨(.type "tuple"), none, (.seq #[] 0), #[]⟩)
noncomputable def o52 : ((x0 : @PySem.Params) → @PySem.Obj) := (fun (x0 : @PySem.Params) => ⟨.none, none, (.fields #[]), #[]⟩)
noncomputable def o68 : ((x0 : @PySem.Params) → @PySem.Obj) := (fun (x0 : @PySem.Params) => ⟨(.type "tuple"), none, (.seq #[] 0), #[]⟩)
noncomputable def o100 : ((x0 : @PySem.Params) → @PySem.Obj) := (fun (x0 : @PySem.Params) => ⟨(.type "builtin_function_or_method"), none, (.fields #[(.builtin "object.__init_subclass__"), (.ref 60)]), #[]⟩)
noncomputable def o249 : ((x0 : @PySem.Params) → @PySem.Obj) := (fun (x0 : @PySem.Params) => ⟨(.type "function"), none, (.func ⟨(Str.ofString "__repr__"), (Str.ofString "_ExceptionTableEntryBase.__repr__"), (fdA (sc 4 8)), (.stmts (fdB (sc 4 8))), (fdS (sc 3 0)), 3, [], .none, .none, (.str (Str.ofString "Return a nicely formatted representation string") 356), (.str (Str.ofString "cpy313.dis") 194), none, (.ref 127), .none, 0⟩), #[]⟩)
noncomputable def o217 : ((x0 : @PySem.Params) → @PySem.Obj) := (fun (x0 : @PySem.Params) => ⟨(.type "dict"), none, (.dict #[] 0), #[]⟩)
noncomputable def o84 : ((x0 : @PySem.Params) → @PySem.Obj) := (fun (x0 : @PySem.Params) => ⟨.none, none, (.func ⟨(Str.ofString "__set__"), (Str.ofString "_tuplegetter.__set__"), (fdA (sc 2 2)), (.stmts (fdB (sc 2 2))), (fdS (sc 2 2)), 0, [], .none, .none, .none, .none, none, .none, .none, 0⟩), #[]⟩)
noncomputable def o118 : ((x0 : @PySem.Params) → @PySem.Obj) := (fun (x0 : @PySem.Params) => ⟨(.type "dict"), none, (.dict #[⟨(@PySem.PyData.keyHash x0 (Str.ofString "__module__")), (.str (Str.ofString "__module__") 260), (.str (Str.ofString "cpy313.dis") 194)⟩, ⟨(@PySem.PyData.keyHash x0 (Str.ofString "__firstlineno__")), (.str (Str.ofString "__firstlineno__") 264), (.int 23 263)⟩, ⟨(@PySem.PyData.keyHash x0 (Str.ofString "__repr__")), (.str (Str.ofString "__repr__") 271), (.ref 78)⟩, ⟨(@PySem.PyData.keyHash x0 (Str.ofString "__static_attributes__")), (.str (Str.ofString "__static_attributes__") 272), (.ref 79)⟩, ⟨(@PySem.PyData.keyHash x0 (Str.ofString "__dict__")), (.str (Str.ofString "__dict__") 274), (.ref 82)⟩, ⟨(@PySem.PyData.keyHash x0 (Str.ofString "__weakref__")), (.str (Str.ofString "__weakref__") 276), (.ref 83)⟩, ⟨(@PySem.PyData.keyHash x0 (Str.ofString "__doc__")), (.str (Str.ofString "__doc__") 277), .none⟩] 4), #[]⟩)
noncomputable def o233 : ((x0 : @PySem.Params) → @PySem.Obj) := (fun (x0 : @PySem.Params) => ⟨(.type "classmethod"), (some 111), (.fields #[(.ref 110), (.bool false)]), #[]⟩)
noncomputable def o60 : ((x0 : @PySem.Params) → @PySem.Obj) := (fun (x0 : @PySem.Params) => ⟨(.type "dict"), none, (.dict #[⟨(@PySem.PyData.keyHash x0 (Str.ofString "__module__")), (.str (Str.ofString "__module__") 203), (.str (Str.ofString "cpy313.dis") 194)⟩, ⟨(@PySem.PyData.keyHash x0 (Str.ofString "__qualname__")), (.str (Str.ofString "__qualname__") 205), (.str (Str.ofString "_tuplegetter") 204)⟩, ⟨(@PySem.PyData.keyHash x0 (Str.ofString "__firstlineno__")), (.str (Str.ofString "__firstlineno__") 207), (.int 5 206)⟩, ⟨(@PySem.PyData.keyHash x0 (Str.ofString "__init__")), (.str (Str.ofString "__init__") 216), (.ref 35)⟩, ⟨(@PySem.PyData.keyHash x0 (Str.ofString "__get__")), (.str (Str.ofString "__get__") 225), (.ref 43)⟩, ⟨(@PySem.PyData.keyHash x0 (Str.ofString "__set__")), (.str (Str.ofString "__set__") 234), (.ref 50)⟩, ⟨(@PySem.PyData.keyHash x0 (Str.ofString "__delete__")), (.str (Str.ofString "__delete__") 242), (.ref 57)⟩, ⟨(@PySem.PyData.keyHash x0 (Str.ofString "__static_attributes__")), (.str (Str.ofString "__static_attributes__") 245), (.ref 58)⟩] 8), #[]⟩)
noncomputable def o76 : ((x0 : @PySem.Params) → @PySem.Obj) := (fun (x0 : @PySem.Params) => ⟨(.type "tuple"), none, (.seq #[] 0), #[]⟩)
noncomputable def o110 : ((x0 : @PySem.Params) → @PySem.Obj) := (fun (x0 : @PySem.Params) => ⟨(.type "tuple"), none, (.seq #[] 0), #[]⟩)
noncomputable def o225 : ((x0 : @PySem.Params) → @PySem.Obj) := (fun (x0 : @PySem.Params) => ⟨(.type "tuple"), none, (.seq #[] 0), #[]⟩)
noncomputable def o92 : ((x0 : @PySem.Params) → @PySem.Obj) := (fun (x0 : @PySem.Params) => ⟨(.type "code"), none, (.fields #[(.str (Str.ofString "__delete__") 235), (.str (Str.ofString "_tuplegetter.__delete__") 236), (.str (Str.ofString "/claim/cut.py") 237), (.int 21 0), (.int 2 0), (.int 0 0), (.int 0 0), (.int 3 0), (.ref 51), (.bool true), (.int 181 0), (.ref 52), .none, (.ref 53), (.ref 54), (.ref 55), (.int 240 0), (.int 21 0), (.str (Str.ofString "/claim/cut.py") 241)]), #[]⟩)
noncomputable def o209 : ((x0 : @PySem.Params) → @PySem.Obj) := (fun (x0 : @PySem.Params) => ⟨(.type "dict"), none, (.dict #[⟨(@PySem.PyData.keyHash x0 (Str.ofString "__module__")), (.str (Str.ofString "__module__") 287), (.str (Str.ofString "cpy313.dis") 194)⟩, ⟨(@PySem.PyData.keyHash x0 (Str.ofString "__qualname__")), (.str (Str.ofString "__qualname__") 289), (.str (Str.ofString "_ExceptionTableEntryBase") 288)⟩, ⟨(@PySem.PyData.keyHash x0 (Str.ofString "__firstlineno__")), (.str (Str.ofString "__firstlineno__") 291), (.int 27 290)⟩, ⟨(@PySem.PyData.keyHash x0 (Str.ofString "__doc__")), (.str (Str.ofString "__doc__") 293), (.str (Str.ofString "_ExceptionTableEntryBase(start, end, target, depth, lasti)") 292)⟩, ⟨(@PySem.PyData.keyHash x0 (Str.ofString "__slots__")), (.str (Str.ofString "__slots__") 295), (.ref 94)⟩, ⟨(@PySem.PyData.keyHash x0 (Str.ofString "_fields")), (.str (Str.ofString "_fields") 301), (.ref 95)⟩, ⟨(@PySem.PyData.keyHash x0 (Str.ofString "_field_defaults")), (.str (Str.ofString "_field_defaults") 302), (.ref 96)⟩, ⟨(@PySem.PyData.keyHash x0 (Str.ofString "__new__")), (.str (Str.ofString "__new__") 315), (.ref 103)⟩, ⟨(@PySem.PyData.keyHash x0 (Str.ofString "_make")), (.str (Str.ofString "_make") 337), (.ref 112)⟩, ⟨(@PySem.PyData.keyHash x0 (Str.ofString "_replace")), (.str (Str.ofString "_replace") 348), (.ref 121)⟩, ⟨(@PySem.PyData.keyHash x0 (Str.ofString "__replace__")), (.str (Str.ofString "__replace__") 349), (.ref 121)⟩, ⟨(@PySem.PyData.keyHash x0 (Str.ofString "__repr__")), (.str (Str.ofString "__repr__") 357), (.ref 128)⟩] 12), #[]⟩)
noncomputable def o241 : ((x0 : @PySem.Params) → @PySem.Obj) := (fun (x0 : @PySem.Params) => ⟨(.type "code"), none, (.fields #[(.str (Str.ofString "_replace") 338), (.str (Str.ofString "_ExceptionTableEntryBase._replace") 339), (.str (Str.ofString "/claim/cut.py") 340), (.int 45 0), (.int 1 0), (.int 1 0), (.int 0 0), (.int 11 0), (.ref 115), (.bool true), (.int 181 0), (.ref 116), .none, (.ref 117), (.ref 118), (.ref 119), (.int 345 0), (.int 45 0), (.str (Str.ofString "/claim/cut.py") 346)]), #[]⟩)
noncomputable def o206 : ((x0 : @PySem.Params) → @PySem.Obj) := (fun (x0 : @PySem.Params) => ⟨.none, none, (.fields #[(.int 1 0), (.int 0 0), (.ref 20), (.int 5 0), (.int 0 0), (.ref 27), (.int 23 0), (.int 0 0), (.ref 70), (.int 27 0), (.int 0 0), (.ref 92)]), #[]⟩)
noncomputable def o56 : ((x0 : @PySem.Params) → @PySem.Obj) := (fun (x0 : @PySem.Params) => ⟨(.type "code"), none, (.fields #[(.str (Str.ofString "_wall") 187), (.str (Str.ofString "_wall") 188), (.str (Str.ofString "/claim/cut.py") 189), (.int 1 0), (.int 1 0), (.int 0 0), (.int 0 0), (.int 3 0), (.ref 15), (.bool true), (.int 181 0), (.ref 16), .none, (.ref 17), (.ref 18), (.ref 19), (.int 191 0), (.int 1 0), (.str (Str.ofString "/claim/cut.py") 192)]), #[]⟩)
noncomputable def o72 : ((x0 : @PySem.Params) → @PySem.Obj) := (fun (x0 : @PySem.Params) => ⟨(.type "tuple"), none, (.seq #[.none] 0), #[]⟩)
noncomputable def o253 : ((x0 : @PySem.Params) → @PySem.Obj) := (fun (x0 : @PySem.Params) => ⟨(.type "tuple"), none, (.seq #[] 0), #[]⟩)
noncomputable def o221 : ((x0 : @PySem.Params) → @PySem.Obj) := (fun (x0 : @PySem.Params) => ⟨(.type "tuple"), none, (.seq #[] 0), #[]⟩)
noncomputable def o88 : ((x0 : @PySem.Params) → @PySem.Obj) := (fun (x0 : @PySem.Params) => ⟨.none, none, (.fields #[]), #[]⟩)
noncomputable def o122 : ((x0 : @PySem.Params) → @PySem.Obj) := (fun (x0 : @PySem.Params) => ⟨(.type "super"), none, (.fields #[(.ref 81), (.ref 81), (.ref 81)]), #[]⟩)
noncomputable def o237 : ((x0 : @PySem.Params) → @PySem.Obj) := (fun (x0 : @PySem.Params) => ⟨.none, none, (.fields #[]), #[]⟩)
noncomputable def o80 : ((x0 : @PySem.Params) → @PySem.Obj) := (fun (x0 : @PySem.Params) => ⟨(.type "tuple"), none, (.seq #[] 0), #[]⟩)
noncomputable def o114 : ((x0 : @PySem.Params) → @PySem.Obj) := (fun (x0 : @PySem.Params) => ⟨.none, none, (.func ⟨(Str.ofString "__repr__"), (Str.ofString "_Unknown.__repr__"), (fdA (sc 3 0)), (.stmts (fdB (sc 3 0))), (fdS (sc 3 0)), 0, [], .none, .none, .none, .none, none, .none, .none, 0⟩), #[]⟩)
noncomputable def o213 : ((x0 : @PySem.Params) → @PySem.Obj) := (fun (x0 : @PySem.Params) => ⟨(.type "code"), none, (.fields #[(.str (Str.ofString "_ExceptionTableEntryBase") 282), (.str (Str.ofString "_ExceptionTableEntryBase") 283), (.str (Str.ofString "/claim/cut.py") 284), (.int 27 0), (.int 0 0), (.int 0 0), (.int 0 0), (.int 0 0), (.ref 90), (.bool false), (.int 181 0), (.ref 91), .none, .none, .none, .none, (.int 285 0), (.int 27 0), (.str (Str.ofString "/claim/cut.py") 286)]), #[]⟩)
noncomputable def o245 : ((x0 : @PySem.Params) → @PySem.Obj) := (fun (x0 : @PySem.Params) => ⟨(.type "tuple"), none, (.seq #[(.str (Str.ofString "self") 353)] 0), #[]⟩)
noncomputable def o70 : ((x0 : @PySem.Params) → @PySem.Obj) := (fun (x0 : @PySem.Params) => ⟨(.type "code"), none, (.fields #[(.str (Str.ofString "__init__") 208), (.str (Str.ofString "_tuplegetter.__init__") 209), (.str (Str.ofString "/claim/cut.py") 210), (.int 7 0), (.int 3 0), (.int 0 0), (.int 0 0), (.int 3 0), (.ref 29), (.bool true), (.int 181 0), (.ref 30), .none, (.ref 31), (.ref 32), (.ref 33), (.int 214 0), (.int 7 0), (.str (Str.ofString "/claim/cut.py") 215)]), #[]⟩)
noncomputable def o104 : ((x0 : @PySem.Params) → @PySem.Obj) := (fun (x0 : @PySem.Params) => ⟨(.type "builtin_function_or_method"), none, (.fields #[(.builtin "type.__prepare__"), (.type "type")]), #[]⟩)
noncomputable def o251 : ((x0 : @PySem.Params) → @PySem.Obj) := (fun (x0 : @PySem.Params) => ⟨.none, none, (.fields #[]), #[]⟩)
noncomputable def o219 : ((x0 : @PySem.Params) → @PySem.Obj) := (fun (x0 : @PySem.Params) => ⟨.none, none, (.fields #[]), #[]⟩)
noncomputable def o86 : ((x0 : @PySem.Params) → @PySem.Obj) := (fun (x0 : @PySem.Params) => ⟨(.type "function"), none, (.func ⟨(Str.ofString "__set__"), (Str.ofString "_tuplegetter.__set__"), (fdA (sc 2 2)), (.stmts (fdB (sc 2 2))), (fdS (sc 2 2)), 3, [], .none, .none, .none, (.str (Str.ofString "cpy313.dis") 194), none, (.ref 49), .none, 0⟩), #[]⟩)
noncomputable def o120 : ((x0 : @PySem.Params) → @PySem.Obj) := (fun (x0 : @PySem.Params) => ⟨(.type "getset_descriptor"), none, (.fields #[(.str (Str.ofString "__dict__") 273), (.ref 81), (.builtin "function.__dict__"), (.builtin "function.__dict__#set")]), #[]⟩)
noncomputable def o235 : ((x0 : @PySem.Params) → @PySem.Obj) := (fun (x0 : @PySem.Params) => ⟨(.type "tuple"), none, (.seq #[(.ref 89)] 0), #[]⟩)
noncomputable def o62 : ((x0 : @PySem.Params) → @PySem.Obj) := (fun (x0 : @PySem.Params) => ⟨.none, none, (.fields #[(.int 7 0), (.int 4 0), (.ref 34), (.int 11 0), (.int 4 0), (.ref 42), (.int 18 0), (.int 4 0), (.ref 49), (.int 21 0), (.int 4 0), (.ref 56)]), #[]⟩)
noncomputable def o78 : ((x0 : @PySem.Params) → @PySem.Obj) := (fun (x0 : @PySem.Params) => ⟨(.type "code"), none, (.fields #[(.str (Str.ofString "__get__") 217), (.str (Str.ofString "_tuplegetter.__get__") 218), (.str (Str.ofString "/claim/cut.py") 219), (.int 11 0), (.int 3 0), (.int 0 0), (.int 0 0), (.int 3 0), (.ref 37), (.bool true), (.int 181 0), (.ref 38), .none, (.ref 39), (.ref 40), (.ref 41), (.int 223 0), (.int 11 0), (.str (Str.ofString "/claim/cut.py") 224)]), #[]⟩)
noncomputable def o112 : ((x0 : @PySem.Params) → @PySem.Obj) := (fun (x0 : @PySem.Params) => ⟨(.type "tuple"), none, (.seq #[(.str (Str.ofString "self") 268)] 0), #[]⟩)
noncomputable def o227 : ((x0 : @PySem.Params) → @PySem.Obj) := (fun (x0 : @PySem.Params) => ⟨(.type "tuple"), none, (.seq #[(.str (Str.ofString "cls") 319), (.str (Str.ofString "iterable") 320), (.str (Str.ofString "result") 321)] 0), #[]⟩)
noncomputable def o94 : ((x0 : @PySem.Params) → @PySem.Obj) := (fun (x0 : @PySem.Params) => ⟨(.type "tuple"), none, (.seq #[(.str (Str.ofString "__doc__") 243), (.str (Str.ofString "index") 244)] 0), #[]⟩)
noncomputable def o211 : ((x0 : @PySem.Params) → @PySem.Obj) := (fun (x0 : @PySem.Params) => ⟨(.type "tuple"), none, (.seq #[] 0), #[]⟩)
noncomputable def o243 : ((x0 : @PySem.Params) → @PySem.Obj) := (fun (x0 : @PySem.Params) => ⟨(.type "tuple"), none, (.seq #[] 0), #[]⟩)
noncomputable def o46 : ((x0 : @PySem.Params) → @PySem.Obj) := (fun (x0 : @PySem.Params) => ⟨(.type "frame"), none, .plain, #[(some (.ref 13)), (some (.ref 3)), (some (.ref 3)), none, (some (.str (Str.ofString "__main__") 164)), none, (some (.ref 0))]⟩)
noncomputable def o58 : ((x0 : @PySem.Params) → @PySem.Obj) := (fun (x0 : @PySem.Params) => ⟨(.type "tuple"), none, (.seq #[] 0), #[]⟩)
noncomputable def o74 : ((x0 : @PySem.Params) → @PySem.Obj) := (fun (x0 : @PySem.Params) => ⟨.none, none, (.fields #[]), #[]⟩)
noncomputable def o108 : ((x0 : @PySem.Params) → @PySem.Obj) := (fun (x0 : @PySem.Params) => ⟨(.type "code"), none, (.fields #[(.str (Str.ofString "_Unknown") 255), (.str (Str.ofString "_Unknown") 256), (.str (Str.ofString "/claim/cut.py") 257), (.int 23 0), (.int 0 0), (.int 0 0), (.int 0 0), (.int 0 0), (.ref 68), (.bool false), (.int 181 0), (.ref 69), .none, .none, .none, .none, (.int 258 0), (.int 23 0), (.str (Str.ofString "/claim/cut.py") 259)]), #[]⟩)
noncomputable def o223 : ((x0 : @PySem.Params) → @PySem.Obj) := (fun (x0 : @PySem.Params) => ⟨(.type "code"), none, (.fields #[(.str (Str.ofString "__new__") 303), (.str (Str.ofString "_ExceptionTableEntryBase.__new__") 304), (.str (Str.ofString "/claim/cut.py") 305), (.int 33 0), (.int 6 0), (.int 0 0), (.int 0 0), (.int 3 0), (.ref 97), (.bool true), (.int 181 0), (.ref 98), .none, (.ref 99), (.ref 100), (.ref 101), (.int 312 0), (.int 33 0), (.str (Str.ofString "/claim/cut.py") 313)]), #[]⟩)
noncomputable def o90 : ((x0 : @PySem.Params) → @PySem.Obj) := (fun (x0 : @PySem.Params) => ⟨(.type "tuple"), none, (.seq #[] 0), #[]⟩)
noncomputable def o207 : ((x0 : @PySem.Params) → @PySem.Obj) := (fun (x0 : @PySem.Params) => ⟨(.type "tuple"), none, (.seq #[(.type "tuple")] 0), #[]⟩)
noncomputable def o239 : ((x0 : @PySem.Params) → @PySem.Obj) := (fun (x0 : @PySem.Params) => ⟨(.type "tuple"), none, (.seq #[] 0), #[]⟩)
noncomputable def o66 : ((x0 : @PySem.Params) → @PySem.Obj) := (fun (x0 : @PySem.Params) => ⟨.none, none, (.fields #[]), #[]⟩)
noncomputable def o82 : ((x0 : @PySem.Params) → @PySem.Obj) := (fun (x0 : @PySem.Params) => ⟨(.type "tuple"), none, (.seq #[(.str (Str.ofString "self") 229), (.str (Str.ofString "obj") 230), (.str (Str.ofString "value") 231)] 0), #[]⟩)
noncomputable def o116 : ((x0 : @PySem.Params) → @PySem.Obj) := (fun (x0 : @PySem.Params) => ⟨(.type "function"), none, (.func ⟨(Str.ofString "__repr__"), (Str.ofString "_Unknown.__repr__"), (fdA (sc 3 0)), (.stmts (fdB (sc 3 0))), (fdS (sc 3 0)), 3, [], .none, .none, .none, (.str (Str.ofString "cpy313.dis") 194), none, (.ref 77), .none, 0⟩), #[]⟩)
noncomputable def o231 : ((x0 : @PySem.Params) → @PySem.Obj) := (fun (x0 : @PySem.Params) => ⟨(.type "function"), none, (.func ⟨(Str.ofString "_make"), (Str.ofString "_ExceptionTableEntryBase._make"), (fdA (sc 4 5)), (.stmts (fdB (sc 4 5))), (fdS (sc 4 5)), 3, [], .none, .none, (.str (Str.ofString "Make a new _ExceptionTableEntryBase object from a sequence or iterable") 324), (.str (Str.ofString "cpy313.dis") 194), (some 113), (.ref 109), .none, 0⟩), #[]⟩)
noncomputable def o98 : ((x0 : @PySem.Params) → @PySem.Obj) := (fun (x0 : @PySem.Params) => ⟨(.type "getset_descriptor"), none, (.fields #[(.str (Str.ofString "__weakref__") 248), (.ref 60), (.builtin "ExceptionGroup.__weakref__"), .none]), #[]⟩)
noncomputable def o215 : ((x0 : @PySem.Params) → @PySem.Obj) := (fun (x0 : @PySem.Params) => ⟨(.type "tuple"), none, (.seq #[] 0), #[]⟩)
noncomputable def t254 : ((x0 : @PySem.Params) → @PySem.W.BT) := (fun (x0 : @PySem.Params) => (.node (@PySem.W.boot_o_0 x0) (.node (@PySem.W.boot_o_1 x0) (.node (o101 x0) (.node (@PySem.W.boot_o_7 x0) (.node (o51 x0) (.node (o67 x0) (.node (o99 x0) (.node (o248 x0) .nil .nil) .nil) (.node (o216 x0) .nil .nil)) (.node (o83 x0) (.node (o117 x0) .nil .nil) (.node (o232 x0) .nil .nil))) (.node (o59 x0) (.node (o75 x0) (.node (o109 x0) .nil .nil) (.node (o224 x0) .nil .nil)) (.node (o91 x0) (.node (o208 x0) .nil .nil) (.node (o240 x0) .nil .nil)))) (.node (o43 x0) (.node (o55 x0) (.node (o71 x0) (.node (o105 x0) (.node (o252 x0) .nil .nil) .nil) (.node (o220 x0) .nil .nil)) (.node (o87 x0) (.node (o121 x0) .nil .nil) (.node (o236 x0) .nil .nil))) (.node (o63 x0) (.node (o79 x0) (.node (o113 x0) .nil .nil) (.node (o228 x0) .nil .nil)) (.node (o95 x0) (.node (o212 x0) .nil .nil) (.node (o244 x0) .nil .nil))))) (.node (@PySem.W.boot_o_5 x0) (.node (@PySem.W.boot_o_9 x0) (.node (o53 x0) (.node (o69 x0) (.node (o103 x0) (.node (o250 x0) .nil .nil) .nil) (.node (o218 x0) .nil .nil)) (.node (o85 x0) (.node (o119 x0) .nil .nil) (.node (o234 x0) .nil .nil))) (.node (o61 x0) (.node (o77 x0) (.node (o111 x0) .nil .nil) (.node (o226 x0) .nil .nil)) (.node (o93 x0) (.node (o210 x0) .nil .nil) (.node (o242 x0) .nil .nil)))) (.node (o45 x0) (.node (o57 x0) (.node (o73 x0) (.node (o107 x0) (.node (o254 x0) .nil .nil) .nil) (.node (o222 x0) .nil .nil)) (.node (o89 x0) (.node (o123 x0) .nil .nil) (.node (o238 x0) .nil .nil))) (.node (o65 x0) (.node (o81 x0) (.node (o115 x0) .nil .nil) (.node (o230 x0) .nil .nil)) (.node (o97 x0) (.node (o214 x0) .nil .nil) (.node (o246 x0) .nil .nil)))))) (.node (@PySem.W.boot_o_2 x0) (.node (@PySem.W.boot_o_4 x0) (.node (@PySem.W.boot_o_8 x0) (.node (o52 x0) (.node (o68 x0) (.node (o100 x0) (.node (o249 x0) .nil .nil) .nil) (.node (o217 x0) .nil .nil)) (.node (o84 x0) (.node (o118 x0) .nil .nil) (.node (o233 x0) .nil .nil))) (.node (o60 x0) (.node (o76 x0) (.node (o110 x0) .nil .nil) (.node (o225 x0) .nil .nil)) (.node (o92 x0) (.node (o209 x0) .nil .nil) (.node (o241 x0) .nil .nil)))) (.node (o206 x0) (.node (o56 x0) (.node (o72 x0) (.node (o106 x0) (.node (o253 x0) .nil .nil) .nil) (.node (o221 x0) .nil .nil)) (.node (o88 x0) (.node (o122 x0) .nil .nil) (.node (o237 x0) .nil .nil))) (.node (o64 x0) (.node (o80 x0) (.node (o114 x0) .nil .nil) (.node (o229 x0) .nil .nil)) (.node (o96 x0) (.node (o213 x0) .nil .nil) (.node (o245 x0) .nil .nil))))) (.node (@PySem.W.boot_o_6 x0) (.node (@PySem.W.boot_o_10 x0) (.node (o54 x0) (.node (o70 x0) (.node (o104 x0) (.node (o251 x0) .nil .nil) .nil) (.node (o219 x0) .nil .nil)) (.node (o86 x0) (.node (o120 x0) .nil .nil) (.node (o235 x0) .nil .nil))) (.node (o62 x0) (.node (o78 x0) (.node (o112 x0) .nil .nil) (.node (o227 x0) .nil .nil)) (.node (o94 x0) (.node (o211 x0) .nil .nil) (.node (o243 x0) .nil .nil)))) (.node (o46 x0) (.node (o58 x0) (.node (o74 x0) (.node (o108 x0) .nil .nil) (.node (o223 x0) .nil .nil)) (.node (o90 x0) (.node (o207 x0) .nil .nil) (.node (o239 x0) .nil .nil))) (.node (o66 x0) (.node (o82 x0) (.node (o116 x0) .nil .nil) (.node (o231 x0) .nil .nil)) (.node (o98 x0) (.node (o215 x0) .nil .nil) (.node (o247 x0) .nil .nil))))))))
noncomputable def o180 : ((x0 : @PySem.Params) → @PySem.Obj) := (fun (x0 : @PySem.Params) => ⟨.none, none, (.func ⟨(Str.ofString "__getnewargs__"), (Str.ofString "_ExceptionTableEntryBase.__getnewargs__"), (fdA (sc 4 10)), (.stmts (fdB (sc 4 10))), (fdS (sc 4 10)), 0, [], .none, .none, .none, .none, none, .none, .none, 0⟩), #[]⟩)
noncomputable def o297 : ((x0 : @PySem.Params) → @PySem.Obj) := (fun (x0 : @PySem.Params) => ⟨(.type "tuple"), none, (.seq #[(.str (Str.ofString "iterator") 455), (.str (Str.ofString "b") 456), (.str (Str.ofString "val") 457)] 0), #[]⟩)
noncomputable def o327 : ((x0 : @PySem.Params) → @PySem.Obj) := (fun (x0 : @PySem.Params) => ⟨(.type "function"), none, (.func ⟨(Str.ofString "_law_least"), (Str.ofString "_law_least"), (fdA (st 11)), (.stmts (fdB (st 11))), (fdS (st 11)), 3, [], .none, .none, .none, (.str (Str.ofString "law_io0064_05") 477), none, (.ref 210), .none, 0⟩), #[]⟩)
noncomputable def o182 : ((x0 : @PySem.Params) → @PySem.Obj) := (fun (x0 : @PySem.Params) => ⟨(.type "function"), none, (.func ⟨(Str.ofString "__getnewargs__"), (Str.ofString "_ExceptionTableEntryBase.__getnewargs__"), (fdA (sc 4 10)), (.stmts (fdB (sc 4 10))), (fdS (sc 4 10)), 3, [], .none, .none, (.str (Str.ofString "Return self as a plain tuple.  Used by copy and pickle.") 371), (.str (Str.ofString "cpy313.dis") 194), none, (.ref 141), .none, 0⟩), #[]⟩)
noncomputable def o170 : ((x0 : @PySem.Params) → @PySem.Obj) := (fun (x0 : @PySem.Params) => ⟨.none, none, (.fields #[]), #[]⟩)
noncomputable def l101 : (@List @PySem.Stmt) := [(st 3)]
noncomputable def o124 : ((x0 : @PySem.Params) → @PySem.Obj) := (fun (x0 : @PySem.Params) => ⟨(.type "dict"), none, (.dict #[⟨(@PySem.PyData.keyHash x0 (Str.ofString "__name__")), (.str (Str.ofString "__name__") 165), (.str (Str.ofString "cpy313.dis") 194)⟩, ⟨(@PySem.PyData.keyHash x0 (Str.ofString "__doc__")), (.str (Str.ofString "__doc__") 166), .none⟩, ⟨(@PySem.PyData.keyHash x0 (Str.ofString "__package__")), (.str (Str.ofString "__package__") 167), .none⟩, ⟨(@PySem.PyData.keyHash x0 (Str.ofString "__loader__")), (.str (Str.ofString "__loader__") 168), (.builtin "__main__.__loader__#opaque")⟩, ⟨(@PySem.PyData.keyHash x0 (Str.ofString "__spec__")), (.str (Str.ofString "__spec__") 169), .none⟩, ⟨(@PySem.PyData.keyHash x0 (Str.ofString "__annotations__")), (.str (Str.ofString "__annotations__") 170), (.ref 6)⟩, ⟨(@PySem.PyData.keyHash x0 (Str.ofString "__builtins__")), (.str (Str.ofString "__builtins__") 171), (.ref 4)⟩, ⟨(@PySem.PyData.keyHash x0 (Str.ofString "__file__")), (.str (Str.ofString "__file__") 173), (.str (Str.ofString "/claim/cut.py") 172)⟩, ⟨(@PySem.PyData.keyHash x0 (Str.ofString "__cached__")), (.str (Str.ofString "__cached__") 174), .none⟩, ⟨(@PySem.PyData.keyHash x0 (Str.ofString "_wall")), (.str (Str.ofString "_wall") 193), (.ref 21)⟩, ⟨(@PySem.PyData.keyHash x0 (Str.ofString "_tuplegetter")), (.str (Str.ofString "_tuplegetter") 252), (.ref 60)⟩, ⟨(@PySem.PyData.keyHash x0 (Str.ofString "_Unknown")), (.str (Str.ofString "_Unknown") 279), (.ref 81)⟩, ⟨(@PySem.PyData.keyHash x0 (Str.ofString "_ExceptionTableEntryBase")), (.str (Str.ofString "_ExceptionTableEntryBase") 433), (.ref 162)⟩] 13), #[]⟩)
noncomputable def o156 : ((x0 : @PySem.Params) → @PySem.Obj) := (fun (x0 : @PySem.Params) => ⟨.none, none, (.fields #[]), #[]⟩)
noncomputable def o159 : ((x0 : @PySem.Params) → @PySem.Obj) := (fun (x0 : @PySem.Params) => ⟨.none, none, (.func ⟨(Str.ofString "_replace"), (Str.ofString "_ExceptionTableEntryBase._replace"), (fdA (sc 4 6)), (.stmts (fdB (sc 4 6))), (fdS (sc 4 6)), 0, [], .none, .none, .none, .none, none, .none, .none, 0⟩), #[]⟩)
noncomputable def o328 : ((x0 : @PySem.Params) → @PySem.Obj) := (fun (x0 : @PySem.Params) => ⟨(.type "dict"), none, (.dict #[⟨(@PySem.PyData.keyHash x0 (Str.ofString "__name__")), (.str (Str.ofString "__name__") 165), (.str (Str.ofString "law_io0064_05") 477)⟩, ⟨(@PySem.PyData.keyHash x0 (Str.ofString "__doc__")), (.str (Str.ofString "__doc__") 166), .none⟩, ⟨(@PySem.PyData.keyHash x0 (Str.ofString "__package__")), (.str (Str.ofString "__package__") 167), .none⟩, ⟨(@PySem.PyData.keyHash x0 (Str.ofString "__loader__")), (.str (Str.ofString "__loader__") 168), (.builtin "__main__.__loader__#opaque")⟩, ⟨(@PySem.PyData.keyHash x0 (Str.ofString "__spec__")), (.str (Str.ofString "__spec__") 169), .none⟩, ⟨(@PySem.PyData.keyHash x0 (Str.ofString "__annotations__")), (.str (Str.ofString "__annotations__") 170), (.ref 6)⟩, ⟨(@PySem.PyData.keyHash x0 (Str.ofString "__builtins__")), (.str (Str.ofString "__builtins__") 171), (.ref 4)⟩, ⟨(@PySem.PyData.keyHash x0 (Str.ofString "__file__")), (.str (Str.ofString "__file__") 173), (.str (Str.ofString "/claim/cut.py") 172)⟩, ⟨(@PySem.PyData.keyHash x0 (Str.ofString "__cached__")), (.str (Str.ofString "__cached__") 174), .none⟩, ⟨(@PySem.PyData.keyHash x0 (Str.ofString "_wall")), (.str (Str.ofString "_wall") 193), (.ref 21)⟩, ⟨(@PySem.PyData.keyHash x0 (Str.ofString "_tuplegetter")), (.str (Str.ofString "_tuplegetter") 252), (.ref 60)⟩, ⟨(@PySem.PyData.keyHash x0 (Str.ofString "_Unknown")), (.str (Str.ofString "_Unknown") 279), (.ref 81)⟩, ⟨(@PySem.PyData.keyHash x0 (Str.ofString "_ExceptionTableEntryBase")), (.str (Str.ofString "_ExceptionTableEntryBase") 433), (.ref 162)⟩, ⟨(@PySem.PyData.keyHash x0 (Str.ofString "_ExceptionTableEntry")), (.str (Str.ofString "_ExceptionTableEntry") 451), (.ref 175)⟩, ⟨(@PySem.PyData.keyHash x0 (Str.ofString "_parse_varint")), (.str (Str.ofString "_parse_varint") 460), (.ref 185)⟩, ⟨(@PySem.PyData.keyHash x0 (Str.ofString "_parse_exception_table")), (.str (Str.ofString "_parse_exception_table") 476), (.ref 192)⟩, ⟨(@PySem.PyData.keyHash x0 (Str.ofString "_law_read")), (.str (Str.ofString "_law_read") 486), (.ref 199)⟩, ⟨(@PySem.PyData.keyHash x0 (Str.ofString "_law_write")), (.str (Str.ofString "_law_write") 494), (.ref 206)⟩, ⟨(@PySem.PyData.keyHash x0 (Str.ofString "_law_least")), (.str (Str.ofString "_law_least") 500), (.ref 211)⟩, ⟨(@PySem.PyData.keyHash x0 (Str.ofString "law")), (.str (Str.ofString "law") 506), (.ref 216)⟩] 20), #[]⟩)
noncomputable def o201 : ((x0 : @PySem.Params) → @PySem.Obj) := (fun (x0 : @PySem.Params) => ⟨(.type "dict"), none, (.dict #[⟨(@PySem.PyData.keyHash x0 (Str.ofString "__module__")), (.str (Str.ofString "__module__") 287), (.str (Str.ofString "cpy313.dis") 194)⟩, ⟨(@PySem.PyData.keyHash x0 (Str.ofString "__firstlineno__")), (.str (Str.ofString "__firstlineno__") 291), (.int 27 290)⟩, ⟨(@PySem.PyData.keyHash x0 (Str.ofString "__doc__")), (.str (Str.ofString "__doc__") 293), (.str (Str.ofString "_ExceptionTableEntryBase(start, end, target, depth, lasti)") 292)⟩, ⟨(@PySem.PyData.keyHash x0 (Str.ofString "__slots__")), (.str (Str.ofString "__slots__") 295), (.ref 94)⟩, ⟨(@PySem.PyData.keyHash x0 (Str.ofString "_fields")), (.str (Str.ofString "_fields") 301), (.ref 95)⟩, ⟨(@PySem.PyData.keyHash x0 (Str.ofString "_field_defaults")), (.str (Str.ofString "_field_defaults") 302), (.ref 96)⟩, ⟨(@PySem.PyData.keyHash x0 (Str.ofString "__new__")), (.str (Str.ofString "__new__") 315), (.ref 163)⟩, ⟨(@PySem.PyData.keyHash x0 (Str.ofString "_make")), (.str (Str.ofString "_make") 337), (.ref 112)⟩, ⟨(@PySem.PyData.keyHash x0 (Str.ofString "_replace")), (.str (Str.ofString "_replace") 348), (.ref 121)⟩, ⟨(@PySem.PyData.keyHash x0 (Str.ofString "__replace__")), (.str (Str.ofString "__replace__") 349), (.ref 121)⟩, ⟨(@PySem.PyData.keyHash x0 (Str.ofString "__repr__")), (.str (Str.ofString "__repr__") 357), (.ref 128)⟩, ⟨(@PySem.PyData.keyHash x0 (Str.ofString "_asdict")), (.str (Str.ofString "_asdict") 364), (.ref 135)⟩, ⟨(@PySem.PyData.keyHash x0 (Str.ofString "__getnewargs__")), (.str (Str.ofString "__getnewargs__") 372), (.ref 142)⟩, ⟨(@PySem.PyData.keyHash x0 (Str.ofString "__match_args__")), (.str (Str.ofString "__match_args__") 378), (.ref 143)⟩, ⟨(@PySem.PyData.keyHash x0 (Str.ofString "start")), (.str (Str.ofString "start") 388), (.ref 145)⟩, ⟨(@PySem.PyData.keyHash x0 (Str.ofString "end")), (.str (Str.ofString "end") 398), (.ref 148)⟩, ⟨(@PySem.PyData.keyHash x0 (Str.ofString "target")), (.str (Str.ofString "target") 408), (.ref 151)⟩, ⟨(@PySem.PyData.keyHash x0 (Str.ofString "depth")), (.str (Str.ofString "depth") 418), (.ref 154)⟩, ⟨(@PySem.PyData.keyHash x0 (Str.ofString "lasti")), (.str (Str.ofString "lasti") 428), (.ref 157)⟩, ⟨(@PySem.PyData.keyHash x0 (Str.ofString "__static_attributes__")), (.str (Str.ofString "__static_attributes__") 429), (.ref 159)⟩] 2), #[]⟩)
noncomputable def o269 : ((x0 : @PySem.Params) → @PySem.Obj) := (fun (x0 : @PySem.Params) => ⟨(.type "frame"), none, (.dict #[⟨(@PySem.PyData.keyHash x0 (Str.ofString "self")), (.str (Str.ofString "self") 381), (.ref 145)⟩, ⟨(@PySem.PyData.keyHash x0 (Str.ofString "index")), (.str (Str.ofString "index") 382), (.int 0 379)⟩, ⟨(@PySem.PyData.keyHash x0 (Str.ofString "doc")), (.str (Str.ofString "doc") 383), (.str (Str.ofString "Alias for field number 0") 380)⟩] 3), #[]⟩)
noncomputable def o148 : ((x0 : @PySem.Params) → @PySem.Obj) := (fun (x0 : @PySem.Params) => ⟨.none, none, (.func ⟨(Str.ofString "_make"), (Str.ofString "_ExceptionTableEntryBase._make"), (fdA (sc 4 5)), (.stmts (fdB (sc 4 5))), (fdS (sc 4 5)), 0, [], .none, .none, .none, .none, none, .none, .none, 0⟩), #[]⟩)
noncomputable def o185 : ((x0 : @PySem.Params) → @PySem.Obj) := (fun (x0 : @PySem.Params) => ⟨(.ref 60), (some 144), .plain, #[]⟩)
noncomputable def o102 : ((x0 : @PySem.Params) → @PySem.Obj) := (fun (x0 : @PySem.Params) => ⟨.none, none, (.fields #[(.int 1 0), (.int 0 0), (.ref 20), (.int 5 0), (.int 0 0), (.ref 27), (.int 23 0), (.int 0 0), (.ref 70)]), #[]⟩)
noncomputable def t123 : ((x0 : @PySem.Params) → @PySem.W.BT) := (fun (x0 : @PySem.Params) => (.node (@PySem.W.boot_o_0 x0) (.node (@PySem.W.boot_o_1 x0) (.node (o101 x0) (.node (@PySem.W.boot_o_7 x0) (.node (o51 x0) (.node (o67 x0) (.node (o99 x0) .nil .nil) .nil) (.node (o83 x0) (.node (o117 x0) .nil .nil) .nil)) (.node (o59 x0) (.node (o75 x0) (.node (o109 x0) .nil .nil) .nil) (.node (o91 x0) .nil .nil))) (.node (o43 x0) (.node (o55 x0) (.node (o71 x0) (.node (o105 x0) .nil .nil) .nil) (.node (o87 x0) (.node (o121 x0) .nil .nil) .nil)) (.node (o63 x0) (.node (o79 x0) (.node (o113 x0) .nil .nil) .nil) (.node (o95 x0) .nil .nil)))) (.node (@PySem.W.boot_o_5 x0) (.node (@PySem.W.boot_o_9 x0) (.node (o53 x0) (.node (o69 x0) (.node (o103 x0) .nil .nil) .nil) (.node (o85 x0) (.node (o119 x0) .nil .nil) .nil)) (.node (o61 x0) (.node (o77 x0) (.node (o111 x0) .nil .nil) .nil) (.node (o93 x0) .nil .nil))) (.node (o45 x0) (.node (o57 x0) (.node (o73 x0) (.node (o107 x0) .nil .nil) .nil) (.node (o89 x0) (.node (o123 x0) .nil .nil) .nil)) (.node (o65 x0) (.node (o81 x0) (.node (o115 x0) .nil .nil) .nil) (.node (o97 x0) .nil .nil))))) (.node (@PySem.W.boot_o_2 x0) (.node (@PySem.W.boot_o_4 x0) (.node (@PySem.W.boot_o_8 x0) (.node (o52 x0) (.node (o68 x0) (.node (o100 x0) .nil .nil) .nil) (.node (o84 x0) (.node (o118 x0) .nil .nil) .nil)) (.node (o60 x0) (.node (o76 x0) (.node (o110 x0) .nil .nil) .nil) (.node (o92 x0) .nil .nil))) (.node (o102 x0) (.node (o56 x0) (.node (o72 x0) (.node (o106 x0) .nil .nil) .nil) (.node (o88 x0) (.node (o122 x0) .nil .nil) .nil)) (.node (o64 x0) (.node (o80 x0) (.node (o114 x0) .nil .nil) .nil) (.node (o96 x0) .nil .nil)))) (.node (@PySem.W.boot_o_6 x0) (.node (@PySem.W.boot_o_10 x0) (.node (o54 x0) (.node (o70 x0) (.node (o104 x0) .nil .nil) .nil) (.node (o86 x0) (.node (o120 x0) .nil .nil) .nil)) (.node (o62 x0) (.node (o78 x0) (.node (o112 x0) .nil .nil) .nil) (.node (o94 x0) .nil .nil))) (.node (o46 x0) (.node (o58 x0) (.node (o74 x0) (.node (o108 x0) .nil .nil) .nil) (.node (o90 x0) .nil .nil)) (.node (o66 x0) (.node (o82 x0) (.node (o116 x0) .nil .nil) .nil) (.node (o98 x0) .nil .nil)))))))
noncomputable def o319 : ((x0 : @PySem.Params) → @PySem.Obj) := (fun (x0 : @PySem.Params) => ⟨(.type "tuple"), none, (.seq #[] 0), #[]⟩)
noncomputable def o307 : ((x0 : @PySem.Params) → @PySem.Obj) := (fun (x0 : @PySem.Params) => ⟨(.type "code"), none, (.fields #[(.str (Str.ofString "_parse_exception_table") 461), (.str (Str.ofString "_parse_exception_table") 462), (.str (Str.ofString "/claim/cut.py") 463), (.int 82 0), (.int 1 0), (.int 0 0), (.int 0 0), (.int 3 0), (.ref 186), (.bool true), (.int 181 0), (.ref 187), .none, (.ref 188), (.ref 189), (.ref 190), (.int 474 0), (.int 82 0), (.str (Str.ofString "/claim/cut.py") 475)]), #[]⟩)
noncomputable def o325 : ((x0 : @PySem.Params) → @PySem.Obj) := (fun (x0 : @PySem.Params) => ⟨.none, none, (.func ⟨(Str.ofString "_law_least"), (Str.ofString "_law_least"), (fdA (st 11)), (.stmts (fdB (st 11))), (fdS (st 11)), 0, [], .none, .none, .none, .none, none, .none, .none, 0⟩), #[]⟩)
noncomputable def o190 : ((x0 : @PySem.Params) → @PySem.Obj) := (fun (x0 : @PySem.Params) => ⟨(.type "dict"), none, (.dict #[⟨(@PySem.PyData.keyHash x0 (Str.ofString "index")), (.str (Str.ofString "index") 405), (.int 2 399)⟩, ⟨(@PySem.PyData.keyHash x0 (Str.ofString "__doc__")), (.str (Str.ofString "__doc__") 407), (.str (Str.ofString "Alias for field number 2") 400)⟩] 2), #[]⟩)
noncomputable def o295 : ((x0 : @PySem.Params) → @PySem.Obj) := (fun (x0 : @PySem.Params) => ⟨(.type "tuple"), none, (.seq #[] 0), #[]⟩)
noncomputable def o266 : ((x0 : @PySem.Params) → @PySem.Obj) := (fun (x0 : @PySem.Params) => ⟨(.type "tuple"), none, (.seq #[(.str (Str.ofString "start") 373), (.str (Str.ofString "end") 374), (.str (Str.ofString "target") 375), (.str (Str.ofString "depth") 376), (.str (Str.ofString "lasti") 377)] 0), #[]⟩)
noncomputable def o258 : ((x0 : @PySem.Params) → @PySem.Obj) := (fun (x0 : @PySem.Params) => ⟨(.type "function"), none, (.func ⟨(Str.ofString "_asdict"), (Str.ofString "_ExceptionTableEntryBase._asdict"), (fdA (sc 4 9)), (.stmts (fdB (sc 4 9))), (fdS (sc 4 9)), 3, [], .none, .none, .none, (.str (Str.ofString "cpy313.dis") 194), none, (.ref 134), .none, 0⟩), #[]⟩)
noncomputable def o274 : ((x0 : @PySem.Params) → @PySem.Obj) := (fun (x0 : @PySem.Params) => ⟨(.ref 60), (some 150), .plain, #[]⟩)
noncomputable def o270 : ((x0 : @PySem.Params) → @PySem.Obj) := (fun (x0 : @PySem.Params) => ⟨(.type "dict"), none, (.dict #[⟨(@PySem.PyData.keyHash x0 (Str.ofString "index")), (.str (Str.ofString "index") 395), (.int 1 389)⟩, ⟨(@PySem.PyData.keyHash x0 (Str.ofString "__doc__")), (.str (Str.ofString "__doc__") 397), (.str (Str.ofString "Alias for field number 1") 390)⟩] 2), #[]⟩)
noncomputable def o262 : ((x0 : @PySem.Params) → @PySem.Obj) := (fun (x0 : @PySem.Params) => ⟨(.type "tuple"), none, (.seq #[] 0), #[]⟩)
noncomputable def o268 : ((x0 : @PySem.Params) → @PySem.Obj) := (fun (x0 : @PySem.Params) => ⟨(.ref 60), (some 144), .plain, #[]⟩)
noncomputable def o260 : ((x0 : @PySem.Params) → @PySem.Obj) := (fun (x0 : @PySem.Params) => ⟨.none, none, (.fields #[]), #[]⟩)
noncomputable def o272 : ((x0 : @PySem.Params) → @PySem.Obj) := (fun (x0 : @PySem.Params) => ⟨(.type "frame"), none, (.dict #[⟨(@PySem.PyData.keyHash x0 (Str.ofString "self")), (.str (Str.ofString "self") 391), (.ref 148)⟩, ⟨(@PySem.PyData.keyHash x0 (Str.ofString "index")), (.str (Str.ofString "index") 392), (.int 1 389)⟩, ⟨(@PySem.PyData.keyHash x0 (Str.ofString "doc")), (.str (Str.ofString "doc") 393), (.str (Str.ofString "Alias for field number 1") 390)⟩] 3), #[]⟩)
noncomputable def o264 : ((x0 : @PySem.Params) → @PySem.Obj) := (fun (x0 : @PySem.Params) => ⟨(.type "code"), none, (.fields #[(.str (Str.ofString "__getnewargs__") 365), (.str (Str.ofString "_ExceptionTableEntryBase.__getnewargs__") 366), (.str (Str.ofString "/claim/cut.py") 367), (.int 63 0), (.int 1 0), (.int 0 0), (.int 0 0), (.int 3 0), (.ref 136), (.bool true), (.int 181 0), (.ref 137), .none, (.ref 138), (.ref 139), (.ref 140), (.int 369 0), (.int 63 0), (.str (Str.ofString "/claim/cut.py") 370)]), #[]⟩)
noncomputable def o267 : ((x0 : @PySem.Params) → @PySem.Obj) := (fun (x0 : @PySem.Params) => ⟨(.type "dict"), none, (.dict #[⟨(@PySem.PyData.keyHash x0 (Str.ofString "index")), (.str (Str.ofString "index") 385), (.int 0 379)⟩, ⟨(@PySem.PyData.keyHash x0 (Str.ofString "__doc__")), (.str (Str.ofString "__doc__") 387), (.str (Str.ofString "Alias for field number 0") 380)⟩] 2), #[]⟩)
noncomputable def o259 : ((x0 : @PySem.Params) → @PySem.Obj) := (fun (x0 : @PySem.Params) => ⟨(.type "tuple"), none, (.seq #[] 0), #[]⟩)
noncomputable def o255 : ((x0 : @PySem.Params) → @PySem.Obj) := (fun (x0 : @PySem.Params) => ⟨(.type "dict"), none, (.dict #[⟨(@PySem.PyData.keyHash x0 (Str.ofString "__module__")), (.str (Str.ofString "__module__") 287), (.str (Str.ofString "cpy313.dis") 194)⟩, ⟨(@PySem.PyData.keyHash x0 (Str.ofString "__qualname__")), (.str (Str.ofString "__qualname__") 289), (.str (Str.ofString "_ExceptionTableEntryBase") 288)⟩, ⟨(@PySem.PyData.keyHash x0 (Str.ofString "__firstlineno__")), (.str (Str.ofString "__firstlineno__") 291), (.int 27 290)⟩, ⟨(@PySem.PyData.keyHash x0 (Str.ofString "__doc__")), (.str (Str.ofString "__doc__") 293), (.str (Str.ofString "_ExceptionTableEntryBase(start, end, target, depth, lasti)") 292)⟩, ⟨(@PySem.PyData.keyHash x0 (Str.ofString "__slots__")), (.str (Str.ofString "__slots__") 295), (.ref 94)⟩, ⟨(@PySem.PyData.keyHash x0 (Str.ofString "_fields")), (.str (Str.ofString "_fields") 301), (.ref 95)⟩, ⟨(@PySem.PyData.keyHash x0 (Str.ofString "_field_defaults")), (.str (Str.ofString "_field_defaults") 302), (.ref 96)⟩, ⟨(@PySem.PyData.keyHash x0 (Str.ofString "__new__")), (.str (Str.ofString "__new__") 315), (.ref 103)⟩, ⟨(@PySem.PyData.keyHash x0 (Str.ofString "_make")), (.str (Str.ofString "_make") 337), (.ref 112)⟩, ⟨(@PySem.PyData.keyHash x0 (Str.ofString "_replace")), (.str (Str.ofString "_replace") 348), (.ref 121)⟩, ⟨(@PySem.PyData.keyHash x0 (Str.ofString "__replace__")), (.str (Str.ofString "__replace__") 349), (.ref 121)⟩, ⟨(@PySem.PyData.keyHash x0 (Str.ofString "__repr__")), (.str (Str.ofString "__repr__") 357), (.ref 128)⟩, ⟨(@PySem.PyData.keyHash x0 (Str.ofString "_asdict")), (.str (Str.ofString "_asdict") 364), (.ref 135)⟩, ⟨(@PySem.PyData.keyHash x0 (Str.ofString "__getnewargs__")), (.str (Str.ofString "__getnewargs__") 372), (.ref 142)⟩, ⟨(@PySem.PyData.keyHash x0 (Str.ofString "__match_args__")), (.str (Str.ofString "__match_args__") 378), (.ref 143)⟩, ⟨(@PySem.PyData.keyHash x0 (Str.ofString "start")), (.str (Str.ofString "start") 388), (.ref 145)⟩, ⟨(@PySem.PyData.keyHash x0 (Str.ofString "end")), (.str (Str.ofString "end") 398), (.ref 148)⟩] 17), #[]⟩)
noncomputable def o275 : ((x0 : @PySem.Params) → @PySem.Obj) := (fun (x0 : @PySem.Params) => ⟨(.type "frame"), none, (.dict #[] 0), #[]⟩)
noncomputable def o271 : ((x0 : @PySem.Params) → @PySem.Obj) := (fun (x0 : @PySem.Params) => ⟨(.ref 60), (some 147), .plain, #[]⟩)
noncomputable def o263 : ((x0 : @PySem.Params) → @PySem.Obj) := (fun (x0 : @PySem.Params) => ⟨.none, none, (.func ⟨(Str.ofString "__getnewargs__"), (Str.ofString "_ExceptionTableEntryBase.__getnewargs__"), (fdA (sc 4 10)), (.stmts (fdB (sc 4 10))), (fdS (sc 4 10)), 0, [], .none, .none, .none, .none, none, .none, .none, 0⟩), #[]⟩)
noncomputable def o261 : ((x0 : @PySem.Params) → @PySem.Obj) := (fun (x0 : @PySem.Params) => ⟨(.type "tuple"), none, (.seq #[(.str (Str.ofString "self") 368)] 0), #[]⟩)
noncomputable def o257 : ((x0 : @PySem.Params) → @PySem.Obj) := (fun (x0 : @PySem.Params) => ⟨(.type "code"), none, (.fields #[(.str (Str.ofString "_asdict") 358), (.str (Str.ofString "_ExceptionTableEntryBase._asdict") 359), (.str (Str.ofString "/claim/cut.py") 360), (.int 60 0), (.int 1 0), (.int 0 0), (.int 0 0), (.int 3 0), (.ref 129), (.bool true), (.int 181 0), (.ref 130), .none, (.ref 131), (.ref 132), (.ref 133), (.int 362 0), (.int 60 0), (.str (Str.ofString "/claim/cut.py") 363)]), #[]⟩)
noncomputable def o273 : ((x0 : @PySem.Params) → @PySem.Obj) := (fun (x0 : @PySem.Params) => ⟨(.type "dict"), none, (.dict #[] 0), #[]⟩)
noncomputable def o265 : ((x0 : @PySem.Params) → @PySem.Obj) := (fun (x0 : @PySem.Params) => ⟨(.type "function"), none, (.func ⟨(Str.ofString "__getnewargs__"), (Str.ofString "_ExceptionTableEntryBase.__getnewargs__"), (fdA (sc 4 10)), (.stmts (fdB (sc 4 10))), (fdS (sc 4 10)), 3, [], .none, .none, (.str (Str.ofString "Return self as a plain tuple.  Used by copy and pickle.") 371), (.str (Str.ofString "cpy313.dis") 194), none, (.ref 141), .none, 0⟩), #[]⟩)
noncomputable def t275 : ((x0 : @PySem.Params) → @PySem.W.BT) := (fun (x0 : @PySem.Params) => (.node (@PySem.W.boot_o_0 x0) (.node (@PySem.W.boot_o_1 x0) (.node (o101 x0) (.node (@PySem.W.boot_o_7 x0) (.node (o51 x0) (.node (o67 x0) (.node (o99 x0) (.node (o248 x0) .nil .nil) .nil) (.node (o216 x0) .nil .nil)) (.node (o83 x0) (.node (o117 x0) (.node (o266 x0) .nil .nil) .nil) (.node (o232 x0) .nil .nil))) (.node (o59 x0) (.node (o75 x0) (.node (o109 x0) (.node (o258 x0) .nil .nil) .nil) (.node (o224 x0) .nil .nil)) (.node (o91 x0) (.node (o208 x0) (.node (o274 x0) .nil .nil) .nil) (.node (o240 x0) .nil .nil)))) (.node (o43 x0) (.node (o55 x0) (.node (o71 x0) (.node (o105 x0) (.node (o252 x0) .nil .nil) .nil) (.node (o220 x0) .nil .nil)) (.node (o87 x0) (.node (o121 x0) (.node (o270 x0) .nil .nil) .nil) (.node (o236 x0) .nil .nil))) (.node (o63 x0) (.node (o79 x0) (.node (o113 x0) (.node (o262 x0) .nil .nil) .nil) (.node (o228 x0) .nil .nil)) (.node (o95 x0) (.node (o256 x0) .nil .nil) (.node (o244 x0) .nil .nil))))) (.node (@PySem.W.boot_o_5 x0) (.node (@PySem.W.boot_o_9 x0) (.node (o53 x0) (.node (o69 x0) (.node (o103 x0) (.node (o250 x0) .nil .nil) .nil) (.node (o218 x0) .nil .nil)) (.node (o85 x0) (.node (o119 x0) (.node (o268 x0) .nil .nil) .nil) (.node (o234 x0) .nil .nil))) (.node (o61 x0) (.node (o77 x0) (.node (o111 x0) (.node (o260 x0) .nil .nil) .nil) (.node (o226 x0) .nil .nil)) (.node (o93 x0) (.node (o210 x0) .nil .nil) (.node (o242 x0) .nil .nil)))) (.node (o45 x0) (.node (o57 x0) (.node (o73 x0) (.node (o107 x0) (.node (o254 x0) .nil .nil) .nil) (.node (o222 x0) .nil .nil)) (.node (o89 x0) (.node (o123 x0) (.node (o272 x0) .nil .nil) .nil) (.node (o238 x0) .nil .nil))) (.node (o65 x0) (.node (o81 x0) (.node (o115 x0) (.node (o264 x0) .nil .nil) .nil) (.node (o230 x0) .nil .nil)) (.node (o97 x0) (.node (o214 x0) .nil .nil) (.node (o246 x0) .nil .nil)))))) (.node (@PySem.W.boot_o_2 x0) (.node (@PySem.W.boot_o_4 x0) (.node (@PySem.W.boot_o_8 x0) (.node (o52 x0) (.node (o68 x0) (.node (o100 x0) (.node (o249 x0) .nil .nil) .nil) (.node (o217 x0) .nil .nil)) (.node (o84 x0) (.node (o118 x0) (.node (o267 x0) .nil .nil) .nil) (.node (o233 x0) .nil .nil))) (.node (o60 x0) (.node (o76 x0) (.node (o110 x0) (.node (o259 x0) .nil .nil) .nil) (.node (o225 x0) .nil .nil)) (.node (o92 x0) (.node (o255 x0) (.node (o275 x0) .nil .nil) .nil) (.node (o241 x0) .nil .nil)))) (.node (o206 x0) (.node (o56 x0) (.node (o72 x0) (.node (o106 x0) (.node (o253 x0) .nil .nil) .nil) (.node (o221 x0) .nil .nil)) (.node (o88 x0) (.node (o122 x0) (.node (o271 x0) .nil .nil) .nil) (.node (o237 x0) .nil .nil))) (.node (o64 x0) (.node (o80 x0) (.node (o114 x0) (.node (o263 x0) .nil .nil) .nil) (.node (o229 x0) .nil .nil)) (.node (o96 x0) (.node (o213 x0) .nil .nil) (.node (o245 x0) .nil .nil))))) (.node (@PySem.W.boot_o_6 x0) (.node (@PySem.W.boot_o_10 x0) (.node (o54 x0) (.node (o70 x0) (.node (o104 x0) (.node (o251 x0) .nil .nil) .nil) (.node (o219 x0) .nil .nil)) (.node (o86 x0) (.node (o120 x0) (.node (o269 x0) .nil .nil) .nil) (.node (o235 x0) .nil .nil))) (.node (o62 x0) (.node (o78 x0) (.node (o112 x0) (.node (o261 x0) .nil .nil) .nil) (.node (o227 x0) .nil .nil)) (.node (o94 x0) (.node (o211 x0) .nil .nil) (.node (o243 x0) .nil .nil)))) (.node (o46 x0) (.node (o58 x0) (.node (o74 x0) (.node (o108 x0) (.node (o257 x0) .nil .nil) .nil) (.node (o223 x0) .nil .nil)) (.node (o90 x0) (.node (o207 x0) (.node (o273 x0) .nil .nil) .nil) (.node (o239 x0) .nil .nil))) (.node (o66 x0) (.node (o82 x0) (.node (o116 x0) (.node (o265 x0) .nil .nil) .nil) (.node (o231 x0) .nil .nil)) (.node (o98 x0) (.node (o215 x0) .nil .nil) (.node (o247 x0) .nil .nil))))))))
noncomputable def o203 : ((x0 : @PySem.Params) → @PySem.Obj) := (fun (x0 : @PySem.Params) => ⟨(.type "staticmethod"), none, (.fields #[(.ref 103)]), #[]⟩)
noncomputable def o129 : ((x0 : @PySem.Params) → @PySem.Obj) := (fun (x0 : @PySem.Params) => ⟨(.type "cell"), none, (.cell (some (.ref 162))), #[]⟩)
noncomputable def o205 : ((x0 : @PySem.Params) → @PySem.Obj) := (fun (x0 : @PySem.Params) => ⟨(.type "builtin_function_or_method"), none, (.fields #[(.builtin "object.__init_subclass__"), (.ref 162)]), #[]⟩)
noncomputable def o334 : ((x0 : @PySem.Params) → @PySem.Obj) := (fun (x0 : @PySem.Params) => ⟨(.type "function"), none, (.func ⟨(Str.ofString "law"), (Str.ofString "law"), (fdA (st 12)), (.stmts (fdB (st 12))), (fdS (st 12)), 3, [], .none, .none, .none, (.str (Str.ofString "law_io0064_05") 477), none, (.ref 215), .none, 0⟩), #[]⟩)
noncomputable def o191 : ((x0 : @PySem.Params) → @PySem.Obj) := (fun (x0 : @PySem.Params) => ⟨(.ref 60), (some 150), .plain, #[]⟩)
noncomputable def o155 : ((x0 : @PySem.Params) → @PySem.Obj) := (fun (x0 : @PySem.Params) => ⟨(.type "tuple"), none, (.seq #[(.str (Str.ofString "__class__") 341)] 0), #[]⟩)
noncomputable def o192 : ((x0 : @PySem.Params) → @PySem.Obj) := (fun (x0 : @PySem.Params) => ⟨(.type "frame"), none, (.dict #[⟨(@PySem.PyData.keyHash x0 (Str.ofString "self")), (.str (Str.ofString "self") 401), (.ref 151)⟩, ⟨(@PySem.PyData.keyHash x0 (Str.ofString "index")), (.str (Str.ofString "index") 402), (.int 2 399)⟩, ⟨(@PySem.PyData.keyHash x0 (Str.ofString "doc")), (.str (Str.ofString "doc") 403), (.str (Str.ofString "Alias for field number 2") 400)⟩] 3), #[]⟩)
noncomputable def o137 : ((x0 : @PySem.Params) → @PySem.Obj) := (fun (x0 : @PySem.Params) => ⟨(.type "tuple"), none, (.seq #[] 0), #[]⟩)
noncomputable def o318 : ((x0 : @PySem.Params) → @PySem.Obj) := (fun (x0 : @PySem.Params) => ⟨(.type "tuple"), none, (.seq #[(.str (Str.ofString "number") 490), (.str (Str.ofString "digits") 491)] 0), #[]⟩)
noncomputable def o184 : ((x0 : @PySem.Params) → @PySem.Obj) := (fun (x0 : @PySem.Params) => ⟨(.type "dict"), none, (.dict #[⟨(@PySem.PyData.keyHash x0 (Str.ofString "index")), (.str (Str.ofString "index") 385), (.int 0 379)⟩, ⟨(@PySem.PyData.keyHash x0 (Str.ofString "__doc__")), (.str (Str.ofString "__doc__") 387), (.str (Str.ofString "Alias for field number 0") 380)⟩] 2), #[]⟩)
noncomputable def o282 : ((x0 : @PySem.Params) → @PySem.Obj) := (fun (x0 : @PySem.Params) => ⟨(.type "tuple"), none, (.seq #[(.ref 162)] 0), #[]⟩)
noncomputable def o179 : ((x0 : @PySem.Params) → @PySem.Obj) := (fun (x0 : @PySem.Params) => ⟨(.type "tuple"), none, (.seq #[] 0), #[]⟩)
noncomputable def o303 : ((x0 : @PySem.Params) → @PySem.Obj) := (fun (x0 : @PySem.Params) => ⟨.none, none, (.fields #[]), #[]⟩)
noncomputable def o202 : ((x0 : @PySem.Params) → @PySem.Obj) := (fun (x0 : @PySem.Params) => ⟨(.type "type"), none, (.cls ⟨(Str.ofString "_ExceptionTableEntryBase"), [(.type "tuple")], [(.ref 162), (.type "tuple"), (.type "object")], 161, (Str.ofString "_ExceptionTableEntryBase"), false, [], [], false, none, false⟩), #[(some (.ref 86)), none, (some (.str (Str.ofString "_ExceptionTableEntryBase") 280)), (some (.str (Str.ofString "_ExceptionTableEntryBase") 288)), (some .none), (some (.bool false))]⟩)
noncomputable def o187 : ((x0 : @PySem.Params) → @PySem.Obj) := (fun (x0 : @PySem.Params) => ⟨(.type "dict"), none, (.dict #[⟨(@PySem.PyData.keyHash x0 (Str.ofString "index")), (.str (Str.ofString "index") 395), (.int 1 389)⟩, ⟨(@PySem.PyData.keyHash x0 (Str.ofString "__doc__")), (.str (Str.ofString "__doc__") 397), (.str (Str.ofString "Alias for field number 1") 390)⟩] 2), #[]⟩)
noncomputable def o331 : ((x0 : @PySem.Params) → @PySem.Obj) := (fun (x0 : @PySem.Params) => ⟨.none, none, (.fields #[]), #[]⟩)
noncomputable def l49 : (@List @PySem.Stmt) := [(st 0), (st 1), (st 2)]
noncomputable def o287 : ((x0 : @PySem.Params) → @PySem.Obj) := (fun (x0 : @PySem.Params) => ⟨(.type "code"), none, (.fields #[(.str (Str.ofString "_ExceptionTableEntry") 436), (.str (Str.ofString "_ExceptionTableEntry") 437), (.str (Str.ofString "/claim/cut.py") 438), (.int 72 0), (.int 0 0), (.int 0 0), (.int 0 0), (.int 0 0), (.ref 169), (.bool false), (.int 181 0), (.ref 170), .none, .none, .none, .none, (.int 439 0), (.int 72 0), (.str (Str.ofString "/claim/cut.py") 440)]), #[]⟩)
noncomputable def o200 : ((x0 : @PySem.Params) → @PySem.Obj) := (fun (x0 : @PySem.Params) => ⟨(.type "list"), none, (.seq #[] 0), #[]⟩)
noncomputable def o160 : ((x0 : @PySem.Params) → @PySem.Obj) := (fun (x0 : @PySem.Params) => ⟨(.type "code"), none, (.fields #[(.str (Str.ofString "_replace") 338), (.str (Str.ofString "_ExceptionTableEntryBase._replace") 339), (.str (Str.ofString "/claim/cut.py") 340), (.int 45 0), (.int 1 0), (.int 1 0), (.int 0 0), (.int 11 0), (.ref 115), (.bool true), (.int 181 0), (.ref 116), .none, (.ref 117), (.ref 118), (.ref 119), (.int 345 0), (.int 45 0), (.str (Str.ofString "/claim/cut.py") 346)]), #[]⟩)
noncomputable def o142 : ((x0 : @PySem.Params) → @PySem.Obj) := (fun (x0 : @PySem.Params) => ⟨(.type "code"), none, (.fields #[(.str (Str.ofString "__new__") 303), (.str (Str.ofString "_ExceptionTableEntryBase.__new__") 304), (.str (Str.ofString "/claim/cut.py") 305), (.int 33 0), (.int 6 0), (.int 0 0), (.int 0 0), (.int 3 0), (.ref 97), (.bool true), (.int 181 0), (.ref 98), .none, (.ref 99), (.ref 100), (.ref 101), (.int 312 0), (.int 33 0), (.str (Str.ofString "/claim/cut.py") 313)]), #[]⟩)
noncomputable def o167 : ((x0 : @PySem.Params) → @PySem.Obj) := (fun (x0 : @PySem.Params) => ⟨(.type "code"), none, (.fields #[(.str (Str.ofString "__repr__") 350), (.str (Str.ofString "_ExceptionTableEntryBase.__repr__") 351), (.str (Str.ofString "/claim/cut.py") 352), (.int 56 0), (.int 1 0), (.int 0 0), (.int 0 0), (.int 3 0), (.ref 122), (.bool true), (.int 181 0), (.ref 123), .none, (.ref 124), (.ref 125), (.ref 126), (.int 354 0), (.int 56 0), (.str (Str.ofString "/claim/cut.py") 355)]), #[]⟩)
noncomputable def o199 : ((x0 : @PySem.Params) → @PySem.Obj) := (fun (x0 : @PySem.Params) => ⟨(.type "tuple"), none, (.seq #[] 0), #[]⟩)
noncomputable def o183 : ((x0 : @PySem.Params) → @PySem.Obj) := (fun (x0 : @PySem.Params) => ⟨(.type "tuple"), none, (.seq #[(.str (Str.ofString "start") 373), (.str (Str.ofString "end") 374), (.str (Str.ofString "target") 375), (.str (Str.ofString "depth") 376), (.str (Str.ofString "lasti") 377)] 0), #[]⟩)
noncomputable def o323 : ((x0 : @PySem.Params) → @PySem.Obj) := (fun (x0 : @PySem.Params) => ⟨(.type "tuple"), none, (.seq #[] 0), #[]⟩)
noncomputable def o151 : ((x0 : @PySem.Params) → @PySem.Obj) := (fun (x0 : @PySem.Params) => ⟨(.type "dict"), none, (.dict #[⟨(@PySem.PyData.keyHash x0 (Str.ofString "__module__")), (.str (Str.ofString "__module__") 326), (.str (Str.ofString "cpy313.dis") 194)⟩, ⟨(@PySem.PyData.keyHash x0 (Str.ofString "__name__")), (.str (Str.ofString "__name__") 329), (.str (Str.ofString "_make") 328)⟩, ⟨(@PySem.PyData.keyHash x0 (Str.ofString "__qualname__")), (.str (Str.ofString "__qualname__") 332), (.str (Str.ofString "_ExceptionTableEntryBase._make") 331)⟩, ⟨(@PySem.PyData.keyHash x0 (Str.ofString "__doc__")), (.str (Str.ofString "__doc__") 334), (.str (Str.ofString "Make a new _ExceptionTableEntryBase object from a sequence or iterable") 324)⟩, ⟨(@PySem.PyData.keyHash x0 (Str.ofString "__annotations__")), (.str (Str.ofString "__annotations__") 336), (.ref 113)⟩] 5), #[]⟩)
noncomputable def o291 : ((x0 : @PySem.Params) → @PySem.Obj) := (fun (x0 : @PySem.Params) => ⟨(.type "type"), none, (.cls ⟨(Str.ofString "_ExceptionTableEntry"), [(.ref 162)], [(.ref 175), (.ref 162), (.type "tuple"), (.type "object")], 174, (Str.ofString "_ExceptionTableEntry"), true, [], [], false, none, false⟩), #[(some (.ref 166)), none, (some (.str (Str.ofString "_ExceptionTableEntry") 434)), (some (.str (Str.ofString "_ExceptionTableEntry") 442)), (some .none), (some (.bool false))]⟩)
noncomputable def o315 : ((x0 : @PySem.Params) → @PySem.Obj) := (fun (x0 : @PySem.Params) => ⟨(.type "function"), none, (.func ⟨(Str.ofString "_law_read"), (Str.ofString "_law_read"), (fdA (st 9)), (.stmts (fdB (st 9))), (fdS (st 9)), 3, [], .none, .none, .none, (.str (Str.ofString "law_io0064_05") 477), none, (.ref 198), .none, 0⟩), #[]⟩)
noncomputable def o143 : ((x0 : @PySem.Params) → @PySem.Obj) := (fun (x0 : @PySem.Params) => ⟨(.type "function"), none, (.func ⟨(Str.ofString "__new__"), (Str.ofString "_ExceptionTableEntryBase.__new__"), (fdA (sc 4 4)), (.stmts (fdB (sc 4 4))), (fdS (sc 4 4)), 3, [], .none, .none, (.str (Str.ofString "Create new instance of _ExceptionTableEntryBase(start, end, target, depth, lasti)") 314), (.str (Str.ofString "cpy313.dis") 194), none, (.ref 102), .none, 0⟩), #[]⟩)
noncomputable def o127 : ((x0 : @PySem.Params) → @PySem.Obj) := (fun (x0 : @PySem.Params) => ⟨(.type "builtin_function_or_method"), none, (.fields #[(.builtin "type.__prepare__"), (.type "type")]), #[]⟩)
noncomputable def o299 : ((x0 : @PySem.Params) → @PySem.Obj) := (fun (x0 : @PySem.Params) => ⟨.none, none, (.func ⟨(Str.ofString "_parse_varint"), (Str.ofString "_parse_varint"), (fdA (st 6)), (.stmts (fdB (st 6))), (fdS (st 6)), 0, [], .none, .none, .none, .none, none, .none, .none, 0⟩), #[]⟩)
noncomputable def o171 : ((x0 : @PySem.Params) → @PySem.Obj) := (fun (x0 : @PySem.Params) => ⟨(.type "tuple"), none, (.seq #[(.str (Str.ofString "self") 361)] 0), #[]⟩)
noncomputable def o311 : ((x0 : @PySem.Params) → @PySem.Obj) := (fun (x0 : @PySem.Params) => ⟨(.type "tuple"), none, (.seq #[(.str (Str.ofString "octets") 482), (.str (Str.ofString "code") 483)] 0), #[]⟩)
noncomputable def o139 : ((x0 : @PySem.Params) → @PySem.Obj) := (fun (x0 : @PySem.Params) => ⟨(.type "tuple"), none, (.seq #[(.str (Str.ofString "_cls") 306), (.str (Str.ofString "start") 307), (.str (Str.ofString "end") 308), (.str (Str.ofString "target") 309), (.str (Str.ofString "depth") 310), (.str (Str.ofString "lasti") 311)] 0), #[]⟩)
noncomputable def o147 : ((x0 : @PySem.Params) → @PySem.Obj) := (fun (x0 : @PySem.Params) => ⟨(.type "tuple"), none, (.seq #[] 0), #[]⟩)
noncomputable def o131 : ((x0 : @PySem.Params) → @PySem.Obj) := (fun (x0 : @PySem.Params) => ⟨.none, none, (.fields #[(.int 33 0), (.int 4 0), (.ref 102), (.int 38 0), (.int 4 0), (.ref 109), (.int 45 0), (.int 4 0), (.ref 120), (.int 56 0), (.int 4 0), (.ref 127), (.int 60 0), (.int 4 0), (.ref 134), (.int 63 0), (.int 4 0), (.ref 141)]), #[]⟩)
noncomputable def o195 : ((x0 : @PySem.Params) → @PySem.Obj) := (fun (x0 : @PySem.Params) => ⟨(.type "frame"), none, (.dict #[⟨(@PySem.PyData.keyHash x0 (Str.ofString "self")), (.str (Str.ofString "self") 411), (.ref 154)⟩, ⟨(@PySem.PyData.keyHash x0 (Str.ofString "index")), (.str (Str.ofString "index") 412), (.int 3 409)⟩, ⟨(@PySem.PyData.keyHash x0 (Str.ofString "doc")), (.str (Str.ofString "doc") 413), (.str (Str.ofString "Alias for field number 3") 410)⟩] 3), #[]⟩)
noncomputable def o163 : ((x0 : @PySem.Params) → @PySem.Obj) := (fun (x0 : @PySem.Params) => ⟨.none, none, (.fields #[]), #[]⟩)
noncomputable def o169 : ((x0 : @PySem.Params) → @PySem.Obj) := (fun (x0 : @PySem.Params) => ⟨(.type "tuple"), none, (.seq #[] 0), #[]⟩)
noncomputable def o309 : ((x0 : @PySem.Params) → @PySem.Obj) := (fun (x0 : @PySem.Params) => ⟨(.type "tuple"), none, (.seq #[] 0), #[]⟩)
noncomputable def o153 : ((x0 : @PySem.Params) → @PySem.Obj) := (fun (x0 : @PySem.Params) => ⟨(.type "dict"), none, (.dict #[] 0), #[]⟩)
noncomputable def o293 : ((x0 : @PySem.Params) → @PySem.Obj) := (fun (x0 : @PySem.Params) => ⟨(.type "super"), none, (.fields #[(.ref 175), (.ref 175), (.ref 175)]), #[]⟩)
noncomputable def o317 : ((x0 : @PySem.Params) → @PySem.Obj) := (fun (x0 : @PySem.Params) => ⟨.none, none, (.fields #[]), #[]⟩)
noncomputable def o193 : ((x0 : @PySem.Params) → @PySem.Obj) := (fun (x0 : @PySem.Params) => ⟨(.type "dict"), none, (.dict #[⟨(@PySem.PyData.keyHash x0 (Str.ofString "index")), (.str (Str.ofString "index") 415), (.int 3 409)⟩, ⟨(@PySem.PyData.keyHash x0 (Str.ofString "__doc__")), (.str (Str.ofString "__doc__") 417), (.str (Str.ofString "Alias for field number 3") 410)⟩] 2), #[]⟩)
noncomputable def o161 : ((x0 : @PySem.Params) → @PySem.Obj) := (fun (x0 : @PySem.Params) => ⟨(.type "function"), none, (.func ⟨(Str.ofString "_replace"), (Str.ofString "_ExceptionTableEntryBase._replace"), (fdA (sc 4 6)), (.stmts (fdB (sc 4 6))), (fdS (sc 4 6)), 3, [((Str.ofString "__class__"), 89)], .none, .none, (.str (Str.ofString "Return a new _ExceptionTableEntryBase object replacing specified fields with new values") 347), (.str (Str.ofString "cpy313.dis") 194), none, (.ref 120), (.ref 114), 0⟩), #[]⟩)
noncomputable def o301 : ((x0 : @PySem.Params) → @PySem.Obj) := (fun (x0 : @PySem.Params) => ⟨(.type "function"), none, (.func ⟨(Str.ofString "_parse_varint"), (Str.ofString "_parse_varint"), (fdA (st 6)), (.stmts (fdB (st 6))), (fdS (st 6)), 3, [], .none, .none, .none, (.str (Str.ofString "cpy313.dis") 194), none, (.ref 184), .none, 0⟩), #[]⟩)
noncomputable def o173 : ((x0 : @PySem.Params) → @PySem.Obj) := (fun (x0 : @PySem.Params) => ⟨.none, none, (.func ⟨(Str.ofString "_asdict"), (Str.ofString "_ExceptionTableEntryBase._asdict"), (fdA (sc 4 9)), (.stmts (fdB (sc 4 9))), (fdS (sc 4 9)), 0, [], .none, .none, .none, .none, none, .none, .none, 0⟩), #[]⟩)
noncomputable def o313 : ((x0 : @PySem.Params) → @PySem.Obj) := (fun (x0 : @PySem.Params) => ⟨.none, none, (.func ⟨(Str.ofString "_law_read"), (Str.ofString "_law_read"), (fdA (st 9)), (.stmts (fdB (st 9))), (fdS (st 9)), 0, [], .none, .none, .none, .none, none, .none, .none, 0⟩), #[]⟩)
noncomputable def o141 : ((x0 : @PySem.Params) → @PySem.Obj) := (fun (x0 : @PySem.Params) => ⟨.none, none, (.func ⟨(Str.ofString "__new__"), (Str.ofString "_ExceptionTableEntryBase.__new__"), (fdA (sc 4 4)), (.stmts (fdB (sc 4 4))), (fdS (sc 4 4)), 0, [], .none, .none, .none, .none, none, .none, .none, 0⟩), #[]⟩)
noncomputable def o189 : ((x0 : @PySem.Params) → @PySem.Obj) := (fun (x0 : @PySem.Params) => ⟨(.type "frame"), none, (.dict #[⟨(@PySem.PyData.keyHash x0 (Str.ofString "self")), (.str (Str.ofString "self") 391), (.ref 148)⟩, ⟨(@PySem.PyData.keyHash x0 (Str.ofString "index")), (.str (Str.ofString "index") 392), (.int 1 389)⟩, ⟨(@PySem.PyData.keyHash x0 (Str.ofString "doc")), (.str (Str.ofString "doc") 393), (.str (Str.ofString "Alias for field number 1") 390)⟩] 3), #[]⟩)
noncomputable def o181 : ((x0 : @PySem.Params) → @PySem.Obj) := (fun (x0 : @PySem.Params) => ⟨(.type "code"), none, (.fields #[(.str (Str.ofString "__getnewargs__") 365), (.str (Str.ofString "_ExceptionTableEntryBase.__getnewargs__") 366), (.str (Str.ofString "/claim/cut.py") 367), (.int 63 0), (.int 1 0), (.int 0 0), (.int 0 0), (.int 3 0), (.ref 136), (.bool true), (.int 181 0), (.ref 137), .none, (.ref 138), (.ref 139), (.ref 140), (.int 369 0), (.int 63 0), (.str (Str.ofString "/claim/cut.py") 370)]), #[]⟩)
noncomputable def o321 : ((x0 : @PySem.Params) → @PySem.Obj) := (fun (x0 : @PySem.Params) => ⟨(.type "code"), none, (.fields #[(.str (Str.ofString "_law_write") 487), (.str (Str.ofString "_law_write") 488), (.str (Str.ofString "/claim/cut.py") 489), (.int 102 0), (.int 1 0), (.int 0 0), (.int 0 0), (.int 3 0), (.ref 200), (.bool true), (.int 181 0), (.ref 201), .none, (.ref 202), (.ref 203), (.ref 204), (.int 492 0), (.int 102 0), (.str (Str.ofString "/claim/cut.py") 493)]), #[]⟩)
noncomputable def o149 : ((x0 : @PySem.Params) → @PySem.Obj) := (fun (x0 : @PySem.Params) => ⟨(.type "code"), none, (.fields #[(.str (Str.ofString "_make") 316), (.str (Str.ofString "_ExceptionTableEntryBase._make") 317), (.str (Str.ofString "/claim/cut.py") 318), (.int 37 0), (.int 2 0), (.int 0 0), (.int 0 0), (.int 3 0), (.ref 104), (.bool true), (.int 181 0), (.ref 105), .none, (.ref 106), (.ref 107), (.ref 108), (.int 322 0), (.int 37 0), (.str (Str.ofString "/claim/cut.py") 323)]), #[]⟩)
noncomputable def o289 : ((x0 : @PySem.Params) → @PySem.Obj) := (fun (x0 : @PySem.Params) => ⟨(.type "tuple"), none, (.seq #[] 0), #[]⟩)
noncomputable def o133 : ((x0 : @PySem.Params) → @PySem.Obj) := (fun (x0 : @PySem.Params) => ⟨(.type "frame"), none, .plain, #[(some (.ref 92)), (some (.ref 3)), (some (.ref 88)), none, (some (.str (Str.ofString "cpy313.dis") 194)), none, (some (.ref 0))]⟩)
noncomputable def o197 : ((x0 : @PySem.Params) → @PySem.Obj) := (fun (x0 : @PySem.Params) => ⟨(.ref 60), (some 156), .plain, #[]⟩)
noncomputable def o165 : ((x0 : @PySem.Params) → @PySem.Obj) := (fun (x0 : @PySem.Params) => ⟨(.type "tuple"), none, (.seq #[] 0), #[]⟩)
noncomputable def o305 : ((x0 : @PySem.Params) → @PySem.Obj) := (fun (x0 : @PySem.Params) => ⟨(.type "tuple"), none, (.seq #[] 0), #[]⟩)
noncomputable def o168 : ((x0 : @PySem.Params) → @PySem.Obj) := (fun (x0 : @PySem.Params) => ⟨(.type "function"), none, (.func ⟨(Str.ofString "__repr__"), (Str.ofString "_ExceptionTableEntryBase.__repr__"), (fdA (sc 4 8)), (.stmts (fdB (sc 4 8))), (fdS (sc 3 0)), 3, [], .none, .none, (.str (Str.ofString "Return a nicely formatted representation string") 356), (.str (Str.ofString "cpy313.dis") 194), none, (.ref 127), .none, 0⟩), #[]⟩)
noncomputable def o308 : ((x0 : @PySem.Params) → @PySem.Obj) := (fun (x0 : @PySem.Params) => ⟨(.type "function"), none, (.func ⟨(Str.ofString "_parse_exception_table"), (Str.ofString "_parse_exception_table"), (fdA (st 7)), (.stmts (fdB (st 7))), (fdS (st 7)), 3, [], .none, .none, .none, (.str (Str.ofString "cpy313.dis") 194), none, (.ref 191), .none, 0⟩), #[]⟩)
noncomputable def o136 : ((x0 : @PySem.Params) → @PySem.Obj) := (fun (x0 : @PySem.Params) => ⟨(.type "dict"), none, (.dict #[] 0), #[]⟩)
noncomputable def o152 : ((x0 : @PySem.Params) → @PySem.Obj) := (fun (x0 : @PySem.Params) => ⟨(.type "classmethod"), (some 111), (.fields #[(.ref 110), (.bool false)]), #[]⟩)
noncomputable def o292 : ((x0 : @PySem.Params) → @PySem.Obj) := (fun (x0 : @PySem.Params) => ⟨(.type "getset_descriptor"), none, (.fields #[(.str (Str.ofString "__dict__") 447), (.ref 175), (.builtin "function.__dict__"), (.builtin "function.__dict__#set")]), #[]⟩)
noncomputable def o176 : ((x0 : @PySem.Params) → @PySem.Obj) := (fun (x0 : @PySem.Params) => ⟨(.type "tuple"), none, (.seq #[] 0), #[]⟩)
noncomputable def o316 : ((x0 : @PySem.Params) → @PySem.Obj) := (fun (x0 : @PySem.Params) => ⟨(.type "tuple"), none, (.seq #[] 0), #[]⟩)
noncomputable def o144 : ((x0 : @PySem.Params) → @PySem.Obj) := (fun (x0 : @PySem.Params) => ⟨(.type "tuple"), none, (.seq #[] 0), #[]⟩)
noncomputable def o284 : ((x0 : @PySem.Params) → @PySem.Obj) := (fun (x0 : @PySem.Params) => ⟨(.type "dict"), none, (.dict #[⟨(@PySem.PyData.keyHash x0 (Str.ofString "__module__")), (.str (Str.ofString "__module__") 441), (.str (Str.ofString "cpy313.dis") 194)⟩, ⟨(@PySem.PyData.keyHash x0 (Str.ofString "__qualname__")), (.str (Str.ofString "__qualname__") 443), (.str (Str.ofString "_ExceptionTableEntry") 442)⟩, ⟨(@PySem.PyData.keyHash x0 (Str.ofString "__firstlineno__")), (.str (Str.ofString "__firstlineno__") 445), (.int 72 444)⟩, ⟨(@PySem.PyData.keyHash x0 (Str.ofString "__static_attributes__")), (.str (Str.ofString "__static_attributes__") 446), (.ref 173)⟩] 4), #[]⟩)
noncomputable def o128 : ((x0 : @PySem.Params) → @PySem.Obj) := (fun (x0 : @PySem.Params) => ⟨(.type "dict"), none, (.dict #[⟨(@PySem.PyData.keyHash x0 (Str.ofString "__module__")), (.str (Str.ofString "__module__") 287), (.str (Str.ofString "cpy313.dis") 194)⟩, ⟨(@PySem.PyData.keyHash x0 (Str.ofString "__qualname__")), (.str (Str.ofString "__qualname__") 289), (.str (Str.ofString "_ExceptionTableEntryBase") 288)⟩, ⟨(@PySem.PyData.keyHash x0 (Str.ofString "__firstlineno__")), (.str (Str.ofString "__firstlineno__") 291), (.int 27 290)⟩, ⟨(@PySem.PyData.keyHash x0 (Str.ofString "__doc__")), (.str (Str.ofString "__doc__") 293), (.str (Str.ofString "_ExceptionTableEntryBase(start, end, target, depth, lasti)") 292)⟩, ⟨(@PySem.PyData.keyHash x0 (Str.ofString "__slots__")), (.str (Str.ofString "__slots__") 295), (.ref 94)⟩, ⟨(@PySem.PyData.keyHash x0 (Str.ofString "_fields")), (.str (Str.ofString "_fields") 301), (.ref 95)⟩, ⟨(@PySem.PyData.keyHash x0 (Str.ofString "_field_defaults")), (.str (Str.ofString "_field_defaults") 302), (.ref 96)⟩, ⟨(@PySem.PyData.keyHash x0 (Str.ofString "__new__")), (.str (Str.ofString "__new__") 315), (.ref 103)⟩, ⟨(@PySem.PyData.keyHash x0 (Str.ofString "_make")), (.str (Str.ofString "_make") 337), (.ref 112)⟩, ⟨(@PySem.PyData.keyHash x0 (Str.ofString "_replace")), (.str (Str.ofString "_replace") 348), (.ref 121)⟩, ⟨(@PySem.PyData.keyHash x0 (Str.ofString "__replace__")), (.str (Str.ofString "__replace__") 349), (.ref 121)⟩, ⟨(@PySem.PyData.keyHash x0 (Str.ofString "__repr__")), (.str (Str.ofString "__repr__") 357), (.ref 128)⟩, ⟨(@PySem.PyData.keyHash x0 (Str.ofString "_asdict")), (.str (Str.ofString "_asdict") 364), (.ref 135)⟩, ⟨(@PySem.PyData.keyHash x0 (Str.ofString "__getnewargs__")), (.str (Str.ofString "__getnewargs__") 372), (.ref 142)⟩, ⟨(@PySem.PyData.keyHash x0 (Str.ofString "__match_args__")), (.str (Str.ofString "__match_args__") 378), (.ref 143)⟩, ⟨(@PySem.PyData.keyHash x0 (Str.ofString "start")), (.str (Str.ofString "start") 388), (.ref 145)⟩, ⟨(@PySem.PyData.keyHash x0 (Str.ofString "end")), (.str (Str.ofString "end") 398), (.ref 148)⟩, ⟨(@PySem.PyData.keyHash x0 (Str.ofString "target")), (.str (Str.ofString "target") 408), (.ref 151)⟩, ⟨(@PySem.PyData.keyHash x0 (Str.ofString "depth")), (.str (Str.ofString "depth") 418), (.ref 154)⟩, ⟨(@PySem.PyData.keyHash x0 (Str.ofString "lasti")), (.str (Str.ofString "lasti") 428), (.ref 157)⟩, ⟨(@PySem.PyData.keyHash x0 (Str.ofString "__static_attributes__")), (.str (Str.ofString "__static_attributes__") 429), (.ref 159)⟩, ⟨(@PySem.PyData.keyHash x0 (Str.ofString "__classcell__")), (.str (Str.ofString "__classcell__") 430), (.ref 89)⟩] 22), #[]⟩)
noncomputable def o300 : ((x0 : @PySem.Params) → @PySem.Obj) := (fun (x0 : @PySem.Params) => ⟨(.type "code"), none, (.fields #[(.str (Str.ofString "_parse_varint") 452), (.str (Str.ofString "_parse_varint") 453), (.str (Str.ofString "/claim/cut.py") 454), (.int 74 0), (.int 1 0), (.int 0 0), (.int 0 0), (.int 3 0), (.ref 179), (.bool true), (.int 181 0), (.ref 180), .none, (.ref 181), (.ref 182), (.ref 183), (.int 458 0), (.int 74 0), (.str (Str.ofString "/claim/cut.py") 459)]), #[]⟩)
noncomputable def o280 : ((x0 : @PySem.Params) → @PySem.Obj) := (fun (x0 : @PySem.Params) => ⟨.none, none, (.fields #[(.int 1 0), (.int 0 0), (.ref 20), (.int 5 0), (.int 0 0), (.ref 27), (.int 23 0), (.int 0 0), (.ref 70), (.int 27 0), (.int 0 0), (.ref 92), (.int 72 0), (.int 0 0), (.ref 171), (.int 74 0), (.int 0 0), (.ref 184), (.int 82 0), (.int 0 0), (.ref 191), (.int 98 0), (.int 0 0), (.ref 198), (.int 102 0), (.int 0 0), (.ref 205), (.int 108 0), (.int 0 0), (.ref 210)]), #[]⟩)
noncomputable def o172 : ((x0 : @PySem.Params) → @PySem.Obj) := (fun (x0 : @PySem.Params) => ⟨(.type "tuple"), none, (.seq #[] 0), #[]⟩)
noncomputable def o312 : ((x0 : @PySem.Params) → @PySem.Obj) := (fun (x0 : @PySem.Params) => ⟨(.type "tuple"), none, (.seq #[] 0), #[]⟩)
noncomputable def o140 : ((x0 : @PySem.Params) → @PySem.Obj) := (fun (x0 : @PySem.Params) => ⟨(.type "tuple"), none, (.seq #[] 0), #[]⟩)
noncomputable def o204 : ((x0 : @PySem.Params) → @PySem.Obj) := (fun (x0 : @PySem.Params) => ⟨(.type "super"), none, (.fields #[(.ref 162), (.ref 162), (.ref 162)]), #[]⟩)
noncomputable def o188 : ((x0 : @PySem.Params) → @PySem.Obj) := (fun (x0 : @PySem.Params) => ⟨(.ref 60), (some 147), .plain, #[]⟩)
noncomputable def o296 : ((x0 : @PySem.Params) → @PySem.Obj) := (fun (x0 : @PySem.Params) => ⟨.none, none, (.fields #[]), #[]⟩)
noncomputable def o320 : ((x0 : @PySem.Params) → @PySem.Obj) := (fun (x0 : @PySem.Params) => ⟨.none, none, (.func ⟨(Str.ofString "_law_write"), (Str.ofString "_law_write"), (fdA (st 10)), (.stmts (fdB (st 10))), (fdS (st 10)), 0, [], .none, .none, .none, .none, none, .none, .none, 0⟩), #[]⟩)
noncomputable def o288 : ((x0 : @PySem.Params) → @PySem.Obj) := (fun (x0 : @PySem.Params) => ⟨(.type "frame"), none, .plain, #[(some (.ref 171)), (some (.ref 3)), (some (.ref 168)), none, (some (.str (Str.ofString "cpy313.dis") 194)), none, (some (.ref 0))]⟩)
noncomputable def o196 : ((x0 : @PySem.Params) → @PySem.Obj) := (fun (x0 : @PySem.Params) => ⟨(.type "dict"), none, (.dict #[⟨(@PySem.PyData.keyHash x0 (Str.ofString "index")), (.str (Str.ofString "index") 425), (.int 4 419)⟩, ⟨(@PySem.PyData.keyHash x0 (Str.ofString "__doc__")), (.str (Str.ofString "__doc__") 427), (.str (Str.ofString "Alias for field number 4") 420)⟩] 2), #[]⟩)
noncomputable def o304 : ((x0 : @PySem.Params) → @PySem.Obj) := (fun (x0 : @PySem.Params) => ⟨(.type "tuple"), none, (.seq #[(.str (Str.ofString "code") 464), (.str (Str.ofString "iterator") 465), (.str (Str.ofString "entries") 466), (.str (Str.ofString "start") 467), (.str (Str.ofString "length") 468), (.str (Str.ofString "end") 469), (.str (Str.ofString "target") 470), (.str (Str.ofString "dl") 471), (.str (Str.ofString "depth") 472), (.str (Str.ofString "lasti") 473)] 0), #[]⟩)
noncomputable def o310 : ((x0 : @PySem.Params) → @PySem.Obj) := (fun (x0 : @PySem.Params) => ⟨.none, none, (.fields #[]), #[]⟩)
noncomputable def o186 : ((x0 : @PySem.Params) → @PySem.Obj) := (fun (x0 : @PySem.Params) => ⟨(.type "frame"), none, (.dict #[⟨(@PySem.PyData.keyHash x0 (Str.ofString "self")), (.str (Str.ofString "self") 381), (.ref 145)⟩, ⟨(@PySem.PyData.keyHash x0 (Str.ofString "index")), (.str (Str.ofString "index") 382), (.int 0 379)⟩, ⟨(@PySem.PyData.keyHash x0 (Str.ofString "doc")), (.str (Str.ofString "doc") 383), (.str (Str.ofString "Alias for field number 0") 380)⟩] 3), #[]⟩)
noncomputable def o326 : ((x0 : @PySem.Params) → @PySem.Obj) := (fun (x0 : @PySem.Params) => ⟨(.type "code"), none, (.fields #[(.str (Str.ofString "_law_least") 495), (.str (Str.ofString "_law_least") 496), (.str (Str.ofString "/claim/cut.py") 497), (.int 108 0), (.int 1 0), (.int 0 0), (.int 0 0), (.int 3 0), (.ref 207), (.bool true), (.int 181 0), (.ref 208), .none, .none, .none, (.ref 209), (.int 498 0), (.int 108 0), (.str (Str.ofString "/claim/cut.py") 499)]), #[]⟩)
noncomputable def o154 : ((x0 : @PySem.Params) → @PySem.Obj) := (fun (x0 : @PySem.Params) => ⟨(.type "tuple"), none, (.seq #[(.ref 89)] 0), #[]⟩)
noncomputable def o294 : ((x0 : @PySem.Params) → @PySem.Obj) := (fun (x0 : @PySem.Params) => ⟨(.type "builtin_function_or_method"), none, (.fields #[(.builtin "object.__init_subclass__"), (.ref 175)]), #[]⟩)
noncomputable def o178 : ((x0 : @PySem.Params) → @PySem.Obj) := (fun (x0 : @PySem.Params) => ⟨(.type "tuple"), none, (.seq #[(.str (Str.ofString "self") 368)] 0), #[]⟩)
noncomputable def o146 : ((x0 : @PySem.Params) → @PySem.Obj) := (fun (x0 : @PySem.Params) => ⟨(.type "tuple"), none, (.seq #[(.str (Str.ofString "cls") 319), (.str (Str.ofString "iterable") 320), (.str (Str.ofString "result") 321)] 0), #[]⟩)
noncomputable def o286 : ((x0 : @PySem.Params) → @PySem.Obj) := (fun (x0 : @PySem.Params) => ⟨.none, none, (.fields #[]), #[]⟩)
noncomputable def o130 : ((x0 : @PySem.Params) → @PySem.Obj) := (fun (x0 : @PySem.Params) => ⟨(.type "tuple"), none, (.seq #[] 0), #[]⟩)
noncomputable def o194 : ((x0 : @PySem.Params) → @PySem.Obj) := (fun (x0 : @PySem.Params) => ⟨(.ref 60), (some 153), .plain, #[]⟩)
noncomputable def o162 : ((x0 : @PySem.Params) → @PySem.Obj) := (fun (x0 : @PySem.Params) => ⟨(.type "tuple"), none, (.seq #[] 0), #[]⟩)
noncomputable def o174 : ((x0 : @PySem.Params) → @PySem.Obj) := (fun (x0 : @PySem.Params) => ⟨(.type "code"), none, (.fields #[(.str (Str.ofString "_asdict") 358), (.str (Str.ofString "_ExceptionTableEntryBase._asdict") 359), (.str (Str.ofString "/claim/cut.py") 360), (.int 60 0), (.int 1 0), (.int 0 0), (.int 0 0), (.int 3 0), (.ref 129), (.bool true), (.int 181 0), (.ref 130), .none, (.ref 131), (.ref 132), (.ref 133), (.int 362 0), (.int 60 0), (.str (Str.ofString "/claim/cut.py") 363)]), #[]⟩)
noncomputable def o314 : ((x0 : @PySem.Params) → @PySem.Obj) := (fun (x0 : @PySem.Params) => ⟨(.type "code"), none, (.fields #[(.str (Str.ofString "_law_read") 479), (.str (Str.ofString "_law_read") 480), (.str (Str.ofString "/claim/cut.py") 481), (.int 98 0), (.int 1 0), (.int 0 0), (.int 0 0), (.int 3 0), (.ref 193), (.bool true), (.int 181 0), (.ref 194), .none, (.ref 195), (.ref 196), (.ref 197), (.int 484 0), (.int 98 0), (.str (Str.ofString "/claim/cut.py") 485)]), #[]⟩)
noncomputable def o158 : ((x0 : @PySem.Params) → @PySem.Obj) := (fun (x0 : @PySem.Params) => ⟨(.type "tuple"), none, (.seq #[] 0), #[]⟩)
noncomputable def o298 : ((x0 : @PySem.Params) → @PySem.Obj) := (fun (x0 : @PySem.Params) => ⟨(.type "tuple"), none, (.seq #[] 0), #[]⟩)
noncomputable def o150 : ((x0 : @PySem.Params) → @PySem.Obj) := (fun (x0 : @PySem.Params) => ⟨(.type "function"), none, (.func ⟨(Str.ofString "_make"), (Str.ofString "_ExceptionTableEntryBase._make"), (fdA (sc 4 5)), (.stmts (fdB (sc 4 5))), (fdS (sc 4 5)), 3, [], .none, .none, (.str (Str.ofString "Make a new _ExceptionTableEntryBase object from a sequence or iterable") 324), (.str (Str.ofString "cpy313.dis") 194), (some 113), (.ref 109), .none, 0⟩), #[]⟩)
noncomputable def o290 : ((x0 : @PySem.Params) → @PySem.Obj) := (fun (x0 : @PySem.Params) => ⟨(.type "dict"), none, (.dict #[⟨(@PySem.PyData.keyHash x0 (Str.ofString "__module__")), (.str (Str.ofString "__module__") 441), (.str (Str.ofString "cpy313.dis") 194)⟩, ⟨(@PySem.PyData.keyHash x0 (Str.ofString "__firstlineno__")), (.str (Str.ofString "__firstlineno__") 445), (.int 72 444)⟩, ⟨(@PySem.PyData.keyHash x0 (Str.ofString "__static_attributes__")), (.str (Str.ofString "__static_attributes__") 446), (.ref 173)⟩, ⟨(@PySem.PyData.keyHash x0 (Str.ofString "__dict__")), (.str (Str.ofString "__dict__") 448), (.ref 176)⟩, ⟨(@PySem.PyData.keyHash x0 (Str.ofString "__doc__")), (.str (Str.ofString "__doc__") 449), .none⟩] 3), #[]⟩)
noncomputable def o134 : ((x0 : @PySem.Params) → @PySem.Obj) := (fun (x0 : @PySem.Params) => ⟨(.type "tuple"), none, (.seq #[] 0), #[]⟩)
noncomputable def o198 : ((x0 : @PySem.Params) → @PySem.Obj) := (fun (x0 : @PySem.Params) => ⟨(.type "frame"), none, (.dict #[⟨(@PySem.PyData.keyHash x0 (Str.ofString "self")), (.str (Str.ofString "self") 421), (.ref 157)⟩, ⟨(@PySem.PyData.keyHash x0 (Str.ofString "index")), (.str (Str.ofString "index") 422), (.int 4 419)⟩, ⟨(@PySem.PyData.keyHash x0 (Str.ofString "doc")), (.str (Str.ofString "doc") 423), (.str (Str.ofString "Alias for field number 4") 420)⟩] 3), #[]⟩)
noncomputable def o166 : ((x0 : @PySem.Params) → @PySem.Obj) := (fun (x0 : @PySem.Params) => ⟨.none, none, (.func ⟨(Str.ofString "__repr__"), (Str.ofString "_ExceptionTableEntryBase.__repr__"), (fdA (sc 4 8)), (.stmts (fdB (sc 4 8))), (fdS (sc 3 0)), 0, [], .none, .none, .none, .none, none, .none, .none, 0⟩), #[]⟩)
noncomputable def o306 : ((x0 : @PySem.Params) → @PySem.Obj) := (fun (x0 : @PySem.Params) => ⟨.none, none, (.func ⟨(Str.ofString "_parse_exception_table"), (Str.ofString "_parse_exception_table"), (fdA (st 7)), (.stmts (fdB (st 7))), (fdS (st 7)), 0, [], .none, .none, .none, .none, none, .none, .none, 0⟩), #[]⟩)
noncomputable def t327 : ((x0 : @PySem.Params) → @PySem.W.BT) := (fun (x0 : @PySem.Params) => (.node (@PySem.W.boot_o_0 x0) (.node (@PySem.W.boot_o_1 x0) (.node (o279 x0) (.node (@PySem.W.boot_o_7 x0) (.node (o51 x0) (.node (o67 x0) (.node (o99 x0) (.node (o167 x0) .nil .nil) (.node (o307 x0) .nil .nil)) (.node (o135 x0) (.node (o199 x0) .nil .nil) .nil)) (.node (o83 x0) (.node (o117 x0) (.node (o183 x0) .nil .nil) (.node (o323 x0) .nil .nil)) (.node (o151 x0) (.node (o291 x0) .nil .nil) .nil))) (.node (o59 x0) (.node (o75 x0) (.node (o109 x0) (.node (o175 x0) .nil .nil) (.node (o315 x0) .nil .nil)) (.node (o143 x0) (.node (o283 x0) .nil .nil) .nil)) (.node (o91 x0) (.node (o127 x0) (.node (o191 x0) .nil .nil) .nil) (.node (o159 x0) (.node (o299 x0) .nil .nil) .nil)))) (.node (o43 x0) (.node (o55 x0) (.node (o71 x0) (.node (o105 x0) (.node (o171 x0) .nil .nil) (.node (o311 x0) .nil .nil)) (.node (o139 x0) (.node (o203 x0) .nil .nil) .nil)) (.node (o87 x0) (.node (o121 x0) (.node (o187 x0) .nil .nil) (.node (o327 x0) .nil .nil)) (.node (o155 x0) (.node (o295 x0) .nil .nil) .nil))) (.node (o63 x0) (.node (o79 x0) (.node (o113 x0) (.node (o179 x0) .nil .nil) (.node (o319 x0) .nil .nil)) (.node (o147 x0) (.node (o287 x0) .nil .nil) .nil)) (.node (o95 x0) (.node (o131 x0) (.node (o195 x0) .nil .nil) .nil) (.node (o163 x0) (.node (o303 x0) .nil .nil) .nil))))) (.node (@PySem.W.boot_o_5 x0) (.node (@PySem.W.boot_o_9 x0) (.node (o53 x0) (.node (o69 x0) (.node (o103 x0) (.node (o169 x0) .nil .nil) (.node (o309 x0) .nil .nil)) (.node (o137 x0) (.node (o201 x0) .nil .nil) .nil)) (.node (o85 x0) (.node (o119 x0) (.node (o185 x0) .nil .nil) (.node (o325 x0) .nil .nil)) (.node (o153 x0) (.node (o293 x0) .nil .nil) .nil))) (.node (o61 x0) (.node (o77 x0) (.node (o111 x0) (.node (o177 x0) .nil .nil) (.node (o317 x0) .nil .nil)) (.node (o145 x0) (.node (o285 x0) .nil .nil) .nil)) (.node (o93 x0) (.node (o129 x0) (.node (o193 x0) .nil .nil) .nil) (.node (o161 x0) (.node (o301 x0) .nil .nil) .nil)))) (.node (o45 x0) (.node (o57 x0) (.node (o73 x0) (.node (o107 x0) (.node (o173 x0) .nil .nil) (.node (o313 x0) .nil .nil)) (.node (o141 x0) (.node (o205 x0) .nil .nil) .nil)) (.node (o89 x0) (.node (o123 x0) (.node (o189 x0) .nil .nil) .nil) (.node (o157 x0) (.node (o297 x0) .nil .nil) .nil))) (.node (o65 x0) (.node (o81 x0) (.node (o115 x0) (.node (o181 x0) .nil .nil) (.node (o321 x0) .nil .nil)) (.node (o149 x0) (.node (o289 x0) .nil .nil) .nil)) (.node (o97 x0) (.node (o133 x0) (.node (o197 x0) .nil .nil) .nil) (.node (o165 x0) (.node (o305 x0) .nil .nil) .nil)))))) (.node (@PySem.W.boot_o_2 x0) (.node (@PySem.W.boot_o_4 x0) (.node (@PySem.W.boot_o_8 x0) (.node (o52 x0) (.node (o68 x0) (.node (o100 x0) (.node (o168 x0) .nil .nil) (.node (o308 x0) .nil .nil)) (.node (o136 x0) (.node (o200 x0) .nil .nil) .nil)) (.node (o84 x0) (.node (o118 x0) (.node (o184 x0) .nil .nil) (.node (o324 x0) .nil .nil)) (.node (o152 x0) (.node (o292 x0) .nil .nil) .nil))) (.node (o60 x0) (.node (o76 x0) (.node (o110 x0) (.node (o176 x0) .nil .nil) (.node (o316 x0) .nil .nil)) (.node (o144 x0) (.node (o284 x0) .nil .nil) .nil)) (.node (o92 x0) (.node (o128 x0) (.node (o192 x0) .nil .nil) .nil) (.node (o160 x0) (.node (o300 x0) .nil .nil) .nil)))) (.node (o280 x0) (.node (o56 x0) (.node (o72 x0) (.node (o106 x0) (.node (o172 x0) .nil .nil) (.node (o312 x0) .nil .nil)) (.node (o140 x0) (.node (o204 x0) .nil .nil) .nil)) (.node (o88 x0) (.node (o122 x0) (.node (o188 x0) .nil .nil) .nil) (.node (o156 x0) (.node (o296 x0) .nil .nil) .nil))) (.node (o64 x0) (.node (o80 x0) (.node (o114 x0) (.node (o180 x0) .nil .nil) (.node (o320 x0) .nil .nil)) (.node (o148 x0) (.node (o288 x0) .nil .nil) .nil)) (.node (o96 x0) (.node (o132 x0) (.node (o196 x0) .nil .nil) .nil) (.node (o164 x0) (.node (o304 x0) .nil .nil) .nil))))) (.node (@PySem.W.boot_o_6 x0) (.node (@PySem.W.boot_o_10 x0) (.node (o54 x0) (.node (o70 x0) (.node (o104 x0) (.node (o170 x0) .nil .nil) (.node (o310 x0) .nil .nil)) (.node (o138 x0) (.node (o281 x0) .nil .nil) .nil)) (.node (o86 x0) (.node (o120 x0) (.node (o186 x0) .nil .nil) (.node (o326 x0) .nil .nil)) (.node (o154 x0) (.node (o294 x0) .nil .nil) .nil))) (.node (o62 x0) (.node (o78 x0) (.node (o112 x0) (.node (o178 x0) .nil .nil) (.node (o318 x0) .nil .nil)) (.node (o146 x0) (.node (o286 x0) .nil .nil) .nil)) (.node (o94 x0) (.node (o130 x0) (.node (o194 x0) .nil .nil) .nil) (.node (o162 x0) (.node (o302 x0) .nil .nil) .nil)))) (.node (o46 x0) (.node (o58 x0) (.node (o74 x0) (.node (o108 x0) (.node (o174 x0) .nil .nil) (.node (o314 x0) .nil .nil)) (.node (o142 x0) (.node (o282 x0) .nil .nil) .nil)) (.node (o90 x0) (.node (o126 x0) (.node (o190 x0) .nil .nil) .nil) (.node (o158 x0) (.node (o298 x0) .nil .nil) .nil))) (.node (o66 x0) (.node (o82 x0) (.node (o116 x0) (.node (o182 x0) .nil .nil) (.node (o322 x0) .nil .nil)) (.node (o150 x0) (.node (o290 x0) .nil .nil) .nil)) (.node (o98 x0) (.node (o134 x0) (.node (o198 x0) .nil .nil) .nil) (.node (o166 x0) (.node (o306 x0) .nil .nil) .nil))))))))
noncomputable def o49 : ((x0 : @PySem.Params) → @PySem.Obj) := (fun (x0 : @PySem.Params) => ⟨(.type "dict"), none, (.dict #[⟨(@PySem.PyData.keyHash x0 (Str.ofString "__name__")), (.str (Str.ofString "__name__") 165), (.str (Str.ofString "cpy313.dis") 194)⟩, ⟨(@PySem.PyData.keyHash x0 (Str.ofString "__doc__")), (.str (Str.ofString "__doc__") 166), .none⟩, ⟨(@PySem.PyData.keyHash x0 (Str.ofString "__package__")), (.str (Str.ofString "__package__") 167), .none⟩, ⟨(@PySem.PyData.keyHash x0 (Str.ofString "__loader__")), (.str (Str.ofString "__loader__") 168), (.builtin "__main__.__loader__#opaque")⟩, ⟨(@PySem.PyData.keyHash x0 (Str.ofString "__spec__")), (.str (Str.ofString "__spec__") 169), .none⟩, ⟨(@PySem.PyData.keyHash x0 (Str.ofString "__annotations__")), (.str (Str.ofString "__annotations__") 170), (.ref 6)⟩, ⟨(@PySem.PyData.keyHash x0 (Str.ofString "__builtins__")), (.str (Str.ofString "__builtins__") 171), (.ref 4)⟩, ⟨(@PySem.PyData.keyHash x0 (Str.ofString "__file__")), (.str (Str.ofString "__file__") 173), (.str (Str.ofString "/claim/cut.py") 172)⟩, ⟨(@PySem.PyData.keyHash x0 (Str.ofString "__cached__")), (.str (Str.ofString "__cached__") 174), .none⟩, ⟨(@PySem.PyData.keyHash x0 (Str.ofString "_wall")), (.str (Str.ofString "_wall") 193), (.ref 21)⟩, ⟨(@PySem.PyData.keyHash x0 (Str.ofString "_tuplegetter")), (.str (Str.ofString "_tuplegetter") 252), (.ref 60)⟩] 11), #[]⟩)
noncomputable def o50 : ((x0 : @PySem.Params) → @PySem.Obj) := (fun (x0 : @PySem.Params) => ⟨.none, none, (.fields #[(.int 1 0), (.int 0 0), (.ref 20), (.int 5 0), (.int 0 0), (.ref 27)]), #[]⟩)
noncomputable def t100 : ((x0 : @PySem.Params) → @PySem.W.BT) := (fun (x0 : @PySem.Params) => (.node (@PySem.W.boot_o_0 x0) (.node (@PySem.W.boot_o_1 x0) (.node (o49 x0) (.node (@PySem.W.boot_o_7 x0) (.node (o51 x0) (.node (o67 x0) (.node (o99 x0) .nil .nil) .nil) (.node (o83 x0) .nil .nil)) (.node (o59 x0) (.node (o75 x0) .nil .nil) (.node (o91 x0) .nil .nil))) (.node (o43 x0) (.node (o55 x0) (.node (o71 x0) .nil .nil) (.node (o87 x0) .nil .nil)) (.node (o63 x0) (.node (o79 x0) .nil .nil) (.node (o95 x0) .nil .nil)))) (.node (@PySem.W.boot_o_5 x0) (.node (@PySem.W.boot_o_9 x0) (.node (o53 x0) (.node (o69 x0) .nil .nil) (.node (o85 x0) .nil .nil)) (.node (o61 x0) (.node (o77 x0) .nil .nil) (.node (o93 x0) .nil .nil))) (.node (o45 x0) (.node (o57 x0) (.node (o73 x0) .nil .nil) (.node (o89 x0) .nil .nil)) (.node (o65 x0) (.node (o81 x0) .nil .nil) (.node (o97 x0) .nil .nil))))) (.node (@PySem.W.boot_o_2 x0) (.node (@PySem.W.boot_o_4 x0) (.node (@PySem.W.boot_o_8 x0) (.node (o52 x0) (.node (o68 x0) (.node (o100 x0) .nil .nil) .nil) (.node (o84 x0) .nil .nil)) (.node (o60 x0) (.node (o76 x0) .nil .nil) (.node (o92 x0) .nil .nil))) (.node (o50 x0) (.node (o56 x0) (.node (o72 x0) .nil .nil) (.node (o88 x0) .nil .nil)) (.node (o64 x0) (.node (o80 x0) .nil .nil) (.node (o96 x0) .nil .nil)))) (.node (@PySem.W.boot_o_6 x0) (.node (@PySem.W.boot_o_10 x0) (.node (o54 x0) (.node (o70 x0) .nil .nil) (.node (o86 x0) .nil .nil)) (.node (o62 x0) (.node (o78 x0) .nil .nil) (.node (o94 x0) .nil .nil))) (.node (o46 x0) (.node (o58 x0) (.node (o74 x0) .nil .nil) (.node (o90 x0) .nil .nil)) (.node (o66 x0) (.node (o82 x0) .nil .nil) (.node (o98 x0) .nil .nil)))))))
noncomputable def o125 : ((x0 : @PySem.Params) → @PySem.Obj) := (fun (x0 : @PySem.Params) => ⟨.none, none, (.fields #[(.int 1 0), (.int 0 0), (.ref 20), (.int 5 0), (.int 0 0), (.ref 27), (.int 23 0), (.int 0 0), (.ref 70), (.int 27 0), (.int 0 0), (.ref 92)]), #[]⟩)
noncomputable def t205 : ((x0 : @PySem.Params) → @PySem.W.BT) := (fun (x0 : @PySem.Params) => (.node (@PySem.W.boot_o_0 x0) (.node (@PySem.W.boot_o_1 x0) (.node (o124 x0) (.node (@PySem.W.boot_o_7 x0) (.node (o51 x0) (.node (o67 x0) (.node (o99 x0) (.node (o167 x0) .nil .nil) .nil) (.node (o135 x0) (.node (o199 x0) .nil .nil) .nil)) (.node (o83 x0) (.node (o117 x0) (.node (o183 x0) .nil .nil) .nil) (.node (o151 x0) .nil .nil))) (.node (o59 x0) (.node (o75 x0) (.node (o109 x0) (.node (o175 x0) .nil .nil) .nil) (.node (o143 x0) .nil .nil)) (.node (o91 x0) (.node (o127 x0) (.node (o191 x0) .nil .nil) .nil) (.node (o159 x0) .nil .nil)))) (.node (o43 x0) (.node (o55 x0) (.node (o71 x0) (.node (o105 x0) (.node (o171 x0) .nil .nil) .nil) (.node (o139 x0) (.node (o203 x0) .nil .nil) .nil)) (.node (o87 x0) (.node (o121 x0) (.node (o187 x0) .nil .nil) .nil) (.node (o155 x0) .nil .nil))) (.node (o63 x0) (.node (o79 x0) (.node (o113 x0) (.node (o179 x0) .nil .nil) .nil) (.node (o147 x0) .nil .nil)) (.node (o95 x0) (.node (o131 x0) (.node (o195 x0) .nil .nil) .nil) (.node (o163 x0) .nil .nil))))) (.node (@PySem.W.boot_o_5 x0) (.node (@PySem.W.boot_o_9 x0) (.node (o53 x0) (.node (o69 x0) (.node (o103 x0) (.node (o169 x0) .nil .nil) .nil) (.node (o137 x0) (.node (o201 x0) .nil .nil) .nil)) (.node (o85 x0) (.node (o119 x0) (.node (o185 x0) .nil .nil) .nil) (.node (o153 x0) .nil .nil))) (.node (o61 x0) (.node (o77 x0) (.node (o111 x0) (.node (o177 x0) .nil .nil) .nil) (.node (o145 x0) .nil .nil)) (.node (o93 x0) (.node (o129 x0) (.node (o193 x0) .nil .nil) .nil) (.node (o161 x0) .nil .nil)))) (.node (o45 x0) (.node (o57 x0) (.node (o73 x0) (.node (o107 x0) (.node (o173 x0) .nil .nil) .nil) (.node (o141 x0) (.node (o205 x0) .nil .nil) .nil)) (.node (o89 x0) (.node (o123 x0) (.node (o189 x0) .nil .nil) .nil) (.node (o157 x0) .nil .nil))) (.node (o65 x0) (.node (o81 x0) (.node (o115 x0) (.node (o181 x0) .nil .nil) .nil) (.node (o149 x0) .nil .nil)) (.node (o97 x0) (.node (o133 x0) (.node (o197 x0) .nil .nil) .nil) (.node (o165 x0) .nil .nil)))))) (.node (@PySem.W.boot_o_2 x0) (.node (@PySem.W.boot_o_4 x0) (.node (@PySem.W.boot_o_8 x0) (.node (o52 x0) (.node (o68 x0) (.node (o100 x0) (.node (o168 x0) .nil .nil) .nil) (.node (o136 x0) (.node (o200 x0) .nil .nil) .nil)) (.node (o84 x0) (.node (o118 x0) (.node (o184 x0) .nil .nil) .nil) (.node (o152 x0) .nil .nil))) (.node (o60 x0) (.node (o76 x0) (.node (o110 x0) (.node (o176 x0) .nil .nil) .nil) (.node (o144 x0) .nil .nil)) (.node (o92 x0) (.node (o128 x0) (.node (o192 x0) .nil .nil) .nil) (.node (o160 x0) .nil .nil)))) (.node (o125 x0) (.node (o56 x0) (.node (o72 x0) (.node (o106 x0) (.node (o172 x0) .nil .nil) .nil) (.node (o140 x0) (.node (o204 x0) .nil .nil) .nil)) (.node (o88 x0) (.node (o122 x0) (.node (o188 x0) .nil .nil) .nil) (.node (o156 x0) .nil .nil))) (.node (o64 x0) (.node (o80 x0) (.node (o114 x0) (.node (o180 x0) .nil .nil) .nil) (.node (o148 x0) .nil .nil)) (.node (o96 x0) (.node (o132 x0) (.node (o196 x0) .nil .nil) .nil) (.node (o164 x0) .nil .nil))))) (.node (@PySem.W.boot_o_6 x0) (.node (@PySem.W.boot_o_10 x0) (.node (o54 x0) (.node (o70 x0) (.node (o104 x0) (.node (o170 x0) .nil .nil) .nil) (.node (o138 x0) (.node (o202 x0) .nil .nil) .nil)) (.node (o86 x0) (.node (o120 x0) (.node (o186 x0) .nil .nil) .nil) (.node (o154 x0) .nil .nil))) (.node (o62 x0) (.node (o78 x0) (.node (o112 x0) (.node (o178 x0) .nil .nil) .nil) (.node (o146 x0) .nil .nil)) (.node (o94 x0) (.node (o130 x0) (.node (o194 x0) .nil .nil) .nil) (.node (o162 x0) .nil .nil)))) (.node (o46 x0) (.node (o58 x0) (.node (o74 x0) (.node (o108 x0) (.node (o174 x0) .nil .nil) .nil) (.node (o142 x0) .nil .nil)) (.node (o90 x0) (.node (o126 x0) (.node (o190 x0) .nil .nil) .nil) (.node (o158 x0) .nil .nil))) (.node (o66 x0) (.node (o82 x0) (.node (o116 x0) (.node (o182 x0) .nil .nil) .nil) (.node (o150 x0) .nil .nil)) (.node (o98 x0) (.node (o134 x0) (.node (o198 x0) .nil .nil) .nil) (.node (o166 x0) .nil .nil))))))))
noncomputable def l279 : (@List @PySem.Stmt) := [(st 5), (st 6), (st 7), (st 8), (st 9), (st 10), (st 11)]
noncomputable def o329 : ((x0 : @PySem.Params) → @PySem.Obj) := (fun (x0 : @PySem.Params) => ⟨.none, none, (.fields #[(.int 1 0), (.int 0 0), (.ref 20), (.int 5 0), (.int 0 0), (.ref 27), (.int 23 0), (.int 0 0), (.ref 70), (.int 27 0), (.int 0 0), (.ref 92), (.int 72 0), (.int 0 0), (.ref 171), (.int 74 0), (.int 0 0), (.ref 184), (.int 82 0), (.int 0 0), (.ref 191), (.int 98 0), (.int 0 0), (.ref 198), (.int 102 0), (.int 0 0), (.ref 205), (.int 108 0), (.int 0 0), (.ref 210), (.int 117 0), (.int 0 0), (.ref 215)]), #[]⟩)
noncomputable def l328 : (@List @PySem.Stmt) := [(st 12)]
noncomputable def o333 : ((x0 : @PySem.Params) → @PySem.Obj) := (fun (x0 : @PySem.Params) => ⟨(.type "code"), none, (.fields #[(.str (Str.ofString "law") 501), (.str (Str.ofString "law") 502), (.str (Str.ofString "/claim/cut.py") 503), (.int 117 0), (.int 1 0), (.int 0 0), (.int 0 0), (.int 3 0), (.ref 212), (.bool true), (.int 181 0), (.ref 213), .none, .none, .none, (.ref 214), (.int 504 0), (.int 117 0), (.str (Str.ofString "/claim/cut.py") 505)]), #[]⟩)
noncomputable def o332 : ((x0 : @PySem.Params) → @PySem.Obj) := (fun (x0 : @PySem.Params) => ⟨.none, none, (.func ⟨(Str.ofString "law"), (Str.ofString "law"), (fdA (st 12)), (.stmts (fdB (st 12))), (fdS (st 12)), 0, [], .none, .none, .none, .none, none, .none, .none, 0⟩), #[]⟩)
noncomputable def t334 : ((x0 : @PySem.Params) → @PySem.W.BT) := (fun (x0 : @PySem.Params) => (.node (@PySem.W.boot_o_0 x0) (.node (@PySem.W.boot_o_1 x0) (.node (o328 x0) (.node (@PySem.W.boot_o_7 x0) (.node (o51 x0) (.node (o67 x0) (.node (o99 x0) (.node (o167 x0) .nil .nil) (.node (o307 x0) .nil .nil)) (.node (o135 x0) (.node (o199 x0) .nil .nil) .nil)) (.node (o83 x0) (.node (o117 x0) (.node (o183 x0) .nil .nil) (.node (o323 x0) .nil .nil)) (.node (o151 x0) (.node (o291 x0) .nil .nil) .nil))) (.node (o59 x0) (.node (o75 x0) (.node (o109 x0) (.node (o175 x0) .nil .nil) (.node (o315 x0) .nil .nil)) (.node (o143 x0) (.node (o283 x0) .nil .nil) .nil)) (.node (o91 x0) (.node (o127 x0) (.node (o191 x0) .nil .nil) (.node (o333 x0) .nil .nil)) (.node (o159 x0) (.node (o299 x0) .nil .nil) .nil)))) (.node (o43 x0) (.node (o55 x0) (.node (o71 x0) (.node (o105 x0) (.node (o171 x0) .nil .nil) (.node (o311 x0) .nil .nil)) (.node (o139 x0) (.node (o203 x0) .nil .nil) .nil)) (.node (o87 x0) (.node (o121 x0) (.node (o187 x0) .nil .nil) (.node (o327 x0) .nil .nil)) (.node (o155 x0) (.node (o295 x0) .nil .nil) .nil))) (.node (o63 x0) (.node (o79 x0) (.node (o113 x0) (.node (o179 x0) .nil .nil) (.node (o319 x0) .nil .nil)) (.node (o147 x0) (.node (o287 x0) .nil .nil) .nil)) (.node (o95 x0) (.node (o131 x0) (.node (o195 x0) .nil .nil) .nil) (.node (o163 x0) (.node (o303 x0) .nil .nil) .nil))))) (.node (@PySem.W.boot_o_5 x0) (.node (@PySem.W.boot_o_9 x0) (.node (o53 x0) (.node (o69 x0) (.node (o103 x0) (.node (o169 x0) .nil .nil) (.node (o309 x0) .nil .nil)) (.node (o137 x0) (.node (o201 x0) .nil .nil) .nil)) (.node (o85 x0) (.node (o119 x0) (.node (o185 x0) .nil .nil) (.node (o325 x0) .nil .nil)) (.node (o153 x0) (.node (o293 x0) .nil .nil) .nil))) (.node (o61 x0) (.node (o77 x0) (.node (o111 x0) (.node (o177 x0) .nil .nil) (.node (o317 x0) .nil .nil)) (.node (o145 x0) (.node (o285 x0) .nil .nil) .nil)) (.node (o93 x0) (.node (o129 x0) (.node (o193 x0) .nil .nil) .nil) (.node (o161 x0) (.node (o301 x0) .nil .nil) .nil)))) (.node (o45 x0) (.node (o57 x0) (.node (o73 x0) (.node (o107 x0) (.node (o173 x0) .nil .nil) (.node (o313 x0) .nil .nil)) (.node (o141 x0) (.node (o205 x0) .nil .nil) .nil)) (.node (o89 x0) (.node (o123 x0) (.node (o189 x0) .nil .nil) (.node (o331 x0) .nil .nil)) (.node (o157 x0) (.node (o297 x0) .nil .nil) .nil))) (.node (o65 x0) (.node (o81 x0) (.node (o115 x0) (.node (o181 x0) .nil .nil) (.node (o321 x0) .nil .nil)) (.node (o149 x0) (.node (o289 x0) .nil .nil) .nil)) (.node (o97 x0) (.node (o133 x0) (.node (o197 x0) .nil .nil) .nil) (.node (o165 x0) (.node (o305 x0) .nil .nil) .nil)))))) (.node (@PySem.W.boot_o_2 x0) (.node (@PySem.W.boot_o_4 x0) (.node (@PySem.W.boot_o_8 x0) (.node (o52 x0) (.node (o68 x0) (.node (o100 x0) (.node (o168 x0) .nil .nil) (.node (o308 x0) .nil .nil)) (.node (o136 x0) (.node (o200 x0) .nil .nil) .nil)) (.node (o84 x0) (.node (o118 x0) (.node (o184 x0) .nil .nil) (.node (o324 x0) .nil .nil)) (.node (o152 x0) (.node (o292 x0) .nil .nil) .nil))) (.node (o60 x0) (.node (o76 x0) (.node (o110 x0) (.node (o176 x0) .nil .nil) (.node (o316 x0) .nil .nil)) (.node (o144 x0) (.node (o284 x0) .nil .nil) .nil)) (.node (o92 x0) (.node (o128 x0) (.node (o192 x0) .nil .nil) (.node (o334 x0) .nil .nil)) (.node (o160 x0) (.node (o300 x0) .nil .nil) .nil)))) (.node (o329 x0) (.node (o56 x0) (.node (o72 x0) (.node (o106 x0) (.node (o172 x0) .nil .nil) (.node (o312 x0) .nil .nil)) (.node (o140 x0) (.node (o204 x0) .nil .nil) .nil)) (.node (o88 x0) (.node (o122 x0) (.node (o188 x0) .nil .nil) (.node (o330 x0) .nil .nil)) (.node (o156 x0) (.node (o296 x0) .nil .nil) .nil))) (.node (o64 x0) (.node (o80 x0) (.node (o114 x0) (.node (o180 x0) .nil .nil) (.node (o320 x0) .nil .nil)) (.node (o148 x0) (.node (o288 x0) .nil .nil) .nil)) (.node (o96 x0) (.node (o132 x0) (.node (o196 x0) .nil .nil) .nil) (.node (o164 x0) (.node (o304 x0) .nil .nil) .nil))))) (.node (@PySem.W.boot_o_6 x0) (.node (@PySem.W.boot_o_10 x0) (.node (o54 x0) (.node (o70 x0) (.node (o104 x0) (.node (o170 x0) .nil .nil) (.node (o310 x0) .nil .nil)) (.node (o138 x0) (.node (o281 x0) .nil .nil) .nil)) (.node (o86 x0) (.node (o120 x0) (.node (o186 x0) .nil .nil) (.node (o326 x0) .nil .nil)) (.node (o154 x0) (.node (o294 x0) .nil .nil) .nil))) (.node (o62 x0) (.node (o78 x0) (.node (o112 x0) (.node (o178 x0) .nil .nil) (.node (o318 x0) .nil .nil)) (.node (o146 x0) (.node (o286 x0) .nil .nil) .nil)) (.node (o94 x0) (.node (o130 x0) (.node (o194 x0) .nil .nil) .nil) (.node (o162 x0) (.node (o302 x0) .nil .nil) .nil)))) (.node (o46 x0) (.node (o58 x0) (.node (o74 x0) (.node (o108 x0) (.node (o174 x0) .nil .nil) (.node (o314 x0) .nil .nil)) (.node (o142 x0) (.node (o282 x0) .nil .nil) .nil)) (.node (o90 x0) (.node (o126 x0) (.node (o190 x0) .nil .nil) (.node (o332 x0) .nil .nil)) (.node (o158 x0) (.node (o298 x0) .nil .nil) .nil))) (.node (o66 x0) (.node (o82 x0) (.node (o116 x0) (.node (o182 x0) .nil .nil) (.node (o322 x0) .nil .nil)) (.node (o150 x0) (.node (o290 x0) .nil .nil) .nil)) (.node (o98 x0) (.node (o134 x0) (.node (o198 x0) .nil .nil) .nil) (.node (o166 x0) (.node (o306 x0) .nil .nil) .nil))))))))
noncomputable def o44 : ((x0 : @PySem.Params) → @PySem.Obj) := (fun (x0 : @PySem.Params) => ⟨.none, none, (.fields #[]), #[]⟩)
noncomputable def h46 : ((x0 : @PySem.Params) → @PySem.Heap) := (fun (x0 : @PySem.Params) => ⟨⟨[(@PySem.W.boot_o_0 x0), (@PySem.W.boot_o_1 x0), (@PySem.W.boot_o_2 x0), (@PySem.W.boot_o_3 x0), (@PySem.W.boot_o_4 x0), (@PySem.W.boot_o_5 x0), (@PySem.W.boot_o_6 x0), (@PySem.W.boot_o_7 x0), (@PySem.W.boot_o_8 x0), (@PySem.W.boot_o_9 x0), (@PySem.W.boot_o_10 x0), (o43 x0), (o44 x0), (o45 x0), (o46 x0)]⟩, ⟨[], [], [], 0, [], [], false, #[], [], 0, false, false, false, 0, [2000, 10, 10], false, 0, true, [], [], 0, false⟩⟩)
noncomputable def h335 : ((x0 : @PySem.Params) → @PySem.Heap) := (fun (x0 : @PySem.Params) => ⟨⟨[(@PySem.W.boot_o_0 x0), (@PySem.W.boot_o_1 x0), (@PySem.W.boot_o_2 x0), (o328 x0), (@PySem.W.boot_o_4 x0), (@PySem.W.boot_o_5 x0), (@PySem.W.boot_o_6 x0), (@PySem.W.boot_o_7 x0), (@PySem.W.boot_o_8 x0), (@PySem.W.boot_o_9 x0), (@PySem.W.boot_o_10 x0), (o43 x0), (o329 x0), (o45 x0), (o46 x0), (o51 x0), (o52 x0), (o53 x0), (o54 x0), (o55 x0), (o56 x0), (o57 x0), (o58 x0), (o59 x0), (o60 x0), (o61 x0), (o62 x0), (o63 x0), (o64 x0), (o65 x0), (o66 x0), (o67 x0), (o68 x0), (o69 x0), (o70 x0), (o71 x0), (o72 x0), (o73 x0), (o74 x0), (o75 x0), (o76 x0), (o77 x0), (o78 x0), (o79 x0), (o80 x0), (o81 x0), (o82 x0), (o83 x0), (o84 x0), (o85 x0), (o86 x0), (o87 x0), (o88 x0), (o89 x0), (o90 x0), (o91 x0), (o92 x0), (o93 x0), (o94 x0), (o95 x0), (o96 x0), (o97 x0), (o98 x0), (o99 x0), (o100 x0), (o103 x0), (o104 x0), (o105 x0), (o106 x0), (o107 x0), (o108 x0), (o109 x0), (o110 x0), (o111 x0), (o112 x0), (o113 x0), (o114 x0), (o115 x0), (o116 x0), (o117 x0), (o118 x0), (o119 x0), (o120 x0), (o121 x0), (o122 x0), (o123 x0), (o126 x0), (o127 x0), (o128 x0), (o129 x0), (o130 x0), (o131 x0), (o132 x0), (o133 x0), (o134 x0), (o135 x0), (o136 x0), (o137 x0), (o138 x0), (o139 x0), (o140 x0), (o141 x0), (o142 x0), (o143 x0), (o144 x0), (o145 x0), (o146 x0), (o147 x0), (o148 x0), (o149 x0), (o150 x0), (o151 x0), (o152 x0), (o153 x0), (o154 x0), (o155 x0), (o156 x0), (o157 x0), (o158 x0), (o159 x0), (o160 x0), (o161 x0), (o162 x0), (o163 x0), (o164 x0), (o165 x0), (o166 x0), (o167 x0), (o168 x0), (o169 x0), (o170 x0), (o171 x0), (o172 x0), (o173 x0), (o174 x0), (o175 x0), (o176 x0), (o177 x0), (o178 x0), (o179 x0), (o180 x0), (o181 x0), (o182 x0), (o183 x0), (o184 x0), (o185 x0), (o186 x0), (o187 x0), (o188 x0), (o189 x0), (o190 x0), (o191 x0), (o192 x0), (o193 x0), (o194 x0), (o195 x0), (o196 x0), (o197 x0), (o198 x0), (o199 x0), (o200 x0), (o201 x0), (o281 x0), (o203 x0), (o204 x0), (o205 x0), (o282 x0), (o283 x0), (o284 x0), (o285 x0), (o286 x0), (o287 x0), (o288 x0), (o289 x0), (o290 x0), (o291 x0), (o292 x0), (o293 x0), (o294 x0), (o295 x0), (o296 x0), (o297 x0), (o298 x0), (o299 x0), (o300 x0), (o301 x0), (o302 x0), (o303 x0), (o304 x0), (o305 x0), (o306 x0), (o307 x0), (o308 x0), (o309 x0), (o310 x0), (o311 x0), (o312 x0), (o313 x0), (o314 x0), (o315 x0), (o316 x0), (o317 x0), (o318 x0), (o319 x0), (o320 x0), (o321 x0), (o322 x0), (o323 x0), (o324 x0), (o325 x0), (o326 x0), (o327 x0), (o330 x0), (o331 x0), (o332 x0), (o333 x0), (o334 x0)]⟩, ⟨[], [], [], 0, [], [], false, #[], [], 0, false, false, false, 0, [2000, 10, 10], false, 0, true, [], [], 0, false⟩⟩)
noncomputable def l124 : (@List @PySem.Stmt) := [(st 4)]
noncomputable def t47 : ((x0 : @PySem.Params) → @PySem.W.BT) := (fun (x0 : @PySem.Params) => (.node (@PySem.W.boot_o_0 x0) (.node (@PySem.W.boot_o_1 x0) (.node (@PySem.W.boot_o_3 x0) (.node (@PySem.W.boot_o_7 x0) .nil .nil) (.node (o43 x0) .nil .nil)) (.node (@PySem.W.boot_o_5 x0) (.node (@PySem.W.boot_o_9 x0) .nil .nil) (.node (o45 x0) .nil .nil))) (.node (@PySem.W.boot_o_2 x0) (.node (@PySem.W.boot_o_4 x0) (.node (@PySem.W.boot_o_8 x0) .nil .nil) (.node (o44 x0) .nil .nil)) (.node (@PySem.W.boot_o_6 x0) (.node (@PySem.W.boot_o_10 x0) .nil .nil) (.node (o46 x0) .nil .nil)))))
noncomputable def fr : PySem.Params → PySem.W.Frag := fun (x0 : PySem.Params) => [(2, PySem.W.boot_o_2 x0), (3, o328 x0), (15, o51 x0), (17, o53 x0), (18, o54 x0), (20, o56 x0), (21, o57 x0), (29, o65 x0), (31, o67 x0), (32, o68 x0), (34, o70 x0), (35, o71 x0), (36, o72 x0), (37, o73 x0), (39, o75 x0), (40, o76 x0), (42, o78 x0), (43, o79 x0), (44, o80 x0), (46, o82 x0), (47, o83 x0), (49, o85 x0), (50, o86 x0), (51, o87 x0), (53, o89 x0), (54, o90 x0), (56, o92 x0), (57, o93 x0), (58, o94 x0), (59, o95 x0), (60, o96 x0), (61, o97 x0), (62, o98 x0), (72, o110 x0), (74, o112 x0), (75, o113 x0), (77, o115 x0), (78, o116 x0), (79, o117 x0), (80, o118 x0), (81, o119 x0), (82, o120 x0), (83, o121 x0), (86, o126 x0), (89, o129 x0), (94, o134 x0), (95, o135 x0), (96, o136 x0), (97, o137 x0), (99, o139 x0), (100, o140 x0), (102, o142 x0), (103, o143 x0), (104, o144 x0), (106, o146 x0), (107, o147 x0), (109, o149 x0), (110, o150 x0), (111, o151 x0), (112, o152 x0), (113, o153 x0), (114, o154 x0), (115, o155 x0), (117, o157 x0), (118, o158 x0), (120, o160 x0), (121, o161 x0), (122, o162 x0), (124, o164 x0), (125, o165 x0), (127, o167 x0), (128, o168 x0), (129, o169 x0), (131, o171 x0), (132, o172 x0), (134, o174 x0), (135, o175 x0), (136, o176 x0), (138, o178 x0), (139, o179 x0), (141, o181 x0), (142, o182 x0), (143, o183 x0), (144, o184 x0), (145, o185 x0), (147, o187 x0), (148, o188 x0), (150, o190 x0), (151, o191 x0), (153, o193 x0), (154, o194 x0), (156, o196 x0), (157, o197 x0), (159, o199 x0), (161, o201 x0), (162, o281 x0), (163, o203 x0), (166, o282 x0), (173, o289 x0), (174, o290 x0), (175, o291 x0), (176, o292 x0), (179, o295 x0), (181, o297 x0), (182, o298 x0), (184, o300 x0), (185, o301 x0), (186, o302 x0), (188, o304 x0), (189, o305 x0), (191, o307 x0), (192, o308 x0), (193, o309 x0), (195, o311 x0), (196, o312 x0), (198, o314 x0), (199, o315 x0), (200, o316 x0), (202, o318 x0), (203, o319 x0), (205, o321 x0), (206, o322 x0), (207, o323 x0), (210, o326 x0), (211, o327 x0), (212, o330 x0), (215, o333 x0), (216, o334 x0)]
noncomputable def as1 : List Addr := [2, 3, 15, 17, 18, 20, 21, 29, 31, 32, 34, 35, 36, 37, 39, 40, 42, 43, 44, 46, 47, 49, 50, 51, 53, 54, 56, 57, 58, 59, 60, 61, 62, 72, 74, 75, 77, 78, 79, 80, 81, 82, 83, 86, 89, 94, 95, 96, 97, 99, 100, 102, 103, 104, 106, 107, 109, 110, 111, 112, 113, 114, 115, 117, 118, 120, 121, 122, 124, 125, 127, 128, 129, 131, 132, 134, 135, 136, 138, 139, 141, 142, 143, 144, 145, 147, 148, 150, 151, 153, 154, 156, 157, 159, 161, 162, 163, 166, 173, 174, 175, 176, 179, 181, 182, 184, 185, 186, 188, 189, 191, 192, 193, 195, 196, 198, 199, 200, 202, 203, 205, 206, 207, 210, 211, 212, 215, 216]
noncomputable def vw : Program := { pw with main := { pw.main with body := [st 0, st 2, st 3, st 4, st 5, st 6, st 7, st 9, st 10, st 11, st 12] } }


noncomputable def env1 : Env := { scope := pw.main.scope, locals := mainNs, globals := mainNs, cells := [], code := .ref 13, frame := some 14 }
noncomputable def S (t : BT) (n k : Nat) (os : OsState) : SharedT := { tree := t, n := n, life := {}, gens := ⟨[]⟩, drawn := {}, toks := k, os := os }
noncomputable def cd : Code := .body (behindTheImports pw) env1
noncomputable abbrev B0 : List Frame := [topFrame ⟨0, 0, 0, 0⟩]
noncomputable abbrev ann : Option Value := some (.ref 6)
noncomputable abbrev Sh (h : Heap) (k : Nat) (os : OsState) : Shared := ⟨h, ⟨[]⟩, {}, k, os⟩
theorem q1 : @segRunT = Fast.tw10110043849684766642 := Fast.te10110043849684766642
theorem q2 : treeTable = Fast.tw14364793385576792824 := Fast.te14364793385576792824
theorem pre1 (w : World) : (fun os => topGo treeTable pw w 11 ann 12 ⟨boot_heap w.params, ⟨[]⟩, boot_drawn, boot_toks, os⟩ (topStub pw)) = fun os => some (Sh (h46 w.params) 187 os, ⟨denote treeTable cd, cd, ⟨0, 0, 0, 0⟩, B0⟩) := by
  rw [show @topGo = Fast.tw15667345088766844465 from Fast.te15667345088766844465, q2, show @denote = Fast.tw11892475500146522536 from Fast.te11892475500146522536]; kernel_rfl
theorem block1 (w : World) : (fun os => segRun treeTable pw w 11 ann 1 1 (Sh (h46 w.params) 187 os) (blockOf (behindTheImports pw) env1 cd ⟨0, 0, 0, 0⟩ B0)) = fun os => some (.next, (S (t47 w.params) 15 187 os).abs, cd, ⟨0, 0, 0, 0⟩) := by
  rw [show @segRun = Fast.tw14374325043358763698 from Fast.te14374325043358763698, q2]; kernel_rfl
theorem seg1 (w : World) : (fun os => segRunT treeTable pw w 11 ann 1 362 (S (t47 w.params) 15 187 os) (piecesOf l49 env1 cd ⟨0, 0, 0, 0⟩ B0)) = fun os => some (.next, S (t100 w.params) 65 253 os, cd, ⟨5, 0, 22, 54⟩) := by
  rw [q1, q2]; kernel_rfl
theorem seg2 (w : World) : (fun os => segRunT treeTable pw w 11 ann 1 221 (S (t100 w.params) 65 253 os) (piecesOf l101 env1 cd ⟨5, 0, 22, 54⟩ B0)) = fun os => some (.next, S (t123 w.params) 86 280 os, cd, ⟨23, 0, 26, 26⟩) := by
  rw [q1, q2]; kernel_rfl
theorem seg3 (w : World) : (fun os => segRunT treeTable pw w 11 ann 1 1341 (S (t123 w.params) 86 280 os) (piecesOf l124 env1 cd ⟨23, 0, 26, 26⟩ B0)) = fun os => some (.next, S (t205 w.params) 166 434 os, cd, ⟨27, 0, 71, 55⟩) := by
  rw [q1, q2]; kernel_rfl
theorem seg4 (w : World) : (fun os => segRunT treeTable pw w 11 ann 1 387 (S (t205 w.params) 166 434 os) (piecesOf l279 env1 cd ⟨27, 0, 71, 55⟩ B0)) = fun os => some (.next, S (t327 w.params) 212 501 os, cd, ⟨108, 0, 116, 65⟩) := by
  rw [q1, q2]; kernel_rfl
theorem seg5 (w : World) : (fun os => segRunT treeTable pw w 11 ann 1 27 (S (t327 w.params) 212 501 os) (piecesOf l328 env1 cd ⟨108, 0, 116, 65⟩ B0)) = fun os => some (.next, S (t334 w.params) 217 507 os, cd, ⟨117, 0, 149, 25⟩) := by
  rw [q1, q2]; kernel_rfl
theorem fin1 (w : World) : (fun os => topRun treeTable pw w 11 ann 2 (S (t334 w.params) 217 507 os).abs ⟨doneF .next, cd, ⟨117, 0, 149, 25⟩, B0⟩) = fun os => some (Sh (h335 w.params) 507 os) := by
  rw [show @topRun = Fast.tw14082659384304107361 from Fast.te14082659384304107361, q2]; kernel_rfl
theorem size1 (w : World) : ((boot_heap w.params).isNs mainGlobals && (⟨[]⟩ : Array GenState).size == 0, (boot_heap w.params).objs.size, (boot_heap w.params).nsMap mainGlobals "__annotations__") = (true, 11, ann) := by
  rw [show @Heap.nsMap = Fast.tw8920871248978507458 from Fast.te8920871248978507458]; kernel_rfl
theorem open1 : ∀ w : World, (fencedOpening treeTable pw w 5702).map (fun s => (s.heap, s.gens, s.drawn, s.toks)) = some (boot_heap w.params, ⟨[]⟩, boot_drawn, boot_toks) := boot_open (by kernel_rfl) (by kernel_rfl) (fun _ => by kernel_rfl)
theorem bE : behindTheImports pw = l49 ++ (l101 ++ (l124 ++ (l279 ++ (l328 ++ [])))) := by kernel_rfl
theorem q10 : @importedModules = Fast.tw5923862056798008813 := Fast.te5923862056798008813
theorem stat1 (w : World) (os : OsState) : (staticsOk (importedModules pw.main.body) (boot_heap w.params) (h335 w.params) && namesBound pw (h335 w.params) && gensDone (Sh (h335 w.params) 507 os) && laidKept (boot_heap w.params) (h335 w.params)) = true := by
  rw [q10]; kernel_rfl
theorem said1 : OpenLaw.wellSaid PySem.Challenge.rw_io0064_05 = true := by
  rw [Fast.te9446332074065402090]; kernel_rfl
noncomputable def loose : List Str := [(Str.ofString "_tuplegetter"), (Str.ofString "_ExceptionTableEntryBase")]
theorem asO (P : Params) : as1 = (fr P).map (·.1) := by kernel_rfl
theorem seen1 (w : World) (os : OsState) : openSeen vw loose (importedModules pw.main.body) (fun s => xlAt vw [] s && recOk [] s) true (Sh (h335 w.params) 507 os) = openGood vw loose := by
  rw [show @openSeen = Fast.tw4187177175401517315 from Fast.te4187177175401517315, q10]; kernel_rfl
theorem obs1 (w : World) (os : OsState) : (kHook fr as1 asO).obs (Sh (h335 w.params) 507 os) = (kHook fr as1 asO).val w := by kernel_rfl
theorem run1 (w : World) (os : OsState) : topRun treeTable pw w 11 ann (12 + (1 + (362 + (221 + (1341 + (387 + (27 + 2))))))) ⟨boot_heap w.params, ⟨[]⟩, boot_drawn, boot_toks, os⟩ (topStub pw) = some (Sh (h335 w.params) 507 os) := by
  refine go_top (congrFun (pre1 w) os) (piece_block (congrFun (block1 w) os) ?_)
  rw [bE]
  exact piece_app (segRun_of (congrFun (seg1 w) os)) (piece_app (segRun_of (congrFun (seg2 w) os)) (piece_app (segRun_of (congrFun (seg3 w) os)) (piece_app (segRun_of (congrFun (seg4 w) os)) (piece_app (segRun_of (congrFun (seg5 w) os)) (piece_nil (congrFun (fin1 w) os))))))
theorem left1 : LeftO pw vw loose (fun s => xlAt vw [] s && recOk [] s) (kHook fr as1 asO).obs (kHook fr as1 asO).val 5702 := by
  refine LeftO.of_pieces (H₁ := h335) open1 size1 run1 (by decide) fun w => ?_
  funext os
  exact looks_pair (stat1 w os) (looks_pair (seen1 w os) (obs1 w os))
end Mine
end
noncomputable section
open PySem PySem.W PyProof.Rows PySem.SeqAt
set_option Elab.async false
set_option maxRecDepth 100000
set_option maxHeartbeats 4000000
set_option linter.unusedVariables false
namespace Mine
variable {wd : Wd}
theorem varint_at (P : Params) : ∃ fd scope body, FnSc (fr P) 185 fd scope body [Str.ofString "iterator"] ∧ ∀ wd : Wd, Bd wd → wd.G (Str.ofString "next") = some (.builtin "next") → VarintSpec wd scope body := by
  refine ⟨_, _, _, .of ⟨_, rfl, rfl⟩ (by kernel_rfl) rfl rfl rfl (by decide +kernel) (by decide +kernel) (by decide +kernel) ?_, ?_⟩
  · intro s vals _ hl
    obtain ⟨a, rfl⟩ := len1 hl
    exact BindsTo.of_eq (by rfl)
  · intro wd B hG d σ j zs Q QE hs hz hok hend
    refine PFX.cons (PFX.assign (.inl (by decide +kernel)) (PVX.callB B hG (by decide +kernel) (PVs.cons (PV.name (by rfl) (PVs.nil (CallX.next hs ?_ ?_))))))
    · intro v rest o' e hs1
      cases zs with
      | nil => cases e
      | cons b r =>
        obtain ⟨rfl, rfl⟩ := List.cons.inj e
        dsimp only
        refine PFX.cons (PFX.of (PF.assign (.inl (by decide +kernel)) (PV.bin (PV.name (by rfl) (PV.cint ⟨_, _, _, rfl, rfl, .band, ?_⟩)))))
        dsimp only
        refine PFX.cons (PFX.whileS (VI (b :: r) σ j) r.length ⟨b, Builtin.bitAnd b 63, r, o', rfl, hs1, rfl, by rfl, by rfl, by rfl, by rw [and63]; omega, ?_, by simp, ?_⟩ ?_)
        · rw [and63, show (b :: r).length - r.length = 1 by simp]; omega
        · rw [and63]; simp [vint]
        · rintro n ν σ' ⟨b', val, r', o2, rfl, hs2, rfl, h1, h2, h3, h4, h5, h6, h7⟩
          have hz' : r'.length < 1000000 := Nat.lt_of_lt_of_le h6 hz
          refine PB.valI (PV.bin (PV.name h1 (PV.cint ⟨_, _, _, rfl, rfl, .band, _, rfl, ?_⟩)))
          rw [and64]
          by_cases c : 64 ≤ b' % 128
          · rw [decide_eq_true c, if_pos rfl]
            rw [if_pos c] at h7
            refine PFX.cons (PFX.of (PF.aug (.inl (by decide +kernel)) h2 (PV.cint ⟨_, _, rfl, AugI.shl (n := 6) ?_, ?_⟩)))
            · have := bits_lt h4 h5; omega
            dsimp only
            refine PFX.cons (PFX.assign (.inl (by decide +kernel)) (PVX.callB B hG (by decide +kernel) (PVs.cons (PV.name (v := .ref j) ?_ (PVs.nil (CallX.next hs2 ?_ ?_))))))
            · exact h3
            · intro v rest o3 e hs3
              cases r' with
              | nil => cases e
              | cons b2 r2 =>
                obtain ⟨rfl, rfl⟩ := List.cons.inj e
                dsimp only
                rw [List.set_set] at hs3 ⊢
                refine PFX.cons (PFX.of (PF.aug (.inl (by decide +kernel)) (by rfl) (PV.bin (PV.name (by rfl) (PV.cint ⟨_, _, _, rfl, rfl, .band, _, _, rfl, .bor, ?_⟩)))))
                dsimp only
                refine PFX.of (PF.nil ?_)
                dsimp only
                have e64 : val * 2 ^ 6 = val * 64 := by rfl
                have ev : Builtin.bitOr (val * 2 ^ 6) (Builtin.bitAnd b2 63) = val * 64 + b2 % 64 := by rw [and63, e64, or64 h4 (by omega) (by omega)]
                refine ⟨r2.length, by simp, b2, _, r2, o3, rfl, hs3, rfl, by rfl, by rfl, ?_, ?_, ?_, ?_, ?_⟩
                · exact h3
                · rw [ev]; omega
                · rw [ev]
                  have : 6 * ((b :: r).length - r2.length) = 6 * ((b :: r).length - (b2 :: r2).length) + 6 := by
                    simp at h6 ⊢; omega
                  rw [this, Int.pow_add]
                  omega
                · simp at h6 ⊢; omega
                · rw [h7, ev]
                  rw [vint]
            · intro o3 e hs3
              cases r' with
              | cons _ _ => cases e
              | nil =>
                rw [List.set_set] at hs3 ⊢
                exact hend o3 (by rw [h7]; rfl) hs3
          · rw [decide_eq_false c, if_neg (by simp)]
            rw [if_neg c] at h7
            refine PFX.cons (PFX.ret (PVX.of (PV.name h2 ?_)))
            exact hok val r' o2 h7 hs2
    · intro o' e hs1
      cases zs with
      | cons _ _ => cases e
      | nil => exact hend o' rfl hs1
end Mine
end
noncomputable section
open PySem PySem.W PyProof.Rows PySem.SeqAt
set_option Elab.async false
set_option maxRecDepth 100000
set_option maxHeartbeats 4000000
set_option linter.unusedVariables false
namespace Mine
variable {wd : Wd}
abbrev newPs : List Str := [Str.ofString "_cls", Str.ofString "start", Str.ofString "end", Str.ofString "target", Str.ofString "depth", Str.ofString "lasti"]
theorem new_at (P : Params) : ∃ fd scope body, FnSc (fr P) 103 fd scope body newPs ∧ ∀ (wd : Wd) (f : Addr), Bd wd → EntryK wd.K wd.C.EC f → wd.G (Str.ofString "tuple") = some (.type "tuple") → NewSpec wd scope body newPs := by
  refine ⟨_, _, _, .of ⟨_, rfl, rfl⟩ (by kernel_rfl) rfl rfl rfl (by decide +kernel) (by decide +kernel) (by decide +kernel) ?_, ?_⟩
  · intro s vals _ hl
    obtain ⟨a, b, c, d, e, f, rfl⟩ := len6 hl
    exact BindsTo.of_eq (by rfl)
  · intro wd f B K hG d σ l nm Q hl hq
    obtain ⟨a, b, c, dd, e, rfl⟩ := len5 hl
    ·
      refine PF.cons (PF.expr (PV.cstr ?_))
      try dsimp only
      refine PF.cons (PF.ret (PV.typeMeth (id := "tuple.__new__") B hG (by decide +kernel) (by kernel_rfl) (by kernel_rfl) (by kernel_rfl) (by kernel_rfl) ?_))
      refine PVs.cons (PV.name (by rfl) ?_)
      refine PVs.cons (PV.tuple ?_)
      refine PVs.cons (PV.name (by rfl) ?_)
      refine PVs.cons (PV.name (by rfl) ?_)
      refine PVs.cons (PV.name (by rfl) ?_)
      refine PVs.cons (PV.name (by rfl) ?_)
      refine PVs.cons (PV.name (by rfl) ?_)
      refine PVs.nil ⟨by simp, PVs.nil ?_⟩
      exact CallR.tupleNew B K (by simp) hq
abbrev getPs : List Str := [Str.ofString "self", Str.ofString "obj", Str.ofString "objtype"]
theorem get_at (P : Params) : ∃ fd scope body, FnSc (fr P) 43 fd scope body getPs ∧ ∀ (wd : Wd) (f g dx : Addr) (es : List DictEntry) (n k : Nat) (tk : Tok), Bd wd → EntryK wd.K wd.C.EC f → wd.G (Str.ofString "tuple") = some (.type "tuple") → wd.G (Str.ofString "type") = some (.type "type") → wd.G (Str.ofString "issubclass") = some (.builtin "issubclass") →
    wd.K = fr P → wd.K.lookup g = some ⟨.ref 60, some dx, .plain, #[]⟩ → wd.K.lookup dx = some (dictOf es n) → getL (Str.ofString "index") es = some (some (.int k tk)) → k ≤ 4 → GetSpec wd scope body getPs k g := by
  refine ⟨_, _, _, .of ⟨_, rfl, rfl⟩ (by kernel_rfl) rfl rfl rfl (by decide +kernel) (by decide +kernel) (by decide +kernel) ?_, ?_⟩
  · intro s vals X hl
    obtain ⟨a, b, c, rfl⟩ := len3 hl
    exact binds_K X rfl rfl rfl (by rfl) (by rfl)
  · intro wd f g dx es n k tk B K hT hY hI hK h1 h2 h3 h4 d σ l i v Q hv hi hq
    refine PF.cons (PF.ifS (PB.cmp (PV.name (by rfl) (PV.cnone ⟨_, .isNoneR l i, ?_⟩))))
    try dsimp only
    refine PF.nil ?_
    try dsimp only
    refine PF.cons (PF.ifS (PB.not (PB.val (PV.callB B hI (by decide +kernel) ?_))))
    refine PVs.cons (PV.callT B hY (by decide +kernel) ?_)
    refine PVs.cons (PV.name (by rfl) ?_)
    refine PVs.nil (CallR.type1 ?_ hi)
    refine PVs.cons (PV.gty B hT (by decide +kernel) ?_)
    refine PVs.nil (CallR.subTuple B K ⟨true, rfl, ?_⟩)
    try dsimp only
    refine PF.nil ?_
    try dsimp only
    refine PF.cons (PF.ret (PV.typeMeth (id := "tuple.__getitem__") B hT (by decide +kernel) (by kernel_rfl) (by kernel_rfl) (by kernel_rfl) (by kernel_rfl) ?_))
    refine PVs.cons (PV.name (by rfl) ?_)
    refine PVs.cons (PV.attr (PV.name (by rfl) ?_))
    · refine GetR.fixed (v := .int k) B h1 h2 (by rw [hK]; kernel_rfl) (by rw [hK]; kernel_rfl) (attr := Option.none) (by rw [hK]; kernel_rfl) rfl h3 (fun φ h => .int _ _) ?_
      refine PVs.nil (CallR.tupleItem B K hv hi (by omega) hq)
end Mine
end
noncomputable section
open PySem PySem.W PyProof.Rows PySem.SeqAt PySem.Calls
set_option Elab.async false
set_option maxRecDepth 100000
set_option maxHeartbeats 4000000
set_option linter.unusedVariables false
namespace Mine
variable {wd : Wd}
structure TabG (wd : Wd) (aV aN aG : Addr) : Prop where
  iter : wd.G (Str.ofString "iter") = some (.builtin "iter")
  next : wd.G (Str.ofString "next") = some (.builtin "next")
  boo : wd.G (Str.ofString "bool") = some (.type "bool")
  stop : wd.G (Str.ofString "StopIteration") = some (.type "StopIteration")
  vari : wd.G (Str.ofString "_parse_varint") = some (.ref aV)
  entr : wd.G (Str.ofString "_ExceptionTableEntry") = some (.ref wd.C.EC)
theorem tab_at (P : Params) : ∃ fd scope body, FnSc (fr P) 192 fd scope body [Str.ofString "code"] ∧ ∀ (wd : Wd) (aV aN aG : Addr) (fV : FuncData) (sV : Scope) (bV : List Stmt) (fN : FuncData) (sN : Scope) (bN : List Stmt) (pN : List Str), Bd wd → TabG wd aV aN aG → OwnName wd.K wd.C.UC CE → keepIn wd.K (.ref wd.C.EC) = true →
    FnSc wd.K aV fV sV bV [Str.ofString "iterator"] → (∀ L, VarintSpec (wd.in L) sV bV) → EntryK wd.K wd.C.EC aN → FnSc wd.K aN fN sN bN pN → pN.length = 6 → (∀ L, NewSpec (wd.in L) sN bN pN) → wd.hb.fs ≠ [] → TabSpec wd scope body := by
  refine ⟨_, _, _, .of ⟨_, rfl, rfl⟩ (by kernel_rfl) rfl rfl rfl (by decide +kernel) (by decide +kernel) (by decide +kernel) ?_, ?_⟩
  · intro s vals _ hl
    obtain ⟨a, rfl⟩ := len1 hl
    exact BindsTo.of_eq (by rfl)
  · intro wd aV aN aG fV sV bV fN sN bN pN B G OU hkE FV SV KE FN hpN SN hfs d σ i x zs Q hx hsrc hz hok
    refine PFX.cons (PFX.of (PF.assign (.inl (by decide +kernel)) (PV.callB B G.iter (by decide +kernel) ?_)))
    refine PVs.cons (PV.attr (PV.name (by rfl) ?_))
    refine GetR.own (i := i) B (show Inst wd (.code i) wd.C.UC i from ⟨rfl, rfl⟩) OU hx ?_
    refine PVs.nil (CallR.iterS hsrc fun o hs => ?_)
    dsimp only
    refine PFX.cons (PFX.of (PF.assign (.inl (by decide +kernel)) (PV.list (PVs.nil ⟨by simp, ?_⟩))))
    dsimp only
    have hlen : (σ ++ [o]).length = σ.length + 1 := by simp
    rw [hlen]
    refine PFX.cons (PFX.tryS B G.stop (by decide +kernel) ?_ hfs)
    have lt1 : (σ ++ [o] ++ [O.list []]).length = σ.length + 2 := by simp
    refine PFX.cons (PFX.whileS (TI zs σ σ.length (σ.length + 1)) zs.length ⟨zs, [], [], rfl, by rfl, by rfl, ?_, ⟨by rw [← hlen]; simp; rfl, ⟨rfl, .nil, fun _ m => by cases m⟩, Fr.app.trans Fr.app, rfl, rfl⟩, rfl, by simp⟩ ?_)
    · exact hs.fr Fr.app
    · rintro n ν σ' ⟨r, done, is, rfl, hi, he, hs, T, hch, hle⟩
      refine PB.val (PV.cbool ⟨true, rfl, ?_⟩)
      rw [if_pos rfl]
      have hr : r.length ≤ 1000000 := by omega
      have stop : ∀ {σ'' : List O} {ν' : Vars}, TP σ σ.length (σ.length + 1) done is σ'' → chunk (nums 0 r) = [] → ν'.lookup (Str.ofString "entries") = some (.ref (σ.length + 1)) → "StopIteration" = "StopIteration" ∧ ∃ v, ν'.lookup (Str.ofString "entries") = some v ∧ Q (Fl.ret v).val σ'' := by
        intro σ'' ν' T'' e0 hν'
        rw [e0, List.append_nil] at hch
        exact ⟨rfl, _, hν', hok σ'' _ is T''.fr (Nat.le_succ _) (by rw [hch]; exact T''.ent) (by rw [hch]; exact T''.rows)⟩
      refine PFX.cons (PFX.assign (.inl (by decide +kernel)) (PVX.bin (PVX.varint B G.vari FV SV (by decide +kernel) hi hs hr (fun a r1 o1 e1 hs1 => ?_) fun o1 e1 _ => stop (T.set o1) (by rw [nums_none e1]; rfl) he)))
      obtain ⟨n1, l1⟩ := nums_some e1
      refine PV.cint ⟨_, _, _, rfl, rfl, .mul (mul2 _), ?_⟩
      dsimp only
      refine PFX.cons (PFX.assign (.inl (by decide +kernel)) (PVX.bin (PVX.varint (ν := _ :: ν) (j := σ.length) B G.vari FV SV (by decide +kernel) (by exact hi) hs1 (by omega) (fun b r2 o2 e2 hs2 => ?_) fun o2 e2 _ => stop ((T.set o1).set o2) (by rw [n1, nums_none e2]; rfl) (by exact he))))
      obtain ⟨n2, l2⟩ := nums_some e2
      refine PV.cint ⟨_, _, _, rfl, rfl, .mul (mul2 _), ?_⟩
      dsimp only
      refine PFX.cons (PFX.of (PF.assign (.inl (by decide +kernel)) (PV.bin (PV.name (by rfl) (PV.name (by rfl) ⟨_, _, _, rfl, rfl, .add, ?_⟩)))))
      dsimp only
      refine PFX.cons (PFX.assign (.inl (by decide +kernel)) (PVX.bin (PVX.varint (ν := _ :: _ :: _ :: ν) (j := σ.length) B G.vari FV SV (by decide +kernel) (by exact hi) hs2 (by omega) (fun c r3 o3 e3 hs3 => ?_) fun o3 e3 _ => stop (((T.set o1).set o2).set o3) (by rw [n1, n2, nums_none e3]; rfl) (by exact he))))
      obtain ⟨n3, l3⟩ := nums_some e3
      refine PV.cint ⟨_, _, _, rfl, rfl, .mul (mul2 _), ?_⟩
      dsimp only
      refine PFX.cons (PFX.assign (.inl (by decide +kernel)) (PVX.varint (ν := _ :: _ :: _ :: _ :: ν) (j := σ.length) B G.vari FV SV (by decide +kernel) (by exact hi) hs3 (by omega) (fun d4 r4 o4 e4 hs4 => ?_) fun o4 e4 _ => stop ((((T.set o1).set o2).set o3).set o4) (by rw [n1, n2, n3, nums_none e4]; rfl) (by exact he)))
      obtain ⟨n4, l4⟩ := nums_some e4
      dsimp only
      have T4 := (((T.set o1).set o2).set o3).set o4
      generalize (((σ'.set σ.length o1).set σ.length o2).set σ.length o3).set σ.length o4 = σ₄ at hs4 T4 ⊢
      refine PFX.cons (PFX.of (PF.assign (.inl (by decide +kernel)) (PV.bin (PV.name (by rfl) (PV.cint ⟨_, _, _, rfl, rfl, .shr (n := 1), ?_⟩)))))
      dsimp only
      refine PFX.cons (PFX.of (PF.assign (.inl (by decide +kernel)) (PV.callT B G.boo (by decide +kernel) ?_)))
      refine PVs.cons (PV.bin (PV.name (by rfl) (PV.cint ⟨_, _, _, rfl, rfl, .band, ?_⟩)))
      refine PVs.nil (CallR.boolI ?_)
      dsimp only
      refine PFX.cons (PFX.of (PF.expr (PV.meth PySem.F.slot_list_append (by kernel_rfl) (PV.name (v := .ref (σ.length + 1)) (by exact he) ⟨_, _, rfl, T4.ent, ?_⟩))))
      refine PVs.cons (PV.callC B G.entr (by decide +kernel) hkE ?_)
      refine PVs.cons (PV.name (by rfl) ?_)
      refine PVs.cons (PV.name (by rfl) ?_)
      refine PVs.cons (PV.name (by rfl) ?_)
      refine PVs.cons (PV.name (by rfl) ?_)
      refine PVs.cons (PV.name (by rfl) ?_)
      refine PVs.nil (CallR.entry (nm := SL) B KE FN SN hpN (by rfl) ?_)
      refine PVs.nil (CallR.append (l := rowsV done is) ?_ ?_ ?_)
      · exact Fr.app _ _ T4.ent
      · unfold rowsV
        rw [List.length_zipWith]
        omega
      · dsimp only
        refine PFX.of (PF.nil ?_)
        dsimp only
        have lte : σ.length + 1 < σ₄.length := (List.getElem?_eq_some_iff.mp T4.ent).1
        refine ⟨r4.length, by omega, r4, done ++ [(a, b, c, d4)], is ++ [σ₄.length], rfl, by exact hi, by exact he, (hs4.fr Fr.app).high (Nat.lt_succ_self _) _, ⟨?_, ?_, ?_, rfl, rfl⟩, ?_, ?_⟩
        · rw [rowsV_snoc T4.rows.1, List.getElem?_set_self (by rw [List.length_append]; omega)]; rfl
        · refine ⟨by rw [List.length_append, List.length_append, T4.rows.1]; rfl, ?_, fun i m => ?_⟩
          · rw [List.pairwise_append]
            exact ⟨T4.rows.2.1, List.pairwise_singleton _ _, fun p hp q hq => by rw [List.mem_singleton.mp hq]; exact T4.rows.lt hp⟩
          · rcases List.mem_append.mp m with m | m
            · obtain ⟨g1, g2⟩ := T4.rows.2.2 i m
              exact ⟨g1, by rw [List.getElem?_set_ne (by omega)]; exact Fr.app _ _ g2⟩
            · rw [List.mem_singleton.mp m]
              exact ⟨by omega, by rw [List.getElem?_set_ne (by omega)]; simp⟩
        · exact (T4.fr.trans Fr.app).set (Nat.le_succ _)
        · rw [hch, n1, n2, n3, n4, List.append_assoc]; rfl
        · rw [List.length_append]; simp only [List.length_singleton]; omega
end Mine
end
noncomputable section
open PySem PySem.W PyProof.Rows PySem.SeqAt PySem.Calls
set_option Elab.async false
set_option maxRecDepth 100000
set_option maxHeartbeats 8000000
set_option linter.unusedVariables false
namespace Mine
noncomputable abbrev wdx (w : World) (h : Heap) (fs : List Addr) : Wd := ⟨PySem.Challenge.rw_io0064_05.row.prog, w, ⟨175, 81⟩, ⟨h, fs⟩, fr w.params, gOf (fr w.params)⟩
theorem entryK (P : Params) : EntryK (fr P) 175 103 := by
  refine ⟨⟨_, _, _, _, rfl, rfl, rfl⟩, fun M h X => .of_peek X (by kernel_rfl), fun M h X => .of_peek X (by kernel_rfl), fun M h X => .of_peek X (by kernel_rfl), fun M h X => .of_peek X (by kernel_rfl), fun M h X t => .of_peek X (by kernel_rfl), fun M h X => .of_peek X (by kernel_rfl), fun M h X => .of_peek X (by kernel_rfl), fun M h X => .of_peek X (by kernel_rfl), fun M h X => .of_peek X (by kernel_rfl), fun M h X => .of_peek X (by kernel_rfl), by kernel_rfl, ⟨163, by kernel_rfl, by kernel_rfl⟩⟩
theorem ownU (P : Params) : OwnName (fr P) 81 CE := ⟨by kernel_rfl, by kernel_rfl, .inl (by kernel_rfl), by kernel_rfl, by kernel_rfl⟩
theorem ownE (P : Params) : OwnName (fr P) 175 SL := ⟨by kernel_rfl, by kernel_rfl, .inr (by kernel_rfl), by kernel_rfl, by kernel_rfl⟩
theorem entryQ (P : Params) : EntryQ (fr P) 175 := ⟨fun M h X => .of_peek X (by kernel_rfl)⟩
theorem isE (P : Params) : isIn (fr P) (.ref 175) 175 = true := by kernel_rfl
theorem kit1 (w : World) (h : Heap) (fs : List Addr) (B : Bd (wdx w h fs)) : Kit (wdx w h fs) := by
  refine ⟨B, ownU _, ownE _, by kernel_rfl, by kernel_rfl, by kernel_rfl, by kernel_rfl, ?_, ?_⟩
  · obtain ⟨fV, sV, bV, FV, SV⟩ := varint_at w.params
    obtain ⟨fN, sN, bN, FN, SN⟩ := new_at w.params
    obtain ⟨fT, sT, bT, FT, ST⟩ := tab_at w.params
    refine ⟨192, fT, sT, bT, by kernel_rfl, FT, fun L => ?_⟩
    refine ST ((wdx w h fs).in L) 185 103 175 fV sV bV fN sN bN newPs (B.in L) ⟨by kernel_rfl, by kernel_rfl, by kernel_rfl, by kernel_rfl, by kernel_rfl, by kernel_rfl⟩ (ownU _) (by kernel_rfl) FV (fun L' => SV _ ((B.in L).in L') (by kernel_rfl)) (entryK _) FN rfl (fun L' => SN _ 103 ((B.in L).in L') (entryK _) (by kernel_rfl)) (by simp)
  · obtain ⟨fG, sG, bG, FG, SG⟩ := get_at w.params
    have key : ∀ (nm : Str) (g dx : Addr) (es : List DictEntry) (n k : Nat) (tk : Tok), (fr w.params).lookup g = some ⟨.ref 60, some dx, .plain, #[]⟩ → (fr w.params).lookup dx = some (dictOf es n) → getL (Str.ofString "index") es = some (some (.int k tk)) → k ≤ 4 →
        (∀ od, findObj (fr w.params) 175 od nm = some (.bind (.ref 43) (.ref g))) → ∀ (d : Nat) (σ : List O) (l : List V) (i : Nat) (v : V) (Q : V → List O → Prop), l[k]? = some v → i < σ.length → Q v σ → GetR (wdx w h fs) (d + 2) (.row l i) nm σ Q :=
      fun nm g dx es n k tk h1 h2 h3 h4 h5 d σ l i v Q hv hi hq => GetR.field B FG rfl (fun L => SG _ 103 g dx es n k tk (B.in L) (entryK _) (by kernel_rfl) (by kernel_rfl) (by kernel_rfl) rfl h1 h2 h3 h4) (by kernel_rfl) h5 hv hi hq
    intro nm k hk
    rw [List.lookup_cons] at hk
    cases e0 : nm == Str.ofString "start" with
    | true => rw [e0] at hk; cases hk; rw [eq_of_beq e0]; exact key _ 145 144 _ _ 0 _ (by rfl) (by rfl) (by rfl) (by omega) (fun od => by kernel_rfl)
    | false =>
      rw [e0] at hk; dsimp only at hk; rw [List.lookup_cons] at hk
      cases e1 : nm == Str.ofString "end" with
      | true => rw [e1] at hk; cases hk; rw [eq_of_beq e1]; exact key _ 148 147 _ _ 1 _ (by rfl) (by rfl) (by rfl) (by omega) (fun od => by kernel_rfl)
      | false =>
        rw [e1] at hk; dsimp only at hk; rw [List.lookup_cons] at hk
        cases e2 : nm == Str.ofString "target" with
        | true => rw [e2] at hk; cases hk; rw [eq_of_beq e2]; exact key _ 151 150 _ _ 2 _ (by rfl) (by rfl) (by rfl) (by omega) (fun od => by kernel_rfl)
        | false =>
          rw [e2] at hk; dsimp only at hk; rw [List.lookup_cons] at hk
          cases e3 : nm == Str.ofString "depth" with
          | true => rw [e3] at hk; cases hk; rw [eq_of_beq e3]; exact key _ 154 153 _ _ 3 _ (by rfl) (by rfl) (by rfl) (by omega) (fun od => by kernel_rfl)
          | false =>
            rw [e3] at hk; dsimp only at hk; rw [List.lookup_cons] at hk
            cases e4 : nm == Str.ofString "lasti" with
            | true => rw [e4] at hk; cases hk; rw [eq_of_beq e4]; exact key _ 157 156 _ _ 4 _ (by rfl) (by rfl) (by rfl) (by omega) (fun od => by kernel_rfl)
            | false => rw [e4] at hk; cases hk
end Mine
end
noncomputable section
open PySem PySem.W PyProof.Rows PySem.SeqAt PySem.Calls
set_option Elab.async false
set_option maxRecDepth 100000
set_option maxHeartbeats 2000000
set_option linter.unusedVariables false
namespace Mine
variable {wd : Wd}
def ReadSpec (wd : Wd) (scope : Scope) (body : List Stmt) : Prop :=
  ∀ (σ : List O) (i : Nat) (zs : List Int) (Q : V → List O → Prop), σ[i]? = some (.list (zs.map .int)) → (∀ z ∈ zs, 0 ≤ z ∧ z < 256) → zs.length ≤ 100000 →
    (∀ σ' e js, Fr σ σ' → σ'[e]? = some (.list (rowsV (chunk (nums 0 zs)) js)) → Rows σ' (e + 1) (chunk (nums 0 zs)) js → Q (.ref e) σ') →
    PF wd 9 scope ([Str.ofString "octets"].zip [.ref i]) σ (execs body) fun fl _ σ' => Q fl.val σ'
theorem read_at (P : Params) : ∃ fd scope body, FnSc (fr P) 199 fd scope body [Str.ofString "octets"] ∧ ∀ (wd : Wd), Kit wd → wd.G (Str.ofString "bytes") = some (.type "bytes") → ReadSpec wd scope body := by
  refine ⟨_, _, _, .of ⟨_, rfl, rfl⟩ (by kernel_rfl) rfl rfl rfl (by decide +kernel) (by decide +kernel) (by decide +kernel) ?_, ?_⟩
  · intro s vals _ hl
    obtain ⟨a, rfl⟩ := len1 hl
    exact BindsTo.of_eq (by rfl)
  · intro wd K hb σ i zs Q hi hz hl hok
    have B := K.B
    refine PF.cons (PF.assign (.inl (by decide +kernel)) (PV.unk (nm := CE) B K.gU (by decide +kernel) K.kU K.mU K.iU ?_))
    dsimp only
    refine PF.cons (PF.setAttr (PV.callT B hb (by decide +kernel) ?_))
    refine PVs.cons (PV.name (v := .ref i) (by rfl) ?_)
    refine PVs.nil (CallR.bytes (ns := zs) (Fr.app _ _ hi) hz (by omega) ?_)
    refine PV.name (by rfl) ?_
    refine SetR.own (C := wd.C.UC) (i := σ.length) (o := Option.none) B ⟨rfl, rfl⟩ K.oU (by simp) ?_
    dsimp only
    have F1 : Fr σ ((σ ++ [O.attr CE Option.none]).set σ.length (O.attr CE (some (V.bytes (byteArr zs))))) := Fr.app.set (Nat.le_refl _)
    have hA : ((σ ++ [O.attr CE Option.none]).set σ.length (O.attr CE (some (V.bytes (byteArr zs)))))[σ.length]? = some (O.attr CE (some (V.bytes (byteArr zs)))) := List.getElem?_set_self (by simp)
    generalize ((σ ++ [O.attr CE Option.none]).set σ.length (O.attr CE (some (V.bytes (byteArr zs))))) = σ₁ at F1 hA ⊢
    refine PF.cons (PF.ret (PV.table (d := 5) (i := σ.length) (x := .bytes (byteArr zs)) (zs := zs) K (by decide +kernel) (by rfl) hA ?_ (by omega) fun σ₂ e js F2 he hrow hrows => ?_))
    · have := TabSrc.bytes (σ := σ₁) (byteArr zs)
      rwa [bInts_byteArr hz] at this
    exact hok σ₂ e js (F1.trans F2) hrow hrows
end Mine
end
noncomputable section
open PySem PySem.W PyProof.Rows PySem.SeqAt PySem.Calls
set_option Elab.async false
set_option maxRecDepth 100000
set_option maxHeartbeats 2000000
set_option linter.unusedVariables false
namespace Mine
variable {wd : Wd}
def WriteSpec (wd : Wd) (scope : Scope) (body : List Stmt) : Prop :=
  ∀ (d : Nat) (σ : List O) (v : Int) (m : Nat) (Q : V → List O → Prop), 0 ≤ v → v < 64 ^ m → 1 ≤ m → m ≤ 1000 →
    (∀ σ' e p, Fr σ σ' → σ.length ≤ e → σ'[e]? = some (.list (p.map .int)) → Can p v → p.length ≤ m → Q (.ref e) σ') → PF wd d scope ([Str.ofString "number"].zip [.int v]) σ (execs body) fun fl _ σ' => Q fl.val σ'
inductive WriteI (v : Int) (m : Nat) (σ : List O) (k : Nat) (ν : Vars) (σ' : List O) : Prop
  | mk (n : Int) (p : List Int) (hk : n.toNat = k) (h1 : ν.lookup (Str.ofString "number") = some (.int n)) (h2 : ν.lookup (Str.ofString "digits") = some (.ref σ.length)) (h3 : σ'[σ.length]? = some (.list (p.map .int))) (hf : Fr σ σ') (h0 : 0 ≤ n)
      (hc : ∀ g, Front g (n / 64) → Can (g ++ p) v) (hp : 1 ≤ p.length) (hm : n < 64 ^ (m + 1 - p.length)) (hm2 : p.length ≤ m) : WriteI v m σ k ν σ'
theorem write_at (P : Params) : ∃ fd scope body, FnSc (fr P) 206 fd scope body [Str.ofString "number"] ∧ ∀ (wd : Wd), Bd wd → WriteSpec wd scope body := by
  refine ⟨_, _, _, .of ⟨_, rfl, rfl⟩ (by kernel_rfl) rfl rfl rfl (by decide +kernel) (by decide +kernel) (by decide +kernel) ?_, ?_⟩
  · intro s vals _ hl
    obtain ⟨a, rfl⟩ := len1 hl
    exact BindsTo.of_eq (by rfl)
  · intro wd B d σ v m Q hv0 hvm hm1 hm2 hok
    refine PF.cons (PF.assign (.inl (by decide +kernel)) (PV.list (PVs.cons (PV.bin (PV.name (v := .int v) (by rfl) (PV.cint ⟨_, _, _, rfl, rfl, .mod (by decide), ?_⟩))))))
    refine PVs.nil ⟨by simp, ?_⟩
    dsimp only
    refine PF.cons (PF.whileS (WriteI v m σ) v.toNat ⟨v, [v % 64], rfl, by rfl, by rfl, by simp, Fr.app, hv0, fun g f => ?_, Nat.le_refl _, by simpa using hvm, hm1⟩ ?_)
    · have := Can.mk f (b := v % 64) (by omega) (by omega)
      rwa [show v / 64 * 64 + v % 64 = v by omega] at this
    rintro k ν σ' ⟨n, p, rfl, h1, h2, h3, hf, h0, hc, hp, hmn, hml⟩
    refine PB.cmp (PV.name h1 (PV.cint ⟨_, .gt _ _, ?_⟩))
    by_cases c : 63 < n
    · rw [decide_eq_true c, if_pos rfl]
      refine PF.cons (PF.assign (.inl (by decide +kernel)) (PV.bin (PV.name h1 (PV.cint ⟨_, _, _, rfl, rfl, .div (by decide) (by decide), ?_⟩))))
      dsimp only
      refine PF.cons (PF.expr (PV.meth PySem.F.slot_list_insert (by kernel_rfl) (PV.name (v := .ref σ.length) (by exact h2) ⟨_, _, rfl, h3, ?_⟩)))
      refine PVs.cons (PV.cint ?_)
      refine PVs.cons (PV.bin (PV.cint (PV.bin (PV.name (v := .int (n / 64)) (by rfl) (PV.cint ⟨_, _, _, rfl, rfl, .mod (by decide), ?_⟩)))))
      refine ⟨_, _, _, rfl, rfl, .add, ?_⟩
      refine PVs.nil (CallR.insert (k := 0) h3 (Nat.zero_le _) (by rw [List.length_map]; omega) ?_)
      dsimp only
      refine PF.nil ?_
      dsimp only
      have hge : p.length < m := by
        rcases Nat.lt_or_ge p.length m with q | q
        · exact q
        · have : m + 1 - p.length = 1 := by omega
          rw [this] at hmn
          have : (64 : Int) ^ 1 = 64 := by rfl
          omega
      refine ⟨(n / 64).toNat, by omega, n / 64, (64 + n / 64 % 64) :: p, rfl, by rfl, by exact h2, ?_, hf.set (Nat.le_refl _), by omega, fun g f => ?_, by simp, ?_, by simp only [List.length_cons]; omega⟩
      · rw [List.getElem?_set_self (List.getElem?_eq_some_iff.mp h3).1]; simp
      · have hF : Front (g ++ [64 + n / 64 % 64]) (n / 64) := by
          have := f.on (b := 64 + n / 64 % 64) (by omega) (by
            by_cases q : g = []
            · subst q
              have : n / 64 / 64 = 0 := f.v.symm
              exact .inl (by omega)
            · exact .inr q)
          rwa [show (64 + n / 64 % 64) % 128 = 64 + n / 64 % 64 by omega, show n / 64 / 64 * 64 + (64 + n / 64 % 64) % 64 = n / 64 by omega] at this
        have := hc _ hF
        rwa [List.append_assoc] at this
      · have e : m + 1 - p.length = (m + 1 - ((64 + n / 64 % 64) :: p).length) + 1 := by simp only [List.length_cons]; omega
        rw [e, Int.pow_succ] at hmn
        omega
    · rw [decide_eq_false c, if_neg (by decide)]
      dsimp only
      refine PF.cons (PF.ret (PV.name (v := .ref σ.length) (by exact h2) ?_))
      refine hok _ σ.length p hf (Nat.le_refl _) h3 ?_ hml
      have := hc [] (by rw [show n / 64 = 0 by omega]; exact ⟨fun _ m => (by cases m), (by simp), rfl⟩)
      exact this
end Mine
end
noncomputable section
open PySem PySem.W PyProof.Rows PySem.SeqAt PySem.Calls
set_option Elab.async false
set_option maxRecDepth 100000
set_option maxHeartbeats 2000000
set_option linter.unusedVariables false
namespace Mine
variable {wd : Wd}
theorem eq_nil (ws : List Int) : EqL (ws.map V.int) [] (decide (ws = [])) := by
  by_cases c : ws = []
  · subst c; exact .all .nil
  · rw [decide_eq_false c]; exact .len (by rw [List.length_map]; exact fun e => c (List.length_eq_zero_iff.mp e))
theorem place_neg {n : Nat} : place (-1) (n + 1) = some n := by unfold place; simp; omega
def LeastSpec (wd : Wd) (scope : Scope) (body : List Stmt) : Prop :=
  ∀ (d : Nat) (σ : List O) (i : Nat) (os : List Int) (Q : V → List O → Prop), σ[i]? = some (.list (os.map .int)) → os.length ≤ 1000 →
    (∀ σ' e ps, Fr σ σ' → σ'[e]? = some (.list (ps.flatten.map .int)) → Cans ps ((nums 0 os).take ((nums 0 os).length / 4 * 4)) → Q (.ref e) σ') → PF wd d scope ([Str.ofString "octets"].zip [.ref i]) σ (execs body) fun fl _ σ' => Q fl.val σ'
/-- the pieces in the store -/
structure LsS (i P : Nat) (os : List Int) (σ₀ σ : List O) (is : List Nat) (j : Nat) (ps : List (List Int)) (cur : List Int) : Prop where
  hO : σ[i]? = some (.list (os.map .int))
  hP : σ[P]? = some (.list ((is ++ [j]).map .ref))
  hn : is.length = ps.length
  hp : ∀ (k a : Nat) (p : List Int), is[k]? = some a → ps[k]? = some p → σ[a]? = some (.list (p.map .int))
  hc : σ[j]? = some (.list (cur.map .int))
  jP : j ≠ P
  jn : ∀ a ∈ is, a ≠ j ∧ a ≠ P
  lo : i < P ∧ i < j ∧ σ₀.length ≤ P ∧ σ₀.length ≤ j
  fr : Fr σ₀ σ
theorem LsS.frm {i P : Nat} {os : List Int} {σ₀ σ σ' : List O} {is : List Nat} {j : Nat} {ps : List (List Int)} {cur : List Int} (h : LsS i P os σ₀ σ is j ps cur) (f : Fr σ σ') : LsS i P os σ₀ σ' is j ps cur :=
  { h with hO := f _ _ h.hO, hP := f _ _ h.hP, hp := fun k a p x y => f _ _ (h.hp k a p x y), hc := f _ _ h.hc, fr := h.fr.trans f }
theorem LsS.put {i P : Nat} {os : List Int} {σ₀ σ : List O} {is : List Nat} {j : Nat} {ps : List (List Int)} {cur cur' : List Int} (h : LsS i P os σ₀ σ is j ps cur) : LsS i P os σ₀ (σ.set j (.list (cur'.map .int))) is j ps cur' := by
  have keep : ∀ (k : Nat) (o : O), k ≠ j → σ[k]? = some o → (σ.set j (.list (cur'.map .int)))[k]? = some o := fun k o n e => by rw [List.getElem?_set_ne (Ne.symm n)]; exact e
  exact { h with hO := keep _ _ (Nat.ne_of_lt h.lo.2.1) h.hO, hP := keep _ _ (Ne.symm h.jP) h.hP, hp := fun k a p x y => keep _ _ (h.jn a (List.mem_of_getElem? x)).1 (h.hp k a p x y), hc := List.getElem?_set_self (List.getElem?_eq_some_iff.mp h.hc).1, fr := h.fr.set h.lo.2.2.2 }
theorem LsS.more {i P : Nat} {os : List Int} {σ₀ σ : List O} {is : List Nat} {j : Nat} {ps : List (List Int)} {cur : List Int} (h : LsS i P os σ₀ σ is j ps cur) : LsS i P os σ₀ ((σ ++ [O.list []]).set P (.list ((is ++ [j]).map .ref ++ [.ref σ.length]))) (is ++ [j]) σ.length (ps ++ [cur]) [] := by
  have hPl := (List.getElem?_eq_some_iff.mp h.hP).1
  have hjl := (List.getElem?_eq_some_iff.mp h.hc).1
  have hil := (List.getElem?_eq_some_iff.mp h.hO).1
  have keep : ∀ (k : Nat) (o : O), k ≠ P → σ[k]? = some o → ((σ ++ [O.list []]).set P (.list ((is ++ [j]).map .ref ++ [.ref σ.length])))[k]? = some o := fun k o n e => by rw [List.getElem?_set_ne (Ne.symm n)]; exact Fr.app _ _ e
  have hal : ∀ a ∈ is, a < σ.length := fun a m => by
    obtain ⟨k, hk⟩ := List.getElem?_of_mem m
    obtain ⟨p, hp⟩ : ∃ p, ps[k]? = some p := ⟨_, List.getElem?_eq_getElem (by rw [← h.hn]; exact (List.getElem?_eq_some_iff.mp hk).1)⟩
    exact (List.getElem?_eq_some_iff.mp (h.hp k a p hk hp)).1
  have hl0 := h.fr.len
  refine ⟨keep _ _ (Nat.ne_of_lt h.lo.1) h.hO, ?_, by simp [h.hn], fun k a p x y => ?_, ?_, Nat.ne_of_gt hPl, fun a m => ?_, ⟨h.lo.1, hil, h.lo.2.2.1, hl0⟩, (h.fr.trans Fr.app).set h.lo.2.2.1⟩
  · rw [List.getElem?_set_self (by simp; omega)]; simp
  · rcases Nat.lt_or_ge k is.length with c | c
    · rw [List.getElem?_append_left c] at x
      rw [List.getElem?_append_left (by rw [← h.hn]; exact c)] at y
      exact keep _ _ (h.jn a (List.mem_of_getElem? x)).2 (h.hp k a p x y)
    · rw [List.getElem?_append_right c] at x
      rw [List.getElem?_append_right (by rw [← h.hn]; exact c), ← h.hn] at y
      cases hk : k - is.length with
      | zero => rw [hk] at x y; cases x; cases y; exact keep _ _ h.jP h.hc
      | succ m => rw [hk] at x; cases x
  · rw [List.getElem?_set_ne (Nat.ne_of_lt hPl), List.getElem?_concat_length]; rfl
  · rcases List.mem_append.mp m with m | m
    · have := hal a m; exact ⟨by omega, (h.jn a m).2⟩
    · rw [List.mem_singleton.mp m]; exact ⟨by omega, h.jP⟩
inductive LsI (i P : Nat) (os : List Int) (σ₀ : List O) (t : Nat) (ν : Vars) (σ : List O) : Prop
  | mk (is : List Nat) (j : Nat) (ps : List (List Int)) (cur vs : List Int) (u : Int) (h1 : ν.lookup (Str.ofString "pieces") = some (.ref P)) (S : LsS i P os σ₀ σ is j ps cur) (C : Cans ps vs) (F : Front cur u) (hs : nums 0 os = vs ++ nums u (os.drop t)) (hl : ps.flatten.length + cur.length ≤ t) (hl2 : ps.length ≤ t) : LsI i P os σ₀ t ν σ
inductive LsM (i P : Nat) (os : List Int) (σ₀ : List O) (is : List Nat) (j : Nat) (ps : List (List Int)) (cur : List Int) (b : Int) (f : Fl) (ν : Vars) (σ : List O) : Prop
  | mk (hf : f = .next) (h1 : ν.lookup (Str.ofString "pieces") = some (.ref P)) (h2 : ν.lookup (Str.ofString "octet") = some (.int b)) (S : LsS i P os σ₀ σ is j ps cur) : LsM i P os σ₀ is j ps cur b f ν σ
theorem least_at (P : Params) : ∃ fd scope body, FnSc (fr P) 211 fd scope body [Str.ofString "octets"] ∧ ∀ (wd : Wd), Bd wd → wd.G (Str.ofString "len") = some (.builtin "len") → LeastSpec wd scope body := by
  refine ⟨_, _, _, .of ⟨_, rfl, rfl⟩ (by kernel_rfl) rfl rfl rfl (by decide +kernel) (by decide +kernel) (by decide +kernel) ?_, ?_⟩
  · intro s vals _ hl
    obtain ⟨a, rfl⟩ := len1 hl
    exact BindsTo.of_eq (by rfl)
  · intro wd B hG d σ i os Q hi hos hok
    have hil := (List.getElem?_eq_some_iff.mp hi).1
    refine PF.cons ?_
    refine PF.assign ?_ ?_
    · exact .inl (by decide +kernel)
    refine PV.list ?_
    refine PVs.cons (PV.list (PVs.nil ⟨by simp, ?_⟩))
    refine PVs.nil ⟨by simp, ?_⟩
    have S0 : LsS i (σ.length + 1) os σ (σ ++ [O.list []] ++ [O.list [V.ref σ.length]]) [] σ.length [] [] :=
      ⟨Fr.app _ _ (Fr.app _ _ hi), by rw [show σ.length + 1 = (σ ++ [O.list []]).length by simp]; exact List.getElem?_concat_length, rfl, fun k a p x => (by cases x), Fr.app _ _ List.getElem?_concat_length, by omega, fun a m => (by cases m), ⟨by omega, hil, by omega, by omega⟩, Fr.app.trans Fr.app⟩
    rw [show (σ ++ [O.list []]).length = σ.length + 1 by simp]
    generalize (σ ++ [O.list []] ++ [O.list [V.ref σ.length]]) = σ₁ at S0 ⊢
    generalize σ.length + 1 = P at S0 ⊢
    dsimp only
    refine PF.cons ?_
    refine PF.forS (PV.name (v := .ref i) (by rfl) ?_)
    refine ⟨.list i (os.map .int), rfl, S0.hO, LsI i P os σ, ⟨[], σ.length, [], [], [], 0, by rfl, S0, .nil, ⟨fun _ m => (by cases m), (by simp), rfl⟩, rfl, Nat.le_refl _, Nat.le_refl _⟩, fun t ν σ' ⟨_, _, _, _, _, _, _, S, _, _, _, _, _⟩ => S.hO, ?_, ?_⟩
    · rintro t y ν σ' hy ⟨is, j, ps, cur, vs, u, h1, S, C, F, hs, hl, hl2⟩
      obtain ⟨b, hb, rfl⟩ : ∃ x, os[t]? = some x ∧ y = .int x := by
        have hy' : (os.map V.int)[t]? = some y := hy
        rw [List.getElem?_map] at hy'
        obtain ⟨x, hx, e⟩ := Option.map_eq_some_iff.mp hy'
        exact ⟨x, hx, e.symm⟩
      obtain ⟨ht, hbe⟩ := List.getElem?_eq_some_iff.mp hb
      have hd : os.drop t = b :: os.drop (t + 1) := by rw [List.drop_eq_getElem_cons ht, hbe]
      rw [hd, nums_step] at hs
      clear hy hd
      have hil2 : is.length ≤ 1000 := by rw [S.hn]; omega
      have hrl : ((is ++ [j]).map V.ref).length = is.length + 1 := by simp
      have hget : ((is ++ [j]).map V.ref)[is.length]? = some (.ref j) := by rw [List.getElem?_map, List.getElem?_append_right (Nat.le_refl _), Nat.sub_self]; rfl
      refine PA.name (.inl (by decide +kernel)) ?_
      refine PF.cons (PF.mono (Q := LsM i P os σ is j ps (if b % 64 ≠ 0 ∨ b % 128 < 64 ∨ cur ≠ [] then cur ++ [b % 128] else cur) b) ?_ ?_)
      · refine PF.ifS (PG.mono (Q := fun c σ₁ => c = decide (b % 64 ≠ 0 ∨ b % 128 < 64 ∨ cur ≠ []) ∧ Fr σ' σ₁) ?_ ?_)
        · refine PB.bools (PB.or_cons (PB.cmp (PV.bin (PV.name (v := .int b) (by rfl) (PV.cint ⟨_, _, _, rfl, rfl, .mod (by decide), ?_⟩)))))
          refine PV.cint ⟨_, .ne (.int _ _), ?_⟩
          by_cases c1 : b % 64 = 0
          · rw [show (!(b % 64 == 0)) = false by simp [c1], if_neg (by decide)]
            refine PB.or_cons (PB.cmp (PV.bin (PV.name (v := .int b) (by rfl) (PV.cint ⟨_, _, _, rfl, rfl, .mod (by decide), ?_⟩))))
            refine PV.cint ⟨_, .lt _ _, ?_⟩
            by_cases c2 : b % 128 < 64
            · rw [decide_eq_true c2, if_pos rfl]
              exact ⟨by simp [c2], Fr.refl⟩
            · rw [decide_eq_false c2, if_neg (by decide)]
              refine PB.or_cons (PB.cmp (PV.item (PV.name (v := .ref P) (by exact h1) (PV.neg (PV.cint ⟨_, rfl, ⟨_, .ref j, rfl, .list S.hP (by rw [hrl]; exact place_neg) hget (by decide), ?_⟩⟩)))))
              refine PV.list (PVs.nil ⟨by simp, ⟨_, .neL (m := []) (Fr.app _ _ S.hc) List.getElem?_concat_length (eq_nil cur), ?_⟩⟩)
              by_cases c3 : cur = []
              · rw [decide_eq_true c3, if_neg (by decide)]
                refine PB.or_nil ?_
                exact ⟨by simp [c1, c3]; omega, Fr.app⟩
              · rw [decide_eq_false c3, if_pos (by decide)]
                exact ⟨by simp [c3], Fr.app⟩
          · rw [show (!(b % 64 == 0)) = true by simp [c1], if_pos rfl]
            exact ⟨by simp [c1], Fr.refl⟩
        · rintro c σ₂ ⟨rfl, F2⟩
          have S2 := S.frm F2
          by_cases c : b % 64 ≠ 0 ∨ b % 128 < 64 ∨ cur ≠ []
          · rw [decide_eq_true c, if_pos rfl, if_pos c]
            refine PF.cons (PF.expr (PV.meth PySem.F.slot_list_append (by kernel_rfl) (PV.item (PV.name (v := .ref P) (by exact h1) (PV.neg (PV.cint ⟨_, rfl, ⟨_, .ref j, rfl, .list S2.hP (by rw [hrl]; exact place_neg) hget (by decide), ⟨_, _, rfl, S2.hc, ?_⟩⟩⟩))))))
            refine PVs.cons (PV.bin (PV.name (v := .int b) (by rfl) (PV.cint ⟨_, _, _, rfl, rfl, .mod (by decide), ?_⟩)))
            refine PVs.nil (CallR.append S2.hc (by rw [List.length_map]; omega) ?_)
            dsimp only
            refine PF.nil ?_
            have := S2.put (cur' := cur ++ [b % 128])
            rw [List.map_append] at this
            exact ⟨rfl, by exact h1, by rfl, this⟩
          · rw [decide_eq_false c, if_neg (by decide), if_neg c]
            refine PF.nil ?_
            exact ⟨rfl, by exact h1, by rfl, S2⟩
      rintro f ν₂ σ₃ ⟨rfl, g1, g2, S3⟩
      dsimp only
      refine PF.cons (PF.ifS (PB.cmp (PV.bin (PV.name g2 (PV.cint ⟨_, _, _, rfl, rfl, .mod (by decide), ?_⟩)))))
      refine PV.cint ⟨_, .lt _ _, ?_⟩
      by_cases c2 : b % 128 < 64
      · rw [decide_eq_true c2, if_pos rfl]
        rw [if_pos (.inr (.inl c2))] at S3
        rw [if_neg (by omega)] at hs
        refine PF.cons (PF.expr (PV.meth PySem.F.slot_list_append (by kernel_rfl) (PV.name (v := .ref P) (by exact g1) ⟨_, _, rfl, S3.hP, ?_⟩)))
        refine PVs.cons (PV.list (PVs.nil ⟨by simp, ?_⟩))
        refine PVs.nil (CallR.append (Fr.app _ _ S3.hP) (by rw [hrl]; omega) ?_)
        dsimp only
        refine PF.nil ?_
        dsimp only
        refine PF.nil ?_
        exact ⟨_, _, _, [], vs ++ [u * 64 + b % 64], 0, by exact g1, S3.more, C.app (.cons (F.last c2) .nil), ⟨fun _ m => (by cases m), (by simp), rfl⟩, by rw [hs, List.append_assoc]; rfl, by simp at hl ⊢; omega, by rw [List.length_append, List.length_singleton]; omega⟩
      · rw [decide_eq_false c2, if_neg (by decide)]
        refine PF.nil ?_
        dsimp only
        refine PF.nil ?_
        rw [if_pos (by omega)] at hs
        by_cases c : b % 64 ≠ 0 ∨ b % 128 < 64 ∨ cur ≠ []
        · rw [if_pos c] at S3
          exact ⟨_, _, _, _, vs, u * 64 + b % 64, by exact g1, S3, C, F.on (by omega) (by rcases c with c | c | c; exact .inl c; exact absurd c c2; exact .inr c), hs, by rw [List.length_append, List.length_singleton]; omega, by omega⟩
        · rw [if_neg c] at S3
          exact ⟨_, _, _, _, vs, u * 64 + b % 64, by exact g1, S3, C, F.skip (Classical.byContradiction fun q => c (.inl q)) (Classical.byContradiction fun q => c (.inr (.inr q))), hs, by omega, by omega⟩
    · rintro ν σ' ⟨is, j, ps, cur, vs, u, h1, S, C, F, hs, hl, hl2⟩
      have hlx : (Src.xs (.list i (os.map V.int))).length = os.length := List.length_map ..
      rw [hlx] at hs hl hl2
      rw [List.drop_length] at hs
      have hvs : nums 0 os = vs := by rw [hs]; show vs ++ [] = vs; rw [List.append_nil]
      have hrl : ((is ++ [j]).map V.ref).length = is.length + 1 := by simp
      have hil2 : is.length ≤ 1000 := by rw [S.hn]; omega
      dsimp only
      refine PF.cons (PF.assign (.inl (by decide +kernel)) (PV.bin (PV.bin (PV.bin (PV.callB B hG (by decide +kernel) ?_)))))
      refine PVs.cons (PV.name (v := .ref P) (by exact h1) ?_)
      refine PVs.nil (CallR.len S.hP (by rw [hrl]; omega) ?_)
      refine PV.cint ⟨_, _, _, rfl, rfl, .sub, ?_⟩
      refine PV.cint ⟨_, _, _, rfl, rfl, .div (by decide) (by decide), ?_⟩
      refine PV.cint ⟨_, _, _, rfl, rfl, .mul (.of_right (by decide)), ?_⟩
      rw [hrl, show (((is.length + 1 : Nat) : Int) - 1) / 4 * 4 = ((is.length / 4 * 4 : Nat) : Int) by omega]
      dsimp only
      have hwl : is.length / 4 * 4 ≤ is.length := by omega
      generalize hw : is.length / 4 * 4 = whole at hwl ⊢
      refine PF.cons (PF.ret (PV.flat ⟨rfl, rfl, by decide +kernel, by decide +kernel, by decide +kernel, by decide +kernel, by decide +kernel⟩ (by decide +kernel) ?_))
      refine PV.slice (PV.name (v := .ref P) (by exact h1) (PV.part (PV.part (PV.name (v := .int whole) (by rfl) ⟨_, _, Option.none, some (whole : Int), rfl, S.hP, by rw [hrl]; omega, .none, .int _, ?_⟩))))
      rw [cut_to, ← List.map_take, List.take_append_of_le_length hwl]
      have efl : ((ps.take whole).map fun p => p.map V.int).flatten = (ps.take whole).flatten.map .int := List.map_flatten.symm
      have hfl : (ps.take whole).flatten.length ≤ 1000 := by
        have : ps.flatten.length = (ps.take whole).flatten.length + (ps.drop whole).flatten.length := by rw [← List.length_append, ← List.flatten_append, List.take_append_drop]
        omega
      refine ⟨_, is.take whole, (ps.take whole).map (fun p => p.map V.int), rfl, List.getElem?_concat_length, by rw [List.length_map, List.length_take, List.length_take, S.hn], fun k a l hk hl => ?_, by rw [efl, List.length_map]; omega, ?_⟩
      · rw [List.getElem?_map] at hl
        obtain ⟨p, hp, rfl⟩ := Option.map_eq_some_iff.mp hl
        rw [List.getElem?_take] at hk hp
        split at hk
        · rename_i q
          rw [if_pos q] at hp
          exact Fr.app _ _ (S.hp k a p hk hp)
        · cases hk
      rw [efl]
      refine hok _ _ (ps.take whole) ((S.fr.trans Fr.app).trans Fr.app) List.getElem?_concat_length ?_
      have := C.take whole
      rw [hvs, ← C.length, ← S.hn, hw]
      exact this
end Mine
end
noncomputable section
open PySem PySem.W PyProof.Rows PySem.SeqAt PySem.Calls
set_option Elab.async false
set_option maxRecDepth 100000
set_option maxHeartbeats 2000000
set_option linter.unusedVariables false
namespace Mine
variable {wd : Wd}
structure L5G (wd : Wd) (f : Addr) : Prop where
  range : wd.G (Str.ofString "range") = some (.type "range")
  list : wd.G (Str.ofString "list") = some (.type "list")
  bool : wd.G (Str.ofString "bool") = some (.type "bool")
  len : wd.G (Str.ofString "len") = some (.builtin "len")
  isi : wd.G (Str.ofString "isinstance") = some (.builtin "isinstance")
  entr : wd.G (Str.ofString "_ExceptionTableEntry") = some (.ref wd.C.EC)
  K : EntryK wd.K wd.C.EC f
  KQ : EntryQ wd.K wd.C.EC
  isE : isIn wd.K (.ref wd.C.EC) wd.C.EC = true
  rd : ∃ a fd scope body, wd.G (Str.ofString "_law_read") = some (.ref a) ∧ FnSc wd.K a fd scope body [Str.ofString "octets"] ∧ ∀ L, ReadSpec (wd.in L) scope body
  wr : ∃ a fd scope body, wd.G (Str.ofString "_law_write") = some (.ref a) ∧ FnSc wd.K a fd scope body [Str.ofString "number"] ∧ ∀ L, WriteSpec (wd.in L) scope body
  ls : ∃ a fd scope body, wd.G (Str.ofString "_law_least") = some (.ref a) ∧ FnSc wd.K a fd scope body [Str.ofString "octets"] ∧ ∀ L, LeastSpec (wd.in L) scope body
variable {f : Addr} {sc : Scope} {ν : Vars} {σ : List O} {Q : V → List O → Prop} {x : Expr} {p p' : Pos}
theorem PV.read (B : Bd wd) (G : L5G wd f) (hx : sc.names.lookup (Str.ofString "_law_read") = some .globalImplicit)
    (h : PV wd 10 sc ν σ (eval x) fun v σ₁ => ∃ i zs, v = .ref i ∧ σ₁[i]? = some (.list (zs.map .int)) ∧ (∀ z ∈ zs, 0 ≤ z ∧ z < 256) ∧ zs.length ≤ 100000 ∧ ∀ σ' e js, Fr σ₁ σ' → σ'[e]? = some (.list (rowsV (chunk (nums 0 zs)) js)) → Rows σ' (e + 1) (chunk (nums 0 zs)) js → Q (.ref e) σ')
    (he : ∀ env, starEach [x] env = (false, eval x env) :: starEach [] env := by intro _; rfl)
    (hc : ∀ env, eval (.Call (.Name (Str.ofString "_law_read") p') [x] [] p) env = (do callWith p (← eval (.Name (Str.ofString "_law_read") p') env) [] (backTo p (starEach [x] env)) (backToKw p (keywordEach [] env))) := by intro _; rfl) :
    PV wd 10 sc ν σ (eval (.Call (.Name (Str.ofString "_law_read") p') [x] [] p)) Q := by
  obtain ⟨aT, fT, sT, bT, gT, FT, TS⟩ := G.rd
  refine PV.callU B gT FT hx (PVs.cons (PG.mono h fun v σ₁ hv => ?_) he) (by decide) he hc
  obtain ⟨i, zs, rfl, h0, h1, h2, hk⟩ := hv
  exact PVs.nil ⟨rfl, fun L => TS L σ₁ i zs Q h0 h1 h2 hk⟩
theorem PV.write (B : Bd wd) (G : L5G wd f) (hx : sc.names.lookup (Str.ofString "_law_write") = some .globalImplicit)
    (h : PV wd 10 sc ν σ (eval x) fun v σ₁ => ∃ n : Int, v = .int n ∧ 0 ≤ n ∧ n < 64 ^ 37 ∧ ∀ σ' e ds, Fr σ₁ σ' → σ₁.length ≤ e → σ'[e]? = some (.list (ds.map .int)) → Can ds n → ds.length ≤ 37 → Q (.ref e) σ')
    (he : ∀ env, starEach [x] env = (false, eval x env) :: starEach [] env := by intro _; rfl)
    (hc : ∀ env, eval (.Call (.Name (Str.ofString "_law_write") p') [x] [] p) env = (do callWith p (← eval (.Name (Str.ofString "_law_write") p') env) [] (backTo p (starEach [x] env)) (backToKw p (keywordEach [] env))) := by intro _; rfl) :
    PV wd 10 sc ν σ (eval (.Call (.Name (Str.ofString "_law_write") p') [x] [] p)) Q := by
  obtain ⟨aT, fT, sT, bT, gT, FT, TS⟩ := G.wr
  refine PV.callU B gT FT hx (PVs.cons (PG.mono h fun v σ₁ hv => ?_) he) (by decide) he hc
  obtain ⟨n, rfl, h0, h1, hk⟩ := hv
  exact PVs.nil ⟨rfl, fun L => TS L 9 σ₁ n 37 Q h0 h1 (by decide) (by decide) hk⟩
theorem PV.least (B : Bd wd) (G : L5G wd f) (hx : sc.names.lookup (Str.ofString "_law_least") = some .globalImplicit)
    (h : PV wd 10 sc ν σ (eval x) fun v σ₁ => ∃ i os, v = .ref i ∧ σ₁[i]? = some (.list (os.map .int)) ∧ os.length ≤ 1000 ∧ ∀ σ' e ps, Fr σ₁ σ' → σ'[e]? = some (.list (ps.flatten.map .int)) → Cans ps ((nums 0 os).take ((nums 0 os).length / 4 * 4)) → Q (.ref e) σ')
    (he : ∀ env, starEach [x] env = (false, eval x env) :: starEach [] env := by intro _; rfl)
    (hc : ∀ env, eval (.Call (.Name (Str.ofString "_law_least") p') [x] [] p) env = (do callWith p (← eval (.Name (Str.ofString "_law_least") p') env) [] (backTo p (starEach [x] env)) (backToKw p (keywordEach [] env))) := by intro _; rfl) :
    PV wd 10 sc ν σ (eval (.Call (.Name (Str.ofString "_law_least") p') [x] [] p)) Q := by
  obtain ⟨aT, fT, sT, bT, gT, FT, TS⟩ := G.ls
  refine PV.callU B gT FT hx (PVs.cons (PG.mono h fun v σ₁ hv => ?_) he) (by decide) he hc
  obtain ⟨i, os, rfl, h0, h1, hk⟩ := hv
  exact PVs.nil ⟨rfl, fun L => TS L 9 σ₁ i os Q h0 h1 hk⟩
theorem cut_from {α : Type} (l : List α) (n : Nat) (h : n ≤ l.length) : cut l (some (n : Int)) Option.none = l.drop n := by
  unfold cut
  rw [Option.map_some, Option.getD_some, cl_nat, Option.map_none, Option.getD_none, Nat.min_eq_left h]
  exact List.take_of_length_le (by rw [List.length_drop]; omega)
theorem ints_self (l : List Int) : EqL (l.map V.int) (l.map V.int) true := .all (EqVs.refl' fun v m => by
  obtain ⟨z, _, rfl⟩ := List.mem_map.mp m
  rfl)
/-- the octets that the law builds -/
def bh : List Int := [64, 3, 1, 2, 192, 64, 5]
def oct1 (x : Int) : List Int := List.replicate (x / 256 % 3).toNat 64 ++ [x % 256]
def octs (xs : List Int) : List Int := xs.flatMap oct1
theorem octs_len : ∀ (xs : List Int), (octs xs).length ≤ 3 * xs.length
  | [] => Nat.le_refl _
  | x :: xs => by
    have := octs_len xs
    show (oct1 x ++ octs xs).length ≤ _
    unfold oct1
    simp only [List.length_append, List.length_replicate, List.length_cons, List.length_nil]
    omega
theorem octs_in {xs : List Int} : ∀ z ∈ octs xs, 0 ≤ z ∧ z < 256 := by
  intro z m
  obtain ⟨x, _, m⟩ := List.mem_flatMap.mp m
  unfold oct1 at m
  rcases List.mem_append.mp m with m | m
  · have := List.eq_of_mem_replicate m; omega
  · have := List.mem_singleton.mp m; omega
theorem bh_in : ∀ z ∈ bh, 0 ≤ z ∧ z < 256 := by decide
theorem bh_none : ∀ t, t < 7 → chunk (nums 0 (bh.take t)) = [] := by decide
structure L1I (σ₀ : List O) (ν : Vars) (σ : List O) : Prop where
  h0 : ν.lookup (Str.ofString "script") = some (.ref 0)
  h1 : ν.lookup (Str.ofString "behind") = some (.ref 1)
  fr : Fr σ₀ σ
structure L2I (xs : List Int) (c t : Nat) (ν : Vars) (σ : List O) : Prop where
  h1 : ν.lookup (Str.ofString "behind") = some (.ref 1)
  h2 : ν.lookup (Str.ofString "octets") = some (.ref c)
  c0 : σ[0]? = some (.list (xs.map .int))
  c1 : σ[1]? = some (.list (bh.map .int))
  cc : σ[c]? = some (.list ((octs (xs.take t)).map .int))
/-- the octets that are left -/
inductive WhI (R : List Row4) (c e : Nat) (σ₀ : List O) (n : Nat) (ν : Vars) (σ : List O) : Prop
  | mk (i k : Nat) (zs : List Int) (hn : zs.length * 1000 + (zs.length - k) = n) (h1 : ν.lookup (Str.ofString "octets") = some (.ref c)) (h2 : ν.lookup (Str.ofString "told") = some (.ref e)) (h3 : ν.lookup (Str.ofString "left") = some (.ref i)) (h4 : ν.lookup (Str.ofString "k") = some (.int k))
      (hi : σ[i]? = some (.list (zs.map .int))) (fr : Fr σ₀ σ) (hR : chunk (nums 0 zs) = R) (hz : ∀ z ∈ zs, 0 ≤ z ∧ z < 256) (hl : zs.length ≤ 37) (hk : k ≤ zs.length) (hm : ∀ j < k, chunk (nums 0 (zs.eraseIdx j)) ≠ R) : WhI R c e σ₀ n ν σ
/-- the numbers written again -/
inductive AgnI (R : List Row4) (js : List Nat) (e L g t : Nat) (lst : List Int) (ν : Vars) (σ : List O) : Prop
  | mk (ps : List (List Int)) (h1 : ν.lookup (Str.ofString "again") = some (.ref g)) (h2 : ν.lookup (Str.ofString "least") = some (.ref L)) (c1 : σ[e]? = some (.list (rowsV R js))) (c2 : σ[L]? = some (.list (lst.map .int))) (c3 : σ[g]? = some (.list (ps.flatten.map .int)))
      (js_ : ∀ j ∈ js, j < σ.length) (C : Cans ps ((R.take t).flatMap four)) (hl : ps.flatten.length ≤ 148 * t) : AgnI R js e L g t lst ν σ
inductive AgnJ (R : List Row4) (js : List Nat) (e L g t s : Nat) (lst : List Int) (q : Row4) (ν : Vars) (σ : List O) : Prop
  | mk (ps : List (List Int)) (h1 : ν.lookup (Str.ofString "again") = some (.ref g)) (h2 : ν.lookup (Str.ofString "least") = some (.ref L)) (c1 : σ[e]? = some (.list (rowsV R js))) (c2 : σ[L]? = some (.list (lst.map .int))) (c3 : σ[g]? = some (.list (ps.flatten.map .int)))
      (js_ : ∀ j ∈ js, j < σ.length) (C : Cans ps ((R.take t).flatMap four ++ (four q).take s)) (hl : ps.flatten.length ≤ 148 * t + 37 * s) : AgnJ R js e L g t s lst q ν σ
end Mine
end
noncomputable section
open PySem PySem.W PyProof.Rows PySem.SeqAt PySem.Calls
set_option Elab.async false
set_option maxRecDepth 100000
set_option maxHeartbeats 2000000
set_option linter.unusedVariables false
namespace Mine
variable {wd : Wd}
theorem PF.assignL {d : Nat} {sc : Scope} {ν : Vars} {σ : List O} {Q : Fl → Vars → List O → Prop} {x : Str} {p' p pl : Pos} {es : List Expr} (hx : sc.names.lookup x = some .local ∨ sc.names.lookup x = some .cell) (h : PV wd d sc ν σ (eval (.List es pl)) fun v σ₁ => Q .next ((x, v) :: ν) σ₁) : PF wd d sc ν σ (exec (.Assign [.Name x p'] (.List es pl) p)) Q := PF.assign hx h (fun _ => rfl)
def Law5Spec (wd : Wd) (scope : Scope) (body : List Stmt) : Prop :=
  ∀ (xs : List Int), xs.length ≤ 1000000 → PF wd 10 scope ([Str.ofString "script"].zip [.lst (xs.map .int)]) [] (execs body) fun fl _ _ => fl = .ret (.bool true)
theorem law5_at (P : Params) : ∃ fd scope body, FnSc (fr P) 216 fd scope body [Str.ofString "script"] ∧ ∀ (wd : Wd) (f : Addr), Kit wd → L5G wd f → Law5Spec wd scope body := by
  refine ⟨_, _, _, .of ⟨_, rfl, rfl⟩ (by kernel_rfl) rfl rfl rfl (by decide +kernel) (by decide +kernel) (by decide +kernel) ?_, ?_⟩
  · intro s vals _ hl
    obtain ⟨a, rfl⟩ := len1 hl
    exact BindsTo.of_eq (by rfl)
  · intro wd f K G xs0 hxs0
    have B := K.B
    have hl : (xs0.map V.int).length ≤ 1000000 := by rw [List.length_map]; exact hxs0
    refine PF.cons (PF.assign (.inl (by decide +kernel)) (PV.sliceX (PV.name (by rfl) (PV.part (PV.part (PV.cint ⟨_, _, _, rfl, hl, .none, .int _, ?_⟩))))))
    rw [show ((10 : Int)) = ((10 : Nat) : Int) from rfl, cut_to, ← List.map_take]
    generalize hxs : xs0.take 10 = xs
    have hx10 : xs.length ≤ 10 := by rw [← hxs, List.length_take]; omega
    dsimp only [List.nil_append, List.length_nil]
    refine PF.cons ?_
    refine PF.assignL ?_ ?_
    · exact .inl (by decide +kernel)
    refine PV.list ?_
    refine PVs.cons (PV.cint (PVs.cons (PV.cint (PVs.cons (PV.cint (PVs.cons (PV.cint (PVs.cons (PV.cint (PVs.cons (PV.cint (PVs.cons (PV.cint (PVs.nil ⟨by simp, ?_⟩))))))))))))))
    have hA0 : ([O.list (xs.map V.int)] ++ [O.list [V.int 64, .int 3, .int 1, .int 2, .int 192, .int 64, .int 5]])[0]? = some (.list (xs.map V.int)) := rfl
    have hA1 : ([O.list (xs.map V.int)] ++ [O.list [V.int 64, .int 3, .int 1, .int 2, .int 192, .int 64, .int 5]])[1]? = some (.list (bh.map V.int)) := rfl
    generalize ([O.list (xs.map V.int)] ++ [O.list [V.int 64, .int 3, .int 1, .int 2, .int 192, .int 64, .int 5]]) = σ₀ at hA0 hA1 ⊢
    dsimp only [List.length_singleton]
    -- no row without the octets behind
    refine PF.cons ?_
    refine PF.forS (PV.callT B G.range (by decide +kernel) ?_)
    refine PVs.cons (PV.cint ?_)
    refine PVs.nil (CallR.range1 ?_)
    refine ⟨.range 0 ((7 : Nat) : Int) 1, srcN 0 7 1 (by decide) (by decide) (by decide) (by decide), trivial, (fun _ ν σ => L1I σ₀ ν σ), ⟨by rfl, by rfl, Fr.refl⟩, fun _ _ _ _ => trivial, ?_, ?_⟩
    · rintro t y ν σ hy ⟨h0, h1, F⟩
      obtain ⟨ht, rfl⟩ := src_range hy
      rw [rangeN0] at ht
      rw [show (0 + (t : Int) * 1) = (t : Int) by rw [Int.zero_add, Int.mul_one]]
      refine PA.name (.inl (by decide +kernel)) ?_
      refine PF.cons (PF.ifS (PB.cmpRows B G.K G.KQ (.inr rfl) ?_))
      refine PV.read B G (by decide +kernel) (PV.slice (PV.name (v := .ref 1) (by exact h1) (PV.part (PV.part (PV.name (v := .int t) (by rfl) ⟨_, _, Option.none, some (t : Int), rfl, F _ _ hA1, by decide, .none, .int _, ?_⟩)))))
      rw [cut_to, ← List.map_take]
      refine ⟨_, bh.take t, rfl, List.getElem?_concat_length, fun z m => bh_in z (List.mem_of_mem_take m), by rw [List.length_take]; omega, fun σ₁ e js F1 hrow hrows => ?_⟩
      rw [bh_none t ht] at hrow
      refine PV.list (PVs.nil ⟨by simp, ?_⟩)
      refine ⟨_, _, _, _, true, rfl, rfl, Fr.app _ _ hrow, List.getElem?_concat_length, .all (fun _ => true) rfl (fun k a b h => by cases h), ?_⟩
      rw [if_neg (by decide)]
      refine PF.nil ?_
      dsimp only
      refine PF.nil ?_
      exact ⟨by exact h0, by exact h1, ((F.trans Fr.app).trans F1).trans Fr.app⟩
    rintro ν σ ⟨h0, h1, F⟩
    dsimp only
    have hB0 := F _ _ hA0
    have hB1 := F _ _ hA1
    clear hA0 hA1 F
    -- the octets
    refine PF.cons ?_
    refine PF.assignL ?_ ?_
    · exact .inl (by decide +kernel)
    refine PV.list (PVs.nil ⟨by simp, ?_⟩)
    dsimp only
    have hB0' := Fr.app (m := [O.list []]) _ _ hB0
    have hB1' := Fr.app (m := [O.list []]) _ _ hB1
    have hcc : (σ ++ [O.list []])[σ.length]? = some (.list []) := List.getElem?_concat_length
    have hc1 : 1 < σ.length := (List.getElem?_eq_some_iff.mp hB1).1
    clear hB0 hB1
    generalize σ.length = c at hcc hc1 ⊢
    generalize (σ ++ [O.list []]) = σ₁ at hB0' hB1' hcc ⊢
    refine PF.cons ?_
    refine PF.forS (PV.name (v := .ref 0) (by exact h0) ?_)
    refine ⟨.list 0 (xs.map .int), rfl, hB0', L2I xs c, ⟨by exact h1, by rfl, hB0', hB1', hcc⟩, fun t ν σ I => I.c0, ?_, ?_⟩
    · rintro t y ν σ hy ⟨g1, g2, c0, c1, cc⟩
      obtain ⟨x, hx, rfl⟩ : ∃ x, xs[t]? = some x ∧ y = .int x := by
        have hy' : (xs.map V.int)[t]? = some y := hy
        rw [List.getElem?_map] at hy'
        obtain ⟨x, hx, e⟩ := Option.map_eq_some_iff.mp hy'
        exact ⟨x, hx, e.symm⟩
      have ht : t < xs.length := (List.getElem?_eq_some_iff.mp hx).1
      have hol := octs_len (xs.take t)
      rw [List.length_take] at hol
      have htk : octs (xs.take (t + 1)) = octs (xs.take t) ++ (List.replicate (x / 256 % 3).toNat 64 ++ [x % 256]) := by
        unfold octs
        rw [List.take_add_one, hx, List.flatMap_append]
        show _ ++ [x].flatMap oct1 = _
        rw [List.flatMap_singleton]; rfl
      refine PA.name (.inl (by decide +kernel)) ?_
      refine PF.cons (PF.expr (PV.meth PySem.F.slot_list_extend (by kernel_rfl) (PV.name (v := .ref c) (by exact g2) ⟨_, _, rfl, cc, ?_⟩)))
      refine PVs.cons (PV.rep (PV.list (PVs.cons (PV.cint (PVs.nil ⟨by simp, ?_⟩)))))
      refine PV.bin (PV.bin (PV.name (v := .int x) (by rfl) (PV.cint ⟨_, _, _, rfl, rfl, .div (by decide) (by decide), ?_⟩)))
      refine PV.cint ⟨_, _, _, rfl, rfl, .mod (by decide), ?_⟩
      refine ⟨_, [.int 64], _, rfl, rfl, List.getElem?_concat_length, by simp, by simp; omega, by omega, ?_⟩
      have hrep : (List.replicate (x / 256 % 3).toNat [V.int 64]).flatten = (List.replicate (x / 256 % 3).toNat (64 : Int)).map .int := by simp
      rw [hrep]
      refine PVs.nil (CallR.extend (Fr.app _ _ (Fr.app _ _ cc)) List.getElem?_concat_length (by rw [List.length_map, List.length_map, List.length_replicate]; omega) ?_)
      rw [← List.map_append]
      have d0 : ∀ o, ((σ ++ [O.list [V.int 64]] ++ [O.list ((List.replicate (x / 256 % 3).toNat (64 : Int)).map .int)]).set c o)[0]? = some (.list (xs.map .int)) := fun o => by rw [List.getElem?_set_ne (by omega)]; exact Fr.app _ _ (Fr.app _ _ c0)
      have d1 : ∀ o, ((σ ++ [O.list [V.int 64]] ++ [O.list ((List.replicate (x / 256 % 3).toNat (64 : Int)).map .int)]).set c o)[1]? = some (.list (bh.map .int)) := fun o => by rw [List.getElem?_set_ne (by omega)]; exact Fr.app _ _ (Fr.app _ _ c1)
      have dc : ∀ o, ((σ ++ [O.list [V.int 64]] ++ [O.list ((List.replicate (x / 256 % 3).toNat (64 : Int)).map .int)]).set c o)[c]? = some o := fun o => List.getElem?_set_self (by have := (List.getElem?_eq_some_iff.mp cc).1; simp; omega)
      dsimp only
      have d0 := d0 (.list ((octs (xs.take t) ++ List.replicate (x / 256 % 3).toNat 64).map .int))
      have d1 := d1 (.list ((octs (xs.take t) ++ List.replicate (x / 256 % 3).toNat 64).map .int))
      have dc := dc (.list ((octs (xs.take t) ++ List.replicate (x / 256 % 3).toNat 64).map .int))
      generalize ((σ ++ [O.list [V.int 64]] ++ [O.list ((List.replicate (x / 256 % 3).toNat (64 : Int)).map .int)]).set c (.list ((octs (xs.take t) ++ List.replicate (x / 256 % 3).toNat 64).map .int))) = σ₂ at d0 d1 dc ⊢
      refine PF.cons (PF.expr (PV.meth PySem.F.slot_list_append (by kernel_rfl) (PV.name (v := .ref c) (by exact g2) ⟨_, _, rfl, dc, ?_⟩)))
      refine PVs.cons (PV.bin (PV.name (v := .int x) (by rfl) (PV.cint ⟨_, _, _, rfl, rfl, .mod (by decide), ?_⟩)))
      refine PVs.nil (CallR.append dc (by rw [List.length_map, List.length_append, List.length_replicate]; omega) ?_)
      dsimp only
      refine PF.nil ?_
      dsimp only
      refine ⟨by exact g1, by exact g2, ?_, ?_, ?_⟩
      · rw [List.getElem?_set_ne (by omega)]; exact d0
      · rw [List.getElem?_set_ne (by omega)]; exact d1
      · rw [List.getElem?_set_self (List.getElem?_eq_some_iff.mp dc).1, htk]; simp
    clear hB0' hB1' hcc h0 h1
    rintro ν σ ⟨g1, g2, c0, c1, cc⟩
    have hlx : (Src.xs (.list 0 (xs.map V.int))).length = xs.length := List.length_map ..
    rw [hlx, List.take_length] at cc
    have hol := octs_len xs
    dsimp only
    refine PF.cons (PF.expr (PV.meth PySem.F.slot_list_extend (by kernel_rfl) (PV.name (v := .ref c) (by exact g2) ⟨_, _, rfl, cc, ?_⟩)))
    refine PVs.cons (PV.name (v := .ref 1) (by exact g1) ?_)
    refine PVs.nil (CallR.extend cc c1 (by rw [List.length_map, List.length_map]; show _ + 7 ≤ _; omega) ?_)
    rw [← List.map_append]
    generalize hos : octs xs ++ bh = os
    have hosl : os.length ≤ 37 := by rw [← hos, List.length_append]; show _ + 7 ≤ _; omega
    have hosz : ∀ z ∈ os, 0 ≤ z ∧ z < 256 := fun z m => by
      rw [← hos] at m
      rcases List.mem_append.mp m with m | m
      · exact octs_in z m
      · exact bh_in z m
    have dc : (σ.set c (.list (os.map .int)))[c]? = some (.list (os.map .int)) := List.getElem?_set_self (List.getElem?_eq_some_iff.mp cc).1
    dsimp only
    generalize (σ.set c (.list (os.map V.int))) = σ₂ at dc ⊢
    clear c0 c1 cc
    refine PF.cons (PF.assign (.inl (by decide +kernel)) (PV.read B G (by decide +kernel) (PV.name (v := .ref c) (by exact g2) ⟨_, os, rfl, dc, hosz, by omega, fun σ₃ e js F3 hrow hrows => ?_⟩)))
    dsimp only
    generalize hR : chunk (nums 0 os) = R at hrow hrows
    have dc3 := F3 _ _ dc
    refine PF.cons (PF.assign (.inl (by decide +kernel)) (PV.callT B G.list (by decide +kernel) ?_))
    refine PVs.cons (PV.name (v := .ref c) (by exact g2) ?_)
    refine PVs.nil (CallR.listList dc3 (by rw [List.length_map]; omega) ?_)
    dsimp only
    refine PF.cons (PF.assign (.inl (by decide +kernel)) (PV.cint ?_))
    dsimp only
    refine PF.cons ?_
    refine PF.whileS (WhI R c e σ₃) (os.length * 1000 + os.length) ⟨σ₃.length, 0, os, rfl, by exact g2, by rfl, by rfl, by rfl, List.getElem?_concat_length, Fr.app, hR, hosz, hosl, Nat.zero_le _, fun j h => absurd h (Nat.not_lt_zero _)⟩ ?_
    rintro n ν₂ σ₄ ⟨i, k, zs, rfl, w1, w2, w3, w4, hi, F4, hzR, hz, hzl, hk, hm⟩
    have hzl' : (zs.map V.int).length ≤ 37 := by rw [List.length_map]; exact hzl
    refine PB.cmp (PV.name w4 (PV.callB B G.len (by decide +kernel) ?_))
    refine PVs.cons (PV.name w3 ?_)
    refine PVs.nil (CallR.len hi (by omega) ?_)
    rw [List.length_map]
    refine ⟨_, .lt _ _, ?_⟩
    by_cases hkl : k < zs.length
    · rw [decide_eq_true (by omega), if_pos rfl]
      refine PF.cons (PF.assign (.inl (by decide +kernel)) (PV.cat (PV.slice (PV.name w3 (PV.part (PV.part (PV.name w4 ⟨_, _, Option.none, some (k : Int), rfl, hi, by omega, .none, .int _, ?_⟩)))))))
      rw [cut_to, ← List.map_take]
      refine PV.slice (PV.name w3 (PV.part (PV.bin (PV.name w4 (PV.cint ⟨_, _, _, rfl, rfl, .add, ?_⟩)))))
      rw [show ((k : Int) + 1) = ((k + 1 : Nat) : Int) from rfl]
      refine PV.part ⟨i, _, some ((k + 1 : Nat) : Int), Option.none, rfl, Fr.app _ _ hi, by omega, .int _, .none, ?_⟩
      rw [cut_from _ _ (by rw [List.length_map]; omega), ← List.map_drop]
      refine ⟨_, _, _, _, rfl, rfl, Fr.app _ _ List.getElem?_concat_length, List.getElem?_concat_length, by rw [List.length_map, List.length_map, List.length_take, List.length_drop]; omega, ?_⟩
      rw [← List.map_append, ← List.eraseIdx_eq_take_drop_succ]
      have F5 : Fr σ₄ (σ₄ ++ [O.list ((zs.take k).map .int)] ++ [O.list ((zs.drop (k + 1)).map .int)] ++ [O.list ((zs.eraseIdx k).map .int)]) := (Fr.app.trans Fr.app).trans Fr.app
      have hfi : (σ₄ ++ [O.list ((zs.take k).map .int)] ++ [O.list ((zs.drop (k + 1)).map .int)] ++ [O.list ((zs.eraseIdx k).map .int)])[(σ₄ ++ [O.list ((zs.take k).map .int)] ++ [O.list ((zs.drop (k + 1)).map .int)]).length]? = some (.list ((zs.eraseIdx k).map .int)) := List.getElem?_concat_length
      generalize (σ₄ ++ [O.list ((zs.take k).map .int)] ++ [O.list ((zs.drop (k + 1)).map .int)] ++ [O.list ((zs.eraseIdx k).map .int)]) = σ₅ at F5 hfi ⊢
      generalize (σ₄ ++ [O.list ((zs.take k).map .int)] ++ [O.list ((zs.drop (k + 1)).map .int)]).length = i5 at hfi ⊢
      dsimp only
      have hfz : ∀ z ∈ zs.eraseIdx k, 0 ≤ z ∧ z < 256 := fun z m => hz z (List.mem_of_mem_eraseIdx m)
      have hfl : (zs.eraseIdx k).length = zs.length - 1 := List.length_eraseIdx_of_lt hkl
      refine PF.cons (PF.ifS (PB.cmpRows B G.K G.KQ (.inl rfl) ?_))
      refine PV.read B G (by decide +kernel) (PV.name (v := .ref i5) (by rfl) ⟨_, zs.eraseIdx k, rfl, hfi, hfz, by omega, fun σ₆ e6 js6 F6 hrow6 hrows6 => ?_⟩)
      have F46 := F4.trans (F5.trans F6)
      refine PV.name (v := .ref e) (by exact w2) ⟨_, _, _, _, _, rfl, rfl, hrow6, F46 _ _ hrow, rows_eq hrows6.1 hrows.1, ?_⟩
      rw [if_pos rfl]
      by_cases he : chunk (nums 0 (zs.eraseIdx k)) = R
      · rw [decide_eq_true he, if_pos rfl]
        refine PF.cons (PF.assign (.inl (by decide +kernel)) (PV.name (v := .ref i5) (by rfl) ?_))
        dsimp only
        refine PF.cons (PF.assign (.inl (by decide +kernel)) (PV.cint ?_))
        dsimp only
        refine PF.nil ?_
        dsimp only
        refine PF.nil ?_
        dsimp only
        exact ⟨_, by rw [hfl]; omega, i5, 0, zs.eraseIdx k, rfl, by exact w1, by exact w2, by rfl, by rfl, F6 _ _ hfi, F46, he, hfz, by omega, Nat.zero_le _, fun j h => absurd h (Nat.not_lt_zero _)⟩
      · rw [decide_eq_false he, if_neg (by decide)]
        refine PF.cons (PF.aug (.inl (by decide +kernel)) (a := (k : Int)) (by exact w4) (PV.cint ⟨_, _, rfl, .add, ?_⟩))
        dsimp only
        refine PF.nil ?_
        dsimp only
        refine PF.nil ?_
        dsimp only
        exact ⟨_, by omega, i, k + 1, zs, rfl, by exact w1, by exact w2, by exact w3, by rfl, F6 _ _ (F5 _ _ hi), F46, hzR, hz, hzl, hkl, fun j h => by
          rcases Nat.lt_or_ge j k with q | q
          · exact hm j q
          · rw [show j = k by omega]; exact he⟩
    · rw [decide_eq_false (by omega), if_neg (by decide)]
      have hke : k = zs.length := Nat.le_antisymm hk (Nat.le_of_not_lt hkl)
      obtain ⟨pz, hzf, hReps, hnn⟩ := least_of hzR fun j hj => hm j (by omega)
      have hcz := hReps.cans hnn
      have hRl : R.length ≤ 9 := by
        have := nums_len os 0
        rw [← hR, chunk_len]; omega
      have hflat : R.flatMap four = (nums 0 os).take ((nums 0 os).length / 4 * 4) := by rw [← hR, chunk_flat]
      have hbd : ∀ q ∈ R, ∀ v ∈ four q, 0 ≤ v ∧ v < 64 ^ 37 := fun q mq v mv => by
        have m : v ∈ R.flatMap four := List.mem_flatMap.mpr ⟨q, mq, mv⟩
        rw [hflat] at m
        have h1 := nums_bd os 0 0 (by decide) (by decide) v (List.mem_of_mem_take m)
        have h2 := (pw64 (0 + os.length) (37 - os.length)).2
        rw [show 0 + os.length + (37 - os.length) = 37 by omega] at h2
        exact ⟨h1.1, Int.lt_of_lt_of_le h1.2 h2⟩
      clear hm hkl hnn
      dsimp only
      refine PF.cons (PF.assign (.inl (by decide +kernel)) (PV.least B G (by decide +kernel) (PV.name w1 ⟨_, os, rfl, F4 _ _ dc3, by omega, fun σ₅ L pl F5 hL hC => ?_⟩)))
      have hcan : Cans pl (R.flatMap four) := by rw [hflat]; exact hC
      have hpl : pl = pz.map (fun p => p.map (· % 128)) := hcan.uniq hcz
      dsimp only
      refine PF.cons (PF.ifS (PB.cmp (PV.compMap ⟨rfl, rfl, by decide +kernel, by decide +kernel, by decide +kernel, by decide +kernel, by decide +kernel⟩ (PV.name (v := .ref i) (by exact w3) ?_))))
      refine ⟨.list i (zs.map .int), rfl, F5 _ _ hi, by show (zs.map V.int).length ≤ _; omega, fun _ => true, (fun v => match v with | .int z => .int (z % 128) | _ => .none), ?_, ?_⟩
      · intro y hy σ'' hf''
        obtain ⟨z, hz, rfl⟩ := List.mem_map.mp hy
        refine PB.none ⟨rfl, Fr.refl, fun _ => ?_⟩
        exact PV.bin (PV.name (by rfl) (PV.cint ⟨_, _, _, rfl, rfl, .mod (by decide), rfl, Fr.refl⟩))
      intro σ₆ F6 hl6
      rw [filter_all] at hl6
      have hns : (Src.xs (.list i (zs.map .int))).map (fun v => match v with | .int z => V.int (z % 128) | _ => .none) = pl.flatten.map .int := by
        show List.map _ (List.map _ _) = _
        rw [hpl, hzf, ← List.map_flatten, List.map_map, List.map_map]; rfl
      rw [hns] at hl6
      have hL6 := F6 _ _ hL
      refine PV.name (v := .ref L) (by rfl) ⟨_, .neL hl6 hL6 (ints_self _), ?_⟩
      rw [if_neg (by decide)]
      refine PF.nil ?_
      dsimp only
      refine PF.cons ?_
      refine PF.assignL ?_ ?_
      · exact .inl (by decide +kernel)
      refine PV.list (PVs.nil ⟨by simp, ?_⟩)
      dsimp only
      have F36 := F4.trans (F5.trans F6)
      have hrow6 := F36 _ _ hrow
      have hrows6 : Rows σ₆ (e + 1) R js := hrows.mono fun i o _ h => F36 _ _ h
      have hel : e < σ₆.length := (List.getElem?_eq_some_iff.mp hrow6).1
      have hLl : L < σ₆.length := (List.getElem?_eq_some_iff.mp hL6).1
      have hjs : ∀ j ∈ js, j < (σ₆ ++ [O.list []]).length := fun j m => by have := hrows6.lt m; simp; omega
      have hrow7 := Fr.app (m := [O.list []]) _ _ hrow6
      have hL7 := Fr.app (m := [O.list []]) _ _ hL6
      have hg7 : (σ₆ ++ [O.list []])[σ₆.length]? = some (.list []) := List.getElem?_concat_length
      generalize σ₆.length = g at hel hLl hg7 ⊢
      generalize (σ₆ ++ [O.list []]) = σ₇ at hjs hrow7 hL7 hg7 ⊢
      have hrl : (rowsV R js).length = R.length := rowsV_len hrows.1
      refine PF.cons ?_
      refine PF.forS (PV.name (v := .ref e) (by exact w2) ?_)
      refine ⟨.list e (rowsV R js), rfl, hrow7, (fun t ν σ => AgnI R js e L g t pl.flatten ν σ), ⟨[], by rfl, by rfl, hrow7, hL7, hg7, hjs, .nil, Nat.le_refl _⟩, fun t ν σ ⟨_, _, _, c1, _, _, _, _, _⟩ => c1, ?_, ?_⟩
      · rintro t y ν₃ σ₈ hy ⟨ps, a1, a2, d1, d2, d3, dj, C, hl⟩
        have hy' : (rowsV R js)[t]? = some y := hy
        have ht : t < R.length := by rw [← hrl]; exact (List.getElem?_eq_some_iff.mp hy').1
        have htj : t < js.length := by rw [hrows.1]; exact ht
        rw [rowsV_get (List.getElem?_eq_getElem ht) (List.getElem?_eq_getElem htj)] at hy'
        cases hy'
        have hjl := dj _ (List.getElem_mem htj)
        have hqm : R[t] ∈ R := List.getElem_mem ht
        have htk : (R.take (t + 1)).flatMap four = (R.take t).flatMap four ++ four R[t] := by rw [List.take_add_one, List.getElem?_eq_getElem ht, List.flatMap_append]; show _ ++ [R[t]].flatMap four = _; rw [List.flatMap_singleton]
        clear hy
        generalize R[t] = q at hqm htk ⊢
        generalize js[t] = j at hjl ⊢
        have hq4 := hbd q hqm
        refine PA.name (.inl (by decide +kernel)) ?_
        refine PF.cons (PF.ifS (PB.not (PB.val (PV.callB B G.isi (by decide +kernel) ?_))))
        refine PVs.cons (PV.name (v := .row (rowV q) j) (by rfl) ?_)
        refine PVs.cons (PV.gecls B G.entr (by decide +kernel) ?_)
        refine PVs.nil (CallR.isEntry B G.isE ⟨true, rfl, ?_⟩)
        rw [if_neg (by decide)]
        refine PF.nil ?_
        dsimp only
        refine PF.cons (PF.ifS (PB.bools (PB.or_cons (PB.cmp (PV.bin (PV.bin (PV.bin (PV.attr (PV.name (v := .row (rowV q) j) (by rfl) ?_)))))))))
        refine K.get _ 0 (by decide +kernel) 8 _ _ _ (.int (2 * q.1)) _ (by rw [rowV_eq]; rfl) hjl ?_
        refine PV.cint ⟨_, _, _, rfl, rfl, .mod (by decide), ?_⟩
        refine PV.bin (PV.attr (PV.name (v := .row (rowV q) j) (by rfl) ?_))
        refine K.get _ 1 (by decide +kernel) 8 _ _ _ (.int (2 * (q.1 + q.2.1))) _ (by rw [rowV_eq]; rfl) hjl ?_
        refine PV.cint ⟨_, _, _, rfl, rfl, .mod (by decide), ?_⟩
        refine ⟨_, _, _, rfl, rfl, .add, ?_⟩
        refine PV.bin (PV.attr (PV.name (v := .row (rowV q) j) (by rfl) ?_))
        refine K.get _ 2 (by decide +kernel) 8 _ _ _ (.int (2 * q.2.2.1)) _ (by rw [rowV_eq]; rfl) hjl ?_
        refine PV.cint ⟨_, _, _, rfl, rfl, .mod (by decide), ?_⟩
        refine ⟨_, _, _, rfl, rfl, .add, ?_⟩
        refine PV.cint ⟨_, .ne (.int _ _), ?_⟩
        rw [show 2 * q.1 % 2 + 2 * (q.1 + q.2.1) % 2 + 2 * q.2.2.1 % 2 = 0 by omega, beq_self_eq_true, if_neg (by decide)]
        refine PB.or_cons (PB.not (PB.val (PV.callB B G.isi (by decide +kernel) ?_)))
        refine PVs.cons (PV.attr (PV.name (v := .row (rowV q) j) (by rfl) ?_))
        refine K.get _ 4 (by decide +kernel) 8 _ _ _ (.bool (q.2.2.2 % 2 == 1)) _ (by rw [rowV_eq]; rfl) hjl ?_
        refine PVs.cons (PV.gty B G.bool (by decide +kernel) ?_)
        refine PVs.nil (CallR.isBool ⟨true, rfl, ?_⟩)
        rw [if_neg (by decide)]
        refine PB.or_nil ?_
        rw [if_neg (by decide)]
        refine PF.nil ?_
        dsimp only
        have i2 : Builtin.Int.intBits 2 ≤ 64 := by decide
        refine PF.cons ?_
        refine PF.forS (PV.tuple ?_)
        refine PVs.cons (PV.bin (PV.attr (PV.name (v := .row (rowV q) j) (by rfl) ?_)))
        refine K.get _ 0 (by decide +kernel) 8 _ _ _ (.int (2 * q.1)) _ (by rw [rowV_eq]; rfl) hjl ?_
        refine PV.cint ⟨_, _, _, rfl, rfl, .div (by decide) (by decide), ?_⟩
        refine PVs.cons (PV.bin (PV.bin (PV.attr (PV.name (v := .row (rowV q) j) (by rfl) ?_))))
        refine K.get _ 1 (by decide +kernel) 8 _ _ _ (.int (2 * (q.1 + q.2.1))) _ (by rw [rowV_eq]; rfl) hjl ?_
        refine PV.cint ⟨_, _, _, rfl, rfl, .div (by decide) (by decide), ?_⟩
        refine PV.bin (PV.attr (PV.name (v := .row (rowV q) j) (by rfl) ?_))
        refine K.get _ 0 (by decide +kernel) 8 _ _ _ (.int (2 * q.1)) _ (by rw [rowV_eq]; rfl) hjl ?_
        refine PV.cint ⟨_, _, _, rfl, rfl, .div (by decide) (by decide), ?_⟩
        refine ⟨_, _, _, rfl, rfl, .sub, ?_⟩
        refine PVs.cons (PV.bin (PV.attr (PV.name (v := .row (rowV q) j) (by rfl) ?_)))
        refine K.get _ 2 (by decide +kernel) 8 _ _ _ (.int (2 * q.2.2.1)) _ (by rw [rowV_eq]; rfl) hjl ?_
        refine PV.cint ⟨_, _, _, rfl, rfl, .div (by decide) (by decide), ?_⟩
        refine PVs.cons (PV.addB (PV.bin (PV.cint (PV.attr (PV.name (v := .row (rowV q) j) (by rfl) ?_)))))
        refine K.get _ 3 (by decide +kernel) 8 _ _ _ (.int (q.2.2.2 / 2)) _ (by rw [rowV_eq]; rfl) hjl ?_
        refine ⟨_, _, _, rfl, rfl, .mul (.of_left i2), ?_⟩
        refine PV.attr (PV.name (v := .row (rowV q) j) (by rfl) ?_)
        refine K.get _ 4 (by decide +kernel) 8 _ _ _ (.bool (q.2.2.2 % 2 == 1)) _ (by rw [rowV_eq]; rfl) hjl ?_
        refine ⟨_, _, rfl, rfl, ?_⟩
        refine PVs.nil ⟨by simp, ?_⟩
        have hfour : [V.int (2 * q.1 / 2), V.int (2 * (q.1 + q.2.1) / 2 - 2 * q.1 / 2), V.int (2 * q.2.2.1 / 2), V.int (2 * (q.2.2.2 / 2) + if (q.2.2.2 % 2 == 1) = true then 1 else 0)] = (four q).map .int := by
          have e1 : 2 * q.1 / 2 = q.1 := by omega
          have e2 : 2 * (q.1 + q.2.1) / 2 - q.1 = q.2.1 := by omega
          have e3 : 2 * q.2.2.1 / 2 = q.2.2.1 := by omega
          have e4 : (2 * (q.2.2.2 / 2) + if (q.2.2.2 % 2 == 1) = true then (1 : Int) else 0) = q.2.2.2 := by
            by_cases c : q.2.2.2 % 2 = 1
            · rw [if_pos (beq_iff_eq.mpr c)]; omega
            · rw [if_neg (fun h => c (beq_iff_eq.mp h))]; omega
          rw [e1, e2, e3, e4]; rfl
        rw [hfour]
        refine ⟨.tup ((four q).map .int), rfl, trivial, (fun s ν σ => AgnJ R js e L g t s pl.flatten q ν σ), ⟨ps, by exact a1, by exact a2, d1, d2, d3, dj, by rw [List.take_zero, List.append_nil]; exact C, by omega⟩, fun _ _ _ _ => trivial, ?_, ?_⟩
        · rintro s y ν₄ σ₉ hy ⟨ps, a1, a2, d1, d2, d3, dj, C, hl⟩
          obtain ⟨v, hv, rfl⟩ : ∃ v, (four q)[s]? = some v ∧ y = .int v := by
            have hy' : ((four q).map V.int)[s]? = some y := hy
            rw [List.getElem?_map] at hy'
            obtain ⟨x, hx, e⟩ := Option.map_eq_some_iff.mp hy'
            exact ⟨x, hx, e.symm⟩
          have hs4 : s < 4 := (List.getElem?_eq_some_iff.mp hv).1
          have hvb := hq4 v (List.mem_of_getElem? hv)
          refine PA.name (.inl (by decide +kernel)) ?_
          refine PF.cons (PF.expr (PV.meth PySem.F.slot_list_extend (by kernel_rfl) (PV.name (v := .ref g) (by exact a1) ⟨_, _, rfl, d3, ?_⟩)))
          refine PVs.cons (PV.write B G (by decide +kernel) (PV.name (v := .int v) (by rfl) ⟨_, rfl, hvb.1, hvb.2, fun σa ea ds Fa la ca na nl => ?_⟩))
          refine PVs.nil (CallR.extend (Fa _ _ d3) ca (by rw [List.length_map, List.length_map]; omega) ?_)
          dsimp only
          refine PF.nil ?_
          dsimp only
          refine ⟨ps ++ [ds], by exact a1, by exact a2, ?_, ?_, ?_, fun j m => ?_, ?_, ?_⟩
          · rw [List.getElem?_set_ne (by omega)]; exact Fa _ _ d1
          · rw [List.getElem?_set_ne (by omega)]; exact Fa _ _ d2
          · rw [List.getElem?_set_self (List.getElem?_eq_some_iff.mp (Fa _ _ d3)).1]; simp
          · rw [List.length_set]; have := dj j m; have := Fa.len; omega
          · rw [List.take_add_one, hv, ← List.append_assoc]
            exact C.app (.cons na .nil)
          · rw [List.flatten_append, List.length_append, List.flatten_singleton]; omega
        · rintro ν₄ σ₉ ⟨ps, a1, a2, d1, d2, d3, dj, C, hl⟩
          have e4 : (Src.xs (.tup ((four q).map V.int))).length = 4 := rfl
          rw [e4] at C hl
          dsimp only
          refine PF.nil ?_
          dsimp only
          exact ⟨ps, a1, a2, d1, d2, d3, dj, by rw [htk]; exact C, by omega⟩
      · rintro ν₃ σ₈ ⟨ps, a1, a2, d1, d2, d3, dj, C, hl⟩
        have hlx : (Src.xs (.list e (rowsV R js))).length = R.length := hrl
        rw [hlx, List.take_length] at C
        have hpp : ps = pl := C.uniq hcan
        subst hpp
        dsimp only
        refine PF.cons (PF.ret (PV.cmp (PV.name (v := .ref g) (by exact a1) (PV.name (v := .ref L) (by exact a2) ⟨_, .eqL d3 d2 (ints_self _), ?_⟩))))
        rfl
end Mine
end
open PySem PySem.W PyProof.Rows PySem.SeqAt PySem.Calls
set_option Elab.async false
set_option maxRecDepth 100000
set_option maxHeartbeats 8000000
set_option linter.unusedVariables false
namespace Mine
theorem lawG5 (w : World) (h : Heap) (fs : List Addr) (B : Bd (wdx w h fs)) : L5G (wdx w h fs) 103 := by
  obtain ⟨f1, s1, b1, F1, S1⟩ := read_at w.params
  obtain ⟨f2, s2, b2, F2, S2⟩ := write_at w.params
  obtain ⟨f3, s3, b3, F3, S3⟩ := least_at w.params
  exact ⟨by kernel_rfl, by kernel_rfl, by kernel_rfl, by kernel_rfl, by kernel_rfl, by kernel_rfl, entryK _, entryQ _, isE _, ⟨199, f1, s1, b1, by kernel_rfl, F1, fun L => S1 (wdx w h (L :: fs)) (kit1 w h (L :: fs) (B.in L)) (by kernel_rfl)⟩,
    ⟨206, f2, s2, b2, by kernel_rfl, F2, fun L => S2 _ (B.in L)⟩, ⟨211, f3, s3, b3, by kernel_rfl, F3, fun L => S3 _ (B.in L) (by kernel_rfl)⟩⟩
end Mine
open Mine
set_option maxHeartbeats 8000000 in
theorem PySem.Challenge.cw_io0064_05_holds : PySem.Challenge.rw_io0064_05.Holds := by
  refine holds_law said1 fun said => holds_open (q := vw) (loose := loose) (Xt := fun s => xlAt vw [] s && recOk [] s) (XP := XL vw []) (Yf := (kHook fr as1 asO).obs) (Ya := (kHook fr as1 asO).val) (YP := (kHook fr as1 asO).says) (N := 5702)
    left1 (Hook.of _) (Hook.keeps _) (fun s e => xl_of s (Bool.and_eq_true_iff.mp e).1) XL.keeps (by rfl) (by rfl) (by rfl) (fun s e => recFacts_of (Bool.and_eq_true_iff.mp e).2) (by rfl) said (by decide +kernel) ⟨rfl, rfl, rfl, rfl, rfl, by decide +kernel⟩ ?hw ?walk
  case hw => w_witness2
  intro w s₀ s₁ mg mb G Y fa o pm cd doc dV kV ho hd hcd hD hmg hg args vals as hpre hlay hrd hwl hlo
  have KX := kIn_of Y
  have X := (Ground.X G).1
  have V := (Ground.X G).2
  refine Ground.open G ?_
  intro T B D TE TW
  try (refine guard_noD D (by decide +kernel) ?_; clear D)
  obtain ⟨_, _, M⟩ := bmod_of_top T
  have TA := at_of_top T
  try (obtain ⟨_, _, he, B0⟩ := based_of_top T rfl hmg ho hd; have he' : cd = _ := he; subst he'; clear he)
  clear hmg
  wrow_args hpre hlay hrd hwl hlo
  all_goals (
    first | refine callC_kw (enter_call ?_) | refine enter_call ?_ | refine callC_kw (enter_callW ?_) | refine enter_callW ?_ | w_how
    w_top on
    try refine codeAny_mono ?_ (fun _ _ g => GoodW.toG g)
    have K0 := below_caller (Top.heap T)
    w_call any ho hd hcd hD T F
    clear hd TA
    k_drop
    skip)
  rename_i wa wb wc wd' xs hs hlay0 hL1 hr1 hl2 l4 l3 a vs l0 hL ra w1 r0 hI hr hc1 hc2 h₁ N
  have hlen : xs.length ≤ 63 := by omega
  have Bw : Bd (wdx w s₁.heap [s₁.heap.objs.size]) := bd_of KX T.g T.b T.builtins T.nolimit
  obtain ⟨fd, scope, body, FF, LS⟩ := law5_at w.params
  have LW := LS (wdx w s₁.heap [s₁.heap.objs.size]) 103 (kit1 w s₁.heap [s₁.heap.objs.size] Bw) (lawG5 w s₁.heap [s₁.heap.objs.size] Bw) xs (by omega)
  obtain ⟨oo, e1, e2⟩ := FF.ex
  have e3 := FF.body
  have e4 := FF.sc
  cases e1
  cases e2
  cases e3
  cases e4
  have hva := well_list w1 hL
  refine close (wdx w s₁.heap [s₁.heap.objs.size]) rfl (aok_law rfl (show ScopeKind.function ≠ ScopeKind.module by decide)) (ν := [Str.ofString "script"].zip [Mine.V.lst (xs.map Mine.V.int)]) ?_ rfl F.keep LW ?_
  · refine ⟨rfl, rfl, rfl, rfl, by simp, get_size_none _, ?_, ?_, ?_, ?_, _, F.ns, ?_⟩
    · intro p hp
      exact absurd (show p ∈ ([] : List (Str × Addr)) from hp) (List.not_mem_nil)
    · exact List.Pairwise.nil
    · intro p hp
      exact absurd (show p ∈ ([] : List (Str × Addr)) from hp) (List.not_mem_nil)
    · intro x hx
      exact cells_has (n := 0) (by decide +kernel) hx
    · intro y v e
      have hy : y = Str.ofString "script" ∧ v = Mine.V.lst (xs.map Mine.V.int) := by
        have e' : List.lookup y [(Str.ofString "script", Mine.V.lst (xs.map Mine.V.int))] = some v := e
        rw [List.lookup_cons] at e'
        cases q : y == Str.ofString "script" with
        | true => rw [q] at e'; cases e'; exact ⟨eq_of_beq q, rfl⟩
        | false => rw [q] at e'; cases e'
      obtain ⟨rfl, rfl⟩ := hy
      refine ⟨.ref a, .lst (F.keep _ _ hva) (by simp) (vrs_ints hI), .inl ⟨by rfl, by rfl⟩⟩
  · intro h' tk m F'
    refine goodW_bool F' hg (raisesW_false ?_) ?_
    · wrow_none_raised
    · wrow_post
