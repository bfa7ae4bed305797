import PyProof.Rows.All
import Wide.All
import OpenK.AllK
import Wide.FinOn
import PySem.Challenge.RW_tl0064_01
set_option Elab.async false
set_option linter.unusedVariables false
set_option maxRecDepth 100000
namespace Mine
open PySem PySem.W

/-- abstract values: tokens forgotten, addresses by their place in a list -/
inductive AV where
  | unset | none | bool (b : Bool) | int (i : Int) | str (s : Str) | flt (x : UInt64) | ref (i : Nat) | ext (v : Value)

def AV.known : AV → Bool
  | .unset => false
  | _ => true

inductive AO where
  | list (xs : List AV)
  | tup (xs : List AV)
  | obj (P : List Addr → Obj → Prop)

def VR (al : List Addr) : AV → Value → Prop
  | .unset, _ => True
  | .none, v => v = .none
  | .bool b, v => v = .bool b
  | .int i, v => ∃ t, v = .int i t
  | .str s, v => ∃ t, v = .str s t
  | .flt x, v => ∃ t, v = .float x t
  | .ref i, v => ∃ a, al[i]? = some a ∧ v = .ref a
  | .ext u, v => v = u

theorem get_app {al e : List Addr} {i : Nat} {a : Addr} (h : al[i]? = some a) : (al ++ e)[i]? = some a := by
  rw [List.getElem?_append_left (List.getElem?_eq_some_iff.mp h).1]; exact h

theorem VR.mono {al e : List Addr} {x : AV} {v : Value} (h : VR al x v) : VR (al ++ e) x v := by
  cases x <;> first | exact h | exact (let ⟨a, q, r⟩ := h; ⟨a, get_app q, r⟩)

abbrev VRs (al : List Addr) : List AV → List Value → Prop := Paired (VR al)
theorem paired_imp {α β : Type} {F F' : α → β → Prop} (hf : ∀ a b, F a b → F' a b) : ∀ {l : List α} {k : List β}, Paired F l k → Paired F' l k
  | _, _, .nil => .nil
  | _, _, .cons h t => .cons (hf _ _ h) (paired_imp hf t)
theorem VRs.mono {al e : List Addr} {xs : List AV} {vs : List Value} (h : VRs al xs vs) : VRs (al ++ e) xs vs := paired_imp (fun _ _ => VR.mono) h
theorem paired_get {α β : Type} {F : α → β → Prop} : ∀ {l : List α} {k : List β}, Paired F l k → ∀ {i : Nat} {a : α}, l[i]? = some a → ∃ b, k[i]? = some b ∧ F a b
  | _, _, .nil, i, a, h => by simp at h
  | _, _, .cons h t, 0, a, e => by simp at e; subst e; exact ⟨_, rfl, h⟩
  | _, _, .cons _ t, i + 1, a, e => by simpa using paired_get t (by simpa using e)
theorem paired_app {α β : Type} {F : α → β → Prop} : ∀ {l l' : List α} {k k' : List β}, Paired F l k → Paired F l' k' → Paired F (l ++ l') (k ++ k')
  | _, _, _, _, .nil, h => h
  | _, _, _, _, .cons a t, h => .cons a (paired_app t h)
theorem paired_take {α β : Type} {F : α → β → Prop} : ∀ {l : List α} {k : List β} (n : Nat), Paired F l k → Paired F (l.take n) (k.take n)
  | _, _, _, .nil => by simpa using Paired.nil
  | _, _, 0, .cons _ _ => by simpa using Paired.nil
  | _, _, n + 1, .cons h t => by simpa using Paired.cons h (paired_take n t)
theorem paired_drop {α β : Type} {F : α → β → Prop} : ∀ {l : List α} {k : List β} (n : Nat), Paired F l k → Paired F (l.drop n) (k.drop n)
  | _, _, _, .nil => by simpa using Paired.nil
  | _, _, 0, .cons h t => by simpa using Paired.cons h t
  | _, _, n + 1, .cons _ t => by simpa using paired_drop n t
theorem paired_set {α β : Type} {F : α → β → Prop} : ∀ {l : List α} {k : List β} (n : Nat) {a : α} {b : β}, Paired F l k → F a b → Paired F (l.set n a) (k.set n b)
  | _, _, _, _, _, .nil, _ => by simpa using Paired.nil
  | _, _, 0, _, _, .cons _ t, h => by simpa using Paired.cons h t
  | _, _, n + 1, _, _, .cons q t, h => by simpa using Paired.cons q (paired_set n t h)
theorem Paired.dropLast {α β : Type} {F : α → β → Prop} {l : List α} {k : List β} (h : Paired F l k) : Paired F l.dropLast k.dropLast := by
  rw [List.dropLast_eq_take, List.dropLast_eq_take, h.length]; exact paired_take _ h

abbrev listOf (vs : Array Value) (n : Nat) : Obj := { cls := .type "list", data := .seq vs n }
abbrev tupOf (vs : Array Value) (n : Nat) : Obj := { cls := .type "tuple", data := .seq vs n }

def OR (al : List Addr) (o : Obj) : AO → Prop
  | .list xs => ∃ vs n, o = listOf vs n ∧ VRs al xs vs.toList
  | .tup xs => ∃ vs n, o = tupOf vs n ∧ VRs al xs vs.toList
  | .obj P => ∀ e, P (al ++ e) o

theorem OR.mono {al e : List Addr} {o : Obj} {x : AO} (h : OR al o x) : OR (al ++ e) o x := by
  cases x with
  | list xs => obtain ⟨vs, n, q, r⟩ := h; exact ⟨vs, n, q, VRs.mono r⟩
  | tup xs => obtain ⟨vs, n, q, r⟩ := h; exact ⟨vs, n, q, VRs.mono r⟩
  | obj P => intro e'; rw [List.append_assoc]; exact h _

/-- the objects that stand fast, and the first places -/
structure Base where
  heap : Heap
  pre : List Addr
abbrev Base.get? (b : Base) (a : Addr) : Option Obj := b.heap.get? a

structure Rel (h₀ : Base) (al : List Addr) (H : List AO) (h : Heap) : Prop where
  pre : h₀.pre <+: al
  base : ∀ b o, h₀.get? b = some o → h.get? b = some o
  apart : ∀ a ∈ al, h₀.get? a = none
  nodup : al.Nodup
  len : al.length = H.length
  obj : ∀ (i : Nat) (a : Addr) (x : AO), al[i]? = some a → H[i]? = some x → ∃ o, h.get? a = some o ∧ OR al o x

structure Step (al ext : List Addr) (s s' : Shared) : Prop where
  keep : ∀ b o, b ∉ al → s.heap.get? b = some o → s'.heap.get? b = some o
  dom : ∀ b, (s.heap.get? b).isSome = true → (s'.heap.get? b).isSome = true
  new : ∀ a ∈ ext, s.heap.get? a = none
  gens : s'.gens = s.gens
  os : s'.os = s.os

/-- as Step, but the frame's own locals (at L) may turn -/
structure StepL (L : Addr) (al ext : List Addr) (s s' : Shared) : Prop where
  keep : ∀ b o, b ∉ al → b ≠ L → s.heap.get? b = some o → s'.heap.get? b = some o
  dom : ∀ b, (s.heap.get? b).isSome = true → (s'.heap.get? b).isSome = true
  new : ∀ a ∈ ext, s.heap.get? a = none
  gens : s'.gens = s.gens
  os : s'.os = s.os

theorem Step.refl {al : List Addr} {s : Shared} : Step al [] s s := ⟨fun _ _ _ e => e, fun _ e => e, (fun _ h => by cases h), rfl, rfl⟩
theorem Step.toL {L : Addr} {al ext : List Addr} {s s' : Shared} (h : Step al ext s s') : StepL L al ext s s' := ⟨fun b o hb _ e => h.keep b o hb e, h.dom, h.new, h.gens, h.os⟩
theorem StepL.refl {L : Addr} {al : List Addr} {s : Shared} : StepL L al [] s s := Step.refl.toL
theorem Step.trans {al e₁ e₂ : List Addr} {s s₁ s₂ : Shared} (x : Step al e₁ s s₁) (y : Step (al ++ e₁) e₂ s₁ s₂) : Step al (e₁ ++ e₂) s s₂ where
  keep b o hb e := y.keep b o (fun hm => by
    rcases List.mem_append.mp hm with hm | hm
    · exact hb hm
    · have := x.new b hm; rw [e] at this; cases this) (x.keep b o hb e)
  dom b e := y.dom b (x.dom b e)
  new a ha := by
    rcases List.mem_append.mp ha with ha | ha
    · exact x.new a ha
    · have q := y.new a ha
      cases e : s.heap.get? a with
      | none => rfl
      | some o => have := x.dom a (by rw [e]; rfl); rw [q] at this; cases this
  gens := y.gens.trans x.gens
  os := y.os.trans x.os
theorem StepL.trans {L : Addr} {al e₁ e₂ : List Addr} {s s₁ s₂ : Shared} (x : StepL L al e₁ s s₁) (y : StepL L (al ++ e₁) e₂ s₁ s₂) : StepL L al (e₁ ++ e₂) s s₂ where
  keep b o hb hL e := y.keep b o (fun hm => by
    rcases List.mem_append.mp hm with hm | hm
    · exact hb hm
    · have := x.new b hm; rw [e] at this; cases this) hL (x.keep b o hb hL e)
  dom b e := y.dom b (x.dom b e)
  new a ha := by
    rcases List.mem_append.mp ha with ha | ha
    · exact x.new a ha
    · have q := y.new a ha
      cases e : s.heap.get? a with
      | none => rfl
      | some o => have := x.dom a (by rw [e]; rfl); rw [q] at this; cases this
  gens := y.gens.trans x.gens
  os := y.os.trans x.os

structure Gd where
  prog : Program
  w : World
  h₀ : Heap
  mg : Str → Option Value
  mb : Str → Option Value
  pre : List Addr := []
abbrev Gd.bs (G : Gd) : Base := ⟨G.h₀, G.pre⟩

structure Gd.Ok (G : Gd) : Prop where
  g : G.h₀.Ns mainGlobals G.mg
  b : G.h₀.Ns builtinsNs G.mb
  nolimit : G.h₀.NoLimit


structure AOK (d : Nat) (A : Around) : Prop where
  handled : A.handled = none
  depth : A.depth + 4 * d < recursionLimit
  units : A.units + 16 * d < cLine

theorem AOK.deeper {d : Nat} {A : Around} (h : AOK (d + 1) A) (env : Env) : AOK d (A.deeper env) :=
  ⟨h.handled, by have := h.depth; show A.depth + 1 + 4 * d < _; (first | lia | omega), by have := h.units; show A.units + 3 + 16 * d < _; (first | lia | omega)⟩
theorem AOK.mono {d d' : Nat} {A : Around} (h : AOK d' A) (hd : d ≤ d') : AOK d A :=
  ⟨h.handled, by have := h.depth; (first | lia | omega), by have := h.units; (first | lia | omega)⟩
theorem AOK.room {d : Nat} {A : Around} (h : AOK d A) : A.depth < recursionLimit := by have := h.depth; (first | lia | omega)
theorem AOK.cunits {d : Nat} {A : Around} (h : AOK d A) : A.units < cLine := by have := h.units; (first | lia | omega)

abbrev LV := List (Str × AV)

structure LR (env : Env) (al : List Addr) (r : LV) (h : Heap) : Prop where
  nodup : (r.map (·.1)).Nodup
  kind : ∀ p ∈ r, env.kindOf p.1 = some .local
  nodbg : ∀ p ∈ r, (p.1 == ("__debug__" : Str)) = false
  off : env.locals ∉ al
  vals : ∃ m, h.Ns env.locals m ∧ ∀ p ∈ r, p.2.known = true → ∃ v, m p.1 = some v ∧ VR al p.2 v

theorem LR.lt {env : Env} {al : List Addr} {r : LV} {h : Heap} (x : LR env al r h) : env.locals < h.objs.size := by
  obtain ⟨m, hn, _⟩ := x.vals; exact hn.lt

theorem LR.step {env : Env} {al ext : List Addr} {r : LV} {s s' : Shared} (x : LR env al r s.heap) (st : Step al ext s s') : LR env (al ++ ext) r s'.heap := by
  obtain ⟨m, hn, hv⟩ := x.vals
  refine ⟨x.nodup, x.kind, x.nodbg, fun hm => ?_, m, ?_, fun p hp hu => ?_⟩
  · rcases List.mem_append.mp hm with hm | hm
    · exact x.off hm
    · obtain ⟨o, es, ep, ho, _⟩ := hn
      have := st.new _ hm; rw [ho] at this; cases this
  · obtain ⟨o, es, ep, ho, q⟩ := hn
    exact ⟨o, es, ep, st.keep _ _ x.off ho, q⟩
  · obtain ⟨v, e, q⟩ := hv p hp hu
    exact ⟨v, e, q.mono⟩

structure EnvOK (G : Gd) (env : Env) : Prop where
  kind : env.scope.kind = .function
  globals : env.globals = mainGlobals
  builtins : env.builtins = builtinsNs
  fresh : G.h₀.get? env.locals = none

/-- a triple of an expression: from r, H it yields a and leaves H' -/
structure Ev (G : Gd) (d : Nat) (env : Env) (e : Expr) (r : LV) (H : List AO) (a : AV) (H' : List AO) : Prop where
  go : ∀ (A : Around) (s : Shared) (al : List Addr) (Q : Value → Shared → Prop), AOK d A → Rel G.bs al H s.heap → LR env al r s.heap →
    (∀ v s' ext, Rel G.bs (al ++ ext) H' s'.heap → VR (al ++ ext) a v → Step al ext s s' → Q v s') →
    wpAny (model G.prog G.w) A (eval e env) Q (fun _ _ => False) s

/-- a triple of several expressions in a row (arguments, displays) -/
structure Evs (G : Gd) (d : Nat) (env : Env) (es : List Expr) (r : LV) (H : List AO) (as : List AV) (H' : List AO) : Prop where
  go : ∀ (A : Around) (s : Shared) (al : List Addr) (pos : Pos) (Q : List Value → Shared → Prop), AOK d A → Rel G.bs al H s.heap → LR env al r s.heap →
    (∀ vs s' ext, Rel G.bs (al ++ ext) H' s'.heap → VRs (al ++ ext) as vs → Step al ext s s' → Q vs s') →
    wpAny (model G.prog G.w) A (spliced (backTo pos (starEach es env))) Q (fun _ _ => False) s

/-- the test of an if -/
structure Et (G : Gd) (d : Nat) (env : Env) (e : Expr) (r : LV) (H : List AO) (b : Bool) (H' : List AO) : Prop where
  go : ∀ (A : Around) (s : Shared) (al : List Addr) (Q : Bool → Shared → Prop), AOK d A → Rel G.bs al H s.heap → LR env al r s.heap →
    (∀ s' ext, Rel G.bs (al ++ ext) H' s'.heap → Step al ext s s' → Q b s') →
    wpAny (model G.prog G.w) A (isTrue e env (eval e env)) Q (fun _ _ => False) s

/-- a call of a value -/
structure CallT (G : Gd) (d : Nat) (f : AV) (as : List AV) (H : List AO) (a : AV) (H' : List AO) : Prop where
  go : ∀ (A : Around) (s : Shared) (al : List Addr) (fv : Value) (vs : List Value) (Q : Value → Shared → Prop), AOK d A → Rel G.bs al H s.heap → VR al f fv → VRs al as vs →
    (∀ v s' ext, Rel G.bs (al ++ ext) H' s'.heap → VR (al ++ ext) a v → Step al ext s s' → Q v s') →
    wpAny (model G.prog G.w) A (call fv vs) Q (fun _ _ => False) s

inductive AF where
  | next | brk | cont | ret (a : AV)
def FR (al : List Addr) : AF → Flow → Prop
  | .next, f => f = .next
  | .brk, f => f = .brk
  | .cont, f => f = .cont
  | .ret a, f => ∃ v, f = .ret v ∧ VR al a v

structure Ex (G : Gd) (d : Nat) (env : Env) (ss : List Stmt) (r : LV) (H : List AO) (f : AF) (r' : LV) (H' : List AO) : Prop where
  go : ∀ (A : Around) (s : Shared) (al : List Addr) (Q : Flow → Shared → Prop), AOK d A → Rel G.bs al H s.heap → LR env al r s.heap →
    (∀ fl s' ext, Rel G.bs (al ++ ext) H' s'.heap → LR env (al ++ ext) r' s'.heap → FR (al ++ ext) f fl → StepL env.locals al ext s s' → Q fl s') →
    wpAny (model G.prog G.w) A (execs ss env) Q (fun _ _ => False) s

structure Ex1 (G : Gd) (d : Nat) (env : Env) (st : Stmt) (r : LV) (H : List AO) (f : AF) (r' : LV) (H' : List AO) : Prop where
  go : ∀ (A : Around) (s : Shared) (al : List Addr) (Q : Flow → Shared → Prop), AOK d A → Rel G.bs al H s.heap → LR env al r s.heap →
    (∀ fl s' ext, Rel G.bs (al ++ ext) H' s'.heap → LR env (al ++ ext) r' s'.heap → FR (al ++ ext) f fl → StepL env.locals al ext s s' → Q fl s') →
    wpAny (model G.prog G.w) A (exec st env) Q (fun _ _ => False) s

/-- storing a value in a target -/
structure Asg (G : Gd) (d : Nat) (env : Env) (t : Expr) (a : AV) (r : LV) (H : List AO) (r' : LV) (H' : List AO) : Prop where
  go : ∀ (A : Around) (s : Shared) (al : List Addr) (v : Value) (Q : Unit → Shared → Prop), AOK d A → Rel G.bs al H s.heap → LR env al r s.heap → VR al a v →
    (∀ s' ext, Rel G.bs (al ++ ext) H' s'.heap → LR env (al ++ ext) r' s'.heap → StepL env.locals al ext s s' → Q () s') →
    wpAny (model G.prog G.w) A (assign t env v) Q (fun _ _ => False) s

/-! ## the heap's turns -/
theorem size_notIn {h₀ : Base} {h : Heap} {al : List Addr} {H : List AO} (R : Rel h₀ al H h) : h.objs.size ∉ al := fun hm => by
  obtain ⟨i, hi⟩ := List.getElem?_of_mem hm
  have hlt : i < H.length := by rw [← R.len]; exact (List.getElem?_eq_some_iff.mp hi).1
  obtain ⟨o, ho, _⟩ := R.obj i _ H[i] hi (by simp [hlt])
  exact absurd (Heap.lt_size ho) (Nat.lt_irrefl _)
theorem Rel.lt {h₀ : Base} {h : Heap} {al : List Addr} {H : List AO} (R : Rel h₀ al H h) {a : Addr} (hm : a ∈ al) : a < h.objs.size := by
  obtain ⟨i, hi⟩ := List.getElem?_of_mem hm
  have hlt : i < H.length := by rw [← R.len]; exact (List.getElem?_eq_some_iff.mp hi).1
  obtain ⟨o, ho, _⟩ := R.obj i _ H[i] hi (by simp [hlt])
  exact Heap.lt_size ho
theorem Rel.at {h₀ : Base} {h : Heap} {al : List Addr} {H : List AO} (R : Rel h₀ al H h) {i : Nat} {x : AO} (hx : H[i]? = some x) :
    ∃ a o, al[i]? = some a ∧ h.get? a = some o ∧ OR al o x := by
  have hlt : i < al.length := by rw [R.len]; exact (List.getElem?_eq_some_iff.mp hx).1
  obtain ⟨o, ho, q⟩ := R.obj i al[i] x (by simp [hlt]) hx
  exact ⟨al[i], o, by simp [hlt], ho, q⟩
theorem Rel.keeps {h₀ : Base} {h h' : Heap} {al : List Addr} {H : List AO} (R : Rel h₀ al H h) (k : ∀ b o, h.get? b = some o → h'.get? b = some o) : Rel h₀ al H h' :=
  ⟨R.pre, fun b o e => k b o (R.base b o e), R.apart, R.nodup, R.len, fun i a x e1 e2 => let ⟨o, ho, q⟩ := R.obj i a x e1 e2; ⟨o, k _ _ ho, q⟩⟩
theorem Rel.push {h₀ : Base} {h : Heap} {al : List Addr} {H : List AO} (R : Rel h₀ al H h) {o : Obj} {x : AO} (ho : o.isFreed = false) (q : OR (al ++ [h.objs.size]) o x) :
    Rel h₀ (al ++ [h.objs.size]) (H ++ [x]) (h.push o) where
  pre := R.pre.trans (List.prefix_append _ _)
  base b o' e := Heap.get?_push_of_some o (R.base b o' e)
  apart a ha := by
    rcases List.mem_append.mp ha with ha | ha
    · exact R.apart a ha
    · rw [List.mem_singleton.mp ha]
      cases e : h₀.get? h.objs.size with
      | none => rfl
      | some o' => exact absurd (Heap.lt_size (R.base _ _ e)) (Nat.lt_irrefl _)
  nodup := by
    rw [List.nodup_append]
    refine ⟨R.nodup, by simp, fun a ha b hb e => ?_⟩
    rw [List.mem_singleton.mp hb] at e
    subst e
    exact size_notIn R ha
  len := by simp [R.len]
  obj i a y e1 e2 := by
    by_cases hi : i < al.length
    · rw [List.getElem?_append_left hi] at e1
      rw [List.getElem?_append_left (by rw [← R.len]; exact hi)] at e2
      obtain ⟨o', ho', q'⟩ := R.obj i a y e1 e2
      exact ⟨o', Heap.get?_push_of_some o ho', q'.mono⟩
    · have hi' : i = al.length := by
        have := (List.getElem?_eq_some_iff.mp e1).1
        simp at this; (first | lia | omega)
      subst hi'
      simp at e1
      rw [R.len] at e2
      simp at e2
      subst e1 e2
      exact ⟨o, Heap.get?_push_size h ho, q⟩
theorem Rel.update {h₀ : Base} {h h' : Heap} {al : List Addr} {H : List AO} (R : Rel h₀ al H h) {i : Nat} {a : Addr} {o : Obj} {x : AO} (hi : al[i]? = some a) (hs : ∀ b o, b ≠ a → h.get? b = some o → h'.get? b = some o) (ho : h'.get? a = some o) (q : OR al o x) :
    Rel h₀ al (H.set i x) h' where
  base b o' e := hs b o' (fun hb => by subst hb; have := R.apart b (List.mem_of_getElem? hi); rw [this] at e; cases e) (R.base b o' e)
  pre := R.pre
  apart := R.apart
  nodup := R.nodup
  len := by simp [R.len]
  obj j b y e1 e2 := by
    by_cases hj : j = i
    · subst hj
      rw [hi] at e1
      cases e1
      rw [List.getElem?_set_self (by rw [← R.len]; exact (List.getElem?_eq_some_iff.mp hi).1)] at e2
      cases e2
      exact ⟨o, ho, q⟩
    · rw [List.getElem?_set_ne (Ne.symm hj)] at e2
      obtain ⟨o', ho', q'⟩ := R.obj j b y e1 e2
      refine ⟨o', hs b o' (fun hb => hj ?_) ho', q'⟩
      subst hb
      exact (List.getElem?_inj (List.getElem?_eq_some_iff.mp e1).1 R.nodup).mp (e1.trans hi.symm)

theorem get_size (h : Heap) : h.get? h.objs.size = none := by
  cases e : h.get? h.objs.size with
  | none => rfl
  | some o => exact absurd (Heap.lt_size e) (Nat.lt_irrefl _)
theorem dom_of_keep {h h' : Heap} (k : ∀ b o, h.get? b = some o → h'.get? b = some o) : ∀ b, (h.get? b).isSome = true → (h'.get? b).isSome = true := fun b e => by
  obtain ⟨o, ho⟩ := Option.isSome_iff_exists.mp e
  rw [k b o ho]; rfl
theorem Step.of_keep {al : List Addr} {s : Shared} {h' : Heap} {tk : Nat} (k : ∀ b o, s.heap.get? b = some o → h'.get? b = some o) : Step al [] s { s with heap := h', toks := tk } :=
  ⟨fun b o _ e => k b o e, dom_of_keep k, (fun _ h => by cases h), rfl, rfl⟩
theorem Step.toks {al : List Addr} {s : Shared} {tk : Nat} : Step al [] s { s with toks := tk } := ⟨fun _ _ _ e => e, fun _ e => e, (fun _ h => by cases h), rfl, rfl⟩
theorem Step.push {al : List Addr} {s : Shared} {o : Obj} {tk : Nat} : Step al [s.heap.objs.size] s { s with heap := s.heap.push o, toks := tk } :=
  ⟨fun b o' _ e => Heap.get?_push_of_some o e, dom_of_keep fun b o' e => Heap.get?_push_of_some o e, (fun a ha => by rw [List.mem_singleton.mp ha]; exact get_size _), rfl, rfl⟩
theorem Step.pushG {al : List Addr} {s : Shared} {o : Obj} {tk : Nat} : Step al [] s { s with heap := s.heap.push o, toks := tk } :=
  ⟨fun b o' _ e => Heap.get?_push_of_some o e, dom_of_keep fun b o' e => Heap.get?_push_of_some o e, (fun a ha => by cases ha), rfl, rfl⟩
theorem Step.same {al : List Addr} {s : Shared} {h' : Heap} {tk : Nat} {a : Addr} {o : Obj} (hs : Heap.SameBut a s.heap h') (ho : h'.get? a = some o) (ha : a ∈ al) : Step al [] s { s with heap := h', toks := tk } :=
  ⟨fun b o hb e => (hs.2 b (fun x => hb (x ▸ ha))).trans e, (fun b e => by
    by_cases hb : b = a
    · subst hb; show (h'.get? b).isSome = true; rw [ho]; rfl
    · show (h'.get? b).isSome = true; rw [hs.2 b hb]; exact e), (fun a ha => by cases ha), rfl, rfl⟩

/-! ## running a triple on: the rest behind it -/
theorem Ev.run {G : Gd} {d : Nat} {env : Env} {e : Expr} {r : LV} {H H' : List AO} {a : AV} (x : Ev G d env e r H a H') {A : Around} {s : Shared} {al : List Addr} {Q : Value → Shared → Prop}
    (hA : AOK d A) (R : Rel G.bs al H s.heap) (L : LR env al r s.heap)
    (k : ∀ v s' ext, Rel G.bs (al ++ ext) H' s'.heap → LR env (al ++ ext) r s'.heap → VR (al ++ ext) a v → Step al ext s s' → Q v s') :
    wpAny (model G.prog G.w) A (eval e env) Q (fun _ _ => False) s :=
  x.go A s al Q hA R L fun v s' ext R' V' S' => k v s' ext R' (L.step S') V' S'
theorem Evs.run {G : Gd} {d : Nat} {env : Env} {es : List Expr} {r : LV} {H H' : List AO} {as : List AV} (x : Evs G d env es r H as H') {A : Around} {s : Shared} {al : List Addr} {pos : Pos} {Q : List Value → Shared → Prop}
    (hA : AOK d A) (R : Rel G.bs al H s.heap) (L : LR env al r s.heap)
    (k : ∀ vs s' ext, Rel G.bs (al ++ ext) H' s'.heap → LR env (al ++ ext) r s'.heap → VRs (al ++ ext) as vs → Step al ext s s' → Q vs s') :
    wpAny (model G.prog G.w) A (spliced (backTo pos (starEach es env))) Q (fun _ _ => False) s :=
  x.go A s al pos Q hA R L fun v s' ext R' V' S' => k v s' ext R' (L.step S') V' S'
theorem Et.run {G : Gd} {d : Nat} {env : Env} {e : Expr} {r : LV} {H H' : List AO} {b : Bool} (x : Et G d env e r H b H') {A : Around} {s : Shared} {al : List Addr} {Q : Bool → Shared → Prop}
    (hA : AOK d A) (R : Rel G.bs al H s.heap) (L : LR env al r s.heap)
    (k : ∀ s' ext, Rel G.bs (al ++ ext) H' s'.heap → LR env (al ++ ext) r s'.heap → Step al ext s s' → Q b s') :
    wpAny (model G.prog G.w) A (isTrue e env (eval e env)) Q (fun _ _ => False) s :=
  x.go A s al Q hA R L fun s' ext R' S' => k s' ext R' (L.step S') S'

end Mine

namespace Mine
open PySem PySem.W

section
variable {G : Gd} {d : Nat} {al : List Addr} {H H' : List AO} {s : Shared} {Q : Value → Shared → Prop} {c : AV}
theorem fin0 (k : ∀ v s' ext, Rel G.bs (al ++ ext) H s'.heap → VR (al ++ ext) c v → Step al ext s s' → Q v s') (R : Rel G.bs al H s.heap) {v : Value} (hv : VR al c v) {n : Nat} : Q v { s with toks := n } :=
  k v _ [] (by rw [List.append_nil]; exact R) (by rw [List.append_nil]; exact hv) Step.toks
theorem fin00 (k : ∀ v s' ext, Rel G.bs (al ++ ext) H s'.heap → VR (al ++ ext) c v → Step al ext s s' → Q v s') (R : Rel G.bs al H s.heap) {v : Value} (hv : VR al c v) : Q v s :=
  k v _ [] (by rw [List.append_nil]; exact R) (by rw [List.append_nil]; exact hv) Step.refl
theorem finG (k : ∀ v s' ext, Rel G.bs (al ++ ext) H s'.heap → VR (al ++ ext) c v → Step al ext s s' → Q v s') (R : Rel G.bs al H s.heap) {v : Value} (hv : VR al c v) {h' : Heap} {n : Nat}
    (hk : ∀ b o, s.heap.get? b = some o → h'.get? b = some o) : Q v { s with heap := h', toks := n } :=
  k v _ [] (by rw [List.append_nil]; exact R.keeps hk) (by rw [List.append_nil]; exact hv) (Step.of_keep hk)
theorem finP {x : AO} (k : ∀ v s' ext, Rel G.bs (al ++ ext) (H ++ [x]) s'.heap → VR (al ++ ext) (.ref H.length) v → Step al ext s s' → Q v s') (R : Rel G.bs al H s.heap) {o : Obj} (ho : o.isFreed = false) (q : OR al o x) {n : Nat} :
    Q (.ref s.heap.objs.size) { s with heap := s.heap.push o, toks := n } :=
  k _ _ [s.heap.objs.size] (R.push ho q.mono) ⟨_, by rw [← R.len]; simp, rfl⟩ Step.push
end

inductive At : LV → Str → AV → Prop
  | here {x a r} : At ((x, a) :: r) x a
  | there {p r x a} : At r x a → At (p :: r) x a
theorem At.mem {r : LV} {x : Str} {a : AV} (h : At r x a) : (x, a) ∈ r := by
  induction h with
  | here => exact List.mem_cons_self
  | there _ ih => exact List.mem_cons_of_mem _ ih
inductive Put (x : Str) (a : AV) : LV → LV → Prop
  | here {b r} : Put x a ((x, b) :: r) ((x, a) :: r)
  | there {p r r'} : Put x a r r' → Put x a (p :: r) (p :: r')
theorem Put.names {x : Str} {a : AV} {r r' : LV} (h : Put x a r r') : r'.map (·.1) = r.map (·.1) := by
  induction h with
  | here => rfl
  | there _ ih => simp [ih]
theorem Put.mem {x : Str} {a : AV} {r r' : LV} (h : Put x a r r') (nd : (r.map (·.1)).Nodup) : x ∈ r.map (·.1) ∧ ∀ p ∈ r', (p.1 = x ∧ p.2 = a) ∨ (p.1 ≠ x ∧ p ∈ r) := by
  induction h with
  | @here b r =>
    refine ⟨by simp, fun p hp => ?_⟩
    rcases List.mem_cons.mp hp with rfl | hp
    · exact .inl ⟨rfl, rfl⟩
    · refine .inr ⟨fun e => ?_, List.mem_cons_of_mem _ hp⟩
      simp only [List.map_cons, List.nodup_cons] at nd
      exact nd.1 (e ▸ List.mem_map_of_mem hp)
  | @there q r r' _ ih =>
    simp only [List.map_cons, List.nodup_cons] at nd
    obtain ⟨h1, h2⟩ := ih nd.2
    refine ⟨by simp only [List.map_cons]; exact List.mem_cons_of_mem _ h1, fun p hp => ?_⟩
    rcases List.mem_cons.mp hp with rfl | hp
    · exact .inr ⟨fun e => nd.1 (e ▸ h1), List.mem_cons_self⟩
    · rcases h2 p hp with q | ⟨q1, q2⟩
      · exact .inl q
      · exact .inr ⟨q1, List.mem_cons_of_mem _ q2⟩

section
variable {G : Gd} {d : Nat} {env : Env} {r r' r₁ : LV} {H H' H₁ H₂ H₃ : List AO}

theorem Ev.loc {x : Str} {pos : Pos} {a : AV} (hE : EnvOK G env) (h : At r x a) (hu : a.known = true := by rfl) : Ev G d env (.Name x pos) r H a H := .mk fun A s al Q hA R L k => by
  obtain ⟨m, hn, hv⟩ := L.vals
  obtain ⟨v, hm, q⟩ := hv _ h.mem hu
  exact wpAny_Name (wpAny_loadName_local hE.kind (L.kind _ h.mem) hn hm (fin00 k R q)) (L.nodbg _ h.mem)

theorem Ev.glob {x : Str} {pos : Pos} {v : Value} {a : AV} (hG : G.Ok) (hE : EnvOK G env) (hv : G.mg x = some v) (ha : ∀ al, VR al a v) (hx : env.kindOf x = some .globalImplicit := by rfl) (hd : (x == ("__debug__" : Str)) = false := by decide) :
    Ev G d env (.Name x pos) r H a H := .mk fun A s al Q hA R L k =>
  Calls.Name_function_global hE.kind hx (Calls.loadGlobal_global (by rw [hE.globals]; exact hG.g.keeps R.base) hv (fin00 k R (ha al))) hd
theorem Ev.bltin {x : Str} {pos : Pos} {v : Value} (hG : G.Ok) (hE : EnvOK G env) (hm : G.mg x = none) (hv : G.mb x = some v) (hx : env.kindOf x = some .globalImplicit := by rfl) (hd : (x == ("__debug__" : Str)) = false := by decide) :
    Ev G d env (.Name x pos) r H (.ext v) H := .mk fun A s al Q hA R L k =>
  Calls.Name_function_global hE.kind hx (Calls.loadGlobal_builtin (by rw [hE.globals]; exact hG.g.keeps R.base) hm (by rw [hE.builtins]; exact hG.b.keeps R.base) hv (fin00 k R rfl)) hd

theorem Ev.cInt {i : Int} {n : Nat} {pos : Pos} : Ev G d env (.Constant (.int i) n pos) r H (.int i) H := .mk fun A s al Q hA R L k => wpAny_Constant_int (fin0 k R ⟨_, rfl⟩)
theorem Ev.cStr {x : Str} {n : Nat} {pos : Pos} : Ev G d env (.Constant (.str x) n pos) r H (.str x) H := .mk fun A s al Q hA R L k => Calls.Constant_str (fin0 k R ⟨_, rfl⟩)
theorem Ev.cFlt {x : UInt64} {n : Nat} {pos : Pos} : Ev G d env (.Constant (.float x) n pos) r H (.flt x) H := .mk fun A s al Q hA R L k => wpAny_Constant_float (fin0 k R ⟨_, rfl⟩)
theorem Ev.cBool {b : Bool} {n : Nat} {pos : Pos} : Ev G d env (.Constant (.bool b) n pos) r H (.bool b) H := .mk fun A s al Q hA R L k => wpAny_Constant_bool (fin00 k R rfl)
theorem Ev.cNone {n : Nat} {pos : Pos} : Ev G d env (.Constant .none n pos) r H .none H := .mk fun A s al Q hA R L k => wpAny_Constant_none (fin00 k R rfl)

/-- an operation on two values -/
structure Opr (G : Gd) (d : Nat) (f : Value → Value → Sem Value) (a b : AV) (H : List AO) (c : AV) (H' : List AO) : Prop where
  go : ∀ (A : Around) (s : Shared) (al : List Addr) (x y : Value) (Q : Value → Shared → Prop), AOK d A → Rel G.bs al H s.heap → VR al a x → VR al b y →
    (∀ v s' ext, Rel G.bs (al ++ ext) H' s'.heap → VR (al ++ ext) c v → Step al ext s s' → Q v s') →
    wpAny (model G.prog G.w) A (f x y) Q (fun _ _ => False) s

theorem Ev.bin {l e : Expr} {op : Operator} {pos : Pos} {a b c : AV} (h1 : Ev G d env l r H a H₁) (h2 : Ev G d env e r H₁ b H₂) (h3 : Opr G d (binaryOp op) a b H₂ c H₃) : Ev G d env (.BinOp l op e pos) r H c H₃ := .mk fun A s al Q hA R L k =>
  wpAny_BinOp (h1.run hA R L fun v s₁ e₁ R₁ L₁ V₁ S₁ => h2.run hA R₁ L₁ fun u s₂ e₂ R₂ _ V₂ S₂ =>
    h3.go A s₂ _ v u Q hA R₂ V₁.mono V₂ fun z s₃ e₃ R₃ V₃ S₃ => k z s₃ (e₁ ++ (e₂ ++ e₃)) (by simpa only [List.append_assoc] using R₃) (by simpa only [List.append_assoc] using V₃) (S₁.trans (S₂.trans (by simpa only [List.append_assoc] using S₃))))

section sints
variable {x y : Int}
theorem int2 {f : Value → Value → Sem Value} {z : AV} (hf : ∀ {A : Around} {s : Shared} {t u : Tok} {Q : Value → Shared → Prop}, AOK d A → (∀ v n, VR [] z v → Q v { s with toks := n }) → wpAny (model G.prog G.w) A (f (.int x t) (.int y u)) Q (fun _ _ => False) s) :
    Opr G d f (.int x) (.int y) H z H := by
  refine .mk fun A s al a b Q hA R ha hb k => ?_
  obtain ⟨t, rfl⟩ := ha
  obtain ⟨u, rfl⟩ := hb
  exact hf hA fun v n hv => fin0 k R (by have := hv.mono (e := al); simpa using this)
theorem Opr.add : Opr G d (binaryOp .Add) (.int x) (.int y) H (.int (x + y)) H := int2 fun _ k => by
  with_reducible refine PyProof.Rows.add_int ?_
  exact k _ _ ⟨_, rfl⟩
theorem Opr.sub : Opr G d (binaryOp .Sub) (.int x) (.int y) H (.int (x - y)) H := int2 fun _ k => by
  with_reducible refine PyProof.Rows.sub_int ?_
  exact k _ _ ⟨_, rfl⟩
theorem Opr.mul (h : IntMulOk x y) : Opr G d (binaryOp .Mult) (.int x) (.int y) H (.int (x * y)) H := int2 fun _ k => by
  with_reducible refine PyProof.Rows.mul_int ?_ h
  exact k _ _ ⟨_, rfl⟩
theorem Opr.mod (h : y ≠ 0) : Opr G d (binaryOp .Mod) (.int x) (.int y) H (.int (x.fmod y)) H := int2 fun _ k => by
  with_reducible refine PyProof.Rows.mod_int' h ?_
  exact k _ _ ⟨_, rfl⟩
theorem Opr.div (h : y ≠ 0) (h2 : y.natAbs < 1073741824) : Opr G d (binaryOp .FloorDiv) (.int x) (.int y) H (.int (x.fdiv y)) H := int2 fun _ k => by
  with_reducible refine PyProof.Rows.floordiv_int h ?_ (.inl (PyProof.noPylong_small h2))
  exact k _ _ ⟨_, rfl⟩
theorem Opr.shl (h : 0 ≤ y) (h2 : (Builtin.Int.intBits x : Int) + y ≤ 2 ^ 27) : Opr G d (binaryOp .LShift) (.int x) (.int y) H (.int (x * 2 ^ y.toNat)) H := int2 fun _ k => by
  with_reducible refine PyProof.Rows.lshift_int h h2 ?_
  exact k _ _ ⟨_, rfl⟩
theorem Opr.shr (h : 0 ≤ y) : Opr G d (binaryOp .RShift) (.int x) (.int y) H (.int (x.fdiv (2 ^ y.toNat))) H := int2 fun _ k => by
  with_reducible refine PyProof.Rows.rshift_int h ?_
  exact k _ _ ⟨_, rfl⟩
theorem Opr.xor : Opr G d (binaryOp .BitXor) (.int x) (.int y) H (.int (Builtin.bitXor x y)) H := int2 fun _ k => by
  with_reducible refine PyProof.Rows.xor_int ?_
  exact k _ _ ⟨_, rfl⟩
theorem Opr.and : Opr G d (binaryOp .BitAnd) (.int x) (.int y) H (.int (Builtin.bitAnd x y)) H := int2 fun _ k => by
  with_reducible refine PyProof.Rows.and_int ?_
  exact k _ _ ⟨_, rfl⟩
theorem Opr.pow (h : 0 ≤ y) (h2 : (Builtin.Int.intBits x : Int) * y ≤ 2 ^ 27) : Opr G d (binaryOp .Pow) (.int x) (.int y) H (.int (x ^ y.toNat)) H := int2 fun _ k => by
  with_reducible refine PyProof.Rows.pow_int h h2 ?_
  exact k _ _ ⟨_, rfl⟩
theorem Opr.iadd : Opr G d (inplaceOp .Add) (.int x) (.int y) H (.int (x + y)) H := int2 fun _ k => by
  with_reducible refine PyProof.Rows.iadd_int ?_
  exact k _ _ ⟨_, rfl⟩
theorem Opr.isub : Opr G d (inplaceOp .Sub) (.int x) (.int y) H (.int (x - y)) H := int2 fun _ k => by
  with_reducible refine PyProof.Rows.isub_int ?_
  exact k _ _ ⟨_, rfl⟩
theorem Opr.imul (h : IntMulOk x y) : Opr G d (inplaceOp .Mult) (.int x) (.int y) H (.int (x * y)) H := int2 fun _ k => by
  with_reducible refine PyProof.Rows.imul_int ?_ h
  exact k _ _ ⟨_, rfl⟩
theorem Opr.eq : Opr G d (compareOp .Eq) (.int x) (.int y) H (.bool (x == y)) H := int2 fun _ k => by
  with_reducible refine PyProof.Rows.eq_int ?_
  exact k _ _ rfl
theorem Opr.ne : Opr G d (compareOp .NotEq) (.int x) (.int y) H (.bool (x != y)) H := int2 fun _ k => by
  with_reducible refine PyProof.Rows.ne_int ?_
  exact k _ _ rfl
theorem Opr.lt : Opr G d (compareOp .Lt) (.int x) (.int y) H (.bool (decide (x < y))) H := int2 fun _ k => by
  with_reducible refine PyProof.Rows.lt_int ?_
  exact k _ _ rfl
theorem Opr.le : Opr G d (compareOp .LtE) (.int x) (.int y) H (.bool (decide (x ≤ y))) H := int2 fun _ k => by
  with_reducible refine PyProof.Rows.le_int ?_
  exact k _ _ rfl
end sints

theorem Ev.neg {e : Expr} {pos : Pos} {x : Int} (h1 : Ev G d env e r H (.int x) H₁) : Ev G d env (.UnaryOp .USub e pos) r H (.int (-x)) H₁ := .mk fun A s al Q hA R L k =>
  wpAny_UnaryOp (h1.run hA R L fun v s₁ e₁ R₁ L₁ V₁ S₁ => by
    obtain ⟨t, rfl⟩ := V₁
    exact PySem.P.neg_int (k _ _ e₁ R₁ ⟨_, rfl⟩ (by have := S₁.trans (Step.toks (al := al ++ e₁) (tk := s₁.toks + 1)); simpa using this)))

theorem Ev.cmp {l e : Expr} {op : CmpOp} {pos : Pos} {a b c : AV} (h1 : Ev G d env l r H a H₁) (h2 : Ev G d env e r H₁ b H₂) (h3 : Opr G d (compareOp op) a b H₂ c H₃) (hb : behindInMarks op e = false := by rfl) : Ev G d env (.Compare l [op] [e] pos) r H c H₃ := .mk fun A s al Q hA R L k =>
  wpAny_Compare1 (h1.run hA R L fun v s₁ e₁ R₁ L₁ V₁ S₁ => h2.run hA R₁ L₁ fun u s₂ e₂ R₂ _ V₂ S₂ =>
    h3.go A s₂ _ v u Q hA R₂ V₁.mono V₂ fun z s₃ e₃ R₃ V₃ S₃ => k z s₃ (e₁ ++ (e₂ ++ e₃)) (by simpa only [List.append_assoc] using R₃) (by simpa only [List.append_assoc] using V₃) (S₁.trans (S₂.trans (by simpa only [List.append_assoc] using S₃)))) hb
end

end Mine

namespace Mine
open PySem PySem.W

theorem starEach_plain {e : Expr} {es : List Expr} {env : Env} (h : isStarred e = false) : starEach (e :: es) env = (false, eval e env) :: starEach es env := by
  cases e <;> first | rfl | cases h
theorem starEach_all {env : Env} : ∀ {es : List Expr}, (es.all fun e => !isStarred e) = true → (starEach es env).all (fun x => !x.1) = true
  | [], _ => rfl
  | e :: es, h => by
    simp only [List.all_cons, Bool.and_eq_true] at h
    rw [starEach_plain (by simpa using h.1)]
    simp only [List.all_cons, Bool.not_false, Bool.true_and]
    exact starEach_all h.2
theorem backTo_cons {pos : Pos} {t : Sem Value} {rest : List (Bool × Sem Value)} : backTo pos ((false, t) :: rest) = (false, t) :: backTo pos rest := rfl
theorem backTo_all {pos : Pos} : ∀ {l : List (Bool × Sem Value)}, l.all (fun x => !x.1) = true → (backTo pos l).all (fun x => !x.1) = true
  | [], _ => rfl
  | (b, t) :: l, h => by
    simp only [List.all_cons, Bool.and_eq_true] at h
    have := backTo_all (pos := pos) h.2
    simp only [backTo, List.map_cons, List.all_cons, Bool.and_eq_true] at this ⊢
    exact ⟨h.1, this⟩
theorem any_of_all {α : Type} {l : List (Bool × α)} (h : l.all (fun x => !x.1) = true) : l.any (·.1) = false := by
  induction l with
  | nil => rfl
  | cons x l ih =>
    simp only [List.all_cons, Bool.and_eq_true, Bool.not_eq_true'] at h
    simp only [List.any_cons, h.1, ih h.2, Bool.or_false]

theorem evalArgs_all {M : Model} {A : Around} {E : Value → Shared → Prop} {s : Shared} {f : Value} {args : List (Bool × Sem Value)} {Q : Args → Shared → Prop} (h : args.all (fun x => !x.1) = true)
    (k : wpAny M A (spliced args) (fun vs s' => Q ⟨vs, []⟩ s') E s) : wpAny M A (evalArgs f true args []) Q E s := by
  cases args with
  | nil =>
    unfold evalArgs
    show wpAny M A (spliced [] >>= _) Q E s
    refine wpAny_bind (wpAny_mono k (fun vs s' h' => ?_) fun _ _ x => x)
    refine wpAny_bind (wpAny_pure ?_)
    refine wpAny_holding ?_
    exact wpAny_bind (wpAny_pure (wpAny_bind (wpAny_pure (wpAny_pure h'))))
  | cons x l =>
    obtain ⟨b, t⟩ := x
    have hb : b = false := by
      simp only [List.all_cons, Bool.and_eq_true, Bool.not_eq_true'] at h
      exact h.1
    subst hb
    exact Calls.evalArgs_plain k

section
variable {G : Gd} {d : Nat} {env : Env} {r r' r₁ : LV} {H H' H₁ H₂ H₃ : List AO}

theorem Evs.nil : Evs G d env [] r H [] H := .mk fun A s al pos Q hA R L k =>
  Calls.spliced_nil (k _ _ [] (by rw [List.append_nil]; exact R) .nil Step.refl)
theorem Evs.cons {e : Expr} {es : List Expr} {a : AV} {as : List AV} (h1 : Ev G d env e r H a H₁) (h2 : Evs G d env es r H₁ as H₂) (hs : isStarred e = false := by rfl) : Evs G d env (e :: es) r H (a :: as) H₂ := .mk fun A s al pos Q hA R L k => by
  rw [starEach_plain hs, backTo_cons]
  exact Calls.spliced_cons (h1.run hA R L fun v s₁ e₁ R₁ L₁ V₁ S₁ => h2.run hA R₁ L₁ fun vs s₂ e₂ R₂ _ V₂ S₂ =>
    k _ s₂ (e₁ ++ e₂) (by simpa only [List.append_assoc] using R₂) (.cons (by simpa only [List.append_assoc] using V₁.mono (e := e₂)) (by simpa only [List.append_assoc] using V₂)) (S₁.trans S₂))

theorem Ev.list {es : List Expr} {pos : Pos} {as : List AV} (h : Evs G d env es r H as H₁) (hz : as.length ≤ 1000000) : Ev G d env (.List es pos) r H (.ref H₁.length) (H₁ ++ [.list as]) := .mk fun A s al Q hA R L k =>
  wpAny_List_spliced (h.run hA R L fun vs s₁ e₁ R₁ L₁ V₁ S₁ => ⟨by rw [← V₁.length]; exact Nat.le_trans hz (by decide),
    finP (x := .list as) (n := s₁.toks) (fun v s₂ e₂ R₂ V₂ S₂ => k v s₂ (e₁ ++ e₂) (by simpa only [List.append_assoc] using R₂) (by simpa only [List.append_assoc] using V₂) (S₁.trans S₂)) R₁ rfl (by exact ⟨vs.toArray, 0, rfl, by simpa using V₁⟩)⟩)
theorem Ev.tup {es : List Expr} {n : Nat} {pos : Pos} {as : List AV} (h : Evs G d env es r H as H₁) (hz : as.length ≤ 1000000) : Ev G d env (.Tuple es n pos) r H (.ref H₁.length) (H₁ ++ [.tup as]) := .mk fun A s al Q hA R L k =>
  wpAny_Tuple_spliced (h.run hA R L fun vs s₁ e₁ R₁ L₁ V₁ S₁ => ⟨by rw [← V₁.length]; exact Nat.le_trans hz (by decide),
    finP (x := .tup as) (n := s₁.toks) (fun v s₂ e₂ R₂ V₂ S₂ => k v s₂ (e₁ ++ e₂) (by simpa only [List.append_assoc] using R₂) (by simpa only [List.append_assoc] using V₂) (S₁.trans S₂)) R₁ rfl (by exact ⟨vs.toArray, 0, rfl, by simpa using V₁⟩)⟩)
end

/-! ## lists and tuples at a place -/
section
variable {G : Gd} {d : Nat} {env : Env} {r r' r₁ : LV} {H H' H₁ H₂ H₃ : List AO}

theorem Rel.isList {h₀ : Base} {h : Heap} {al : List Addr} (R : Rel h₀ al H h) {i : Nat} {xs : List AV} (hx : H[i]? = some (.list xs)) {v : Value} (hv : VR al (.ref i) v) :
    ∃ a vs n, v = .ref a ∧ al[i]? = some a ∧ a ∈ al ∧ h.get? a = some (listOf vs n) ∧ h.IsList a vs ∧ VRs al xs vs.toList ∧ vs.size = xs.length := by
  obtain ⟨a, hi, rfl⟩ := hv
  obtain ⟨o, ho, vs, n, rfl, q⟩ := R.obj i a _ hi hx
  exact ⟨a, vs, n, rfl, hi, List.mem_of_getElem? hi, ho, ⟨_, ho, rfl, n, rfl⟩, q, by have := q.length; simpa using this.symm⟩
theorem Rel.isTup {h₀ : Base} {h : Heap} {al : List Addr} (R : Rel h₀ al H h) {i : Nat} {xs : List AV} (hx : H[i]? = some (.tup xs)) {v : Value} (hv : VR al (.ref i) v) :
    ∃ a vs n, v = .ref a ∧ al[i]? = some a ∧ a ∈ al ∧ h.get? a = some (tupOf vs n) ∧ h.IsTuple a vs ∧ VRs al xs vs.toList ∧ vs.size = xs.length := by
  obtain ⟨a, hi, rfl⟩ := hv
  obtain ⟨o, ho, vs, n, rfl, q⟩ := R.obj i a _ hi hx
  exact ⟨a, vs, n, rfl, hi, List.mem_of_getElem? hi, ho, ⟨_, ho, rfl, n, rfl⟩, q, by have := q.length; simpa using this.symm⟩

/-- what stands behind a subscript: the item's look -/
structure Sub (G : Gd) (d : Nat) (a b : AV) (H : List AO) (c : AV) (H' : List AO) : Prop where
  go : ∀ (A : Around) (s : Shared) (al : List Addr) (x y : Value) (Q : Value → Shared → Prop), AOK d A → Rel G.bs al H s.heap → VR al a x → VR al b y →
    (∃ T id, s.TypeIs x T ∧ typeLookup (.type T) "__getitem__" = pure (some (.builtin id))) ∧
    ((∀ v s' ext, Rel G.bs (al ++ ext) H' s'.heap → VR (al ++ ext) c v → Step al ext s s' → Q v s') →
      wpAny (model G.prog G.w) A (getItem x y) Q (fun _ _ => False) s)
def isSlice : Expr → Bool
  | .Slice .. => true
  | _ => false
theorem Ev.sub {l e : Expr} {pos : Pos} {a b c : AV} (h1 : Ev G d env l r H a H₁) (h2 : Ev G d env e r H₁ b H₂) (h3 : Sub G d a b H₂ c H₃) (hs : isSlice e = false := by rfl) : Ev G d env (.Subscript l e pos) r H c H₃ := .mk fun A s al Q hA R L k => by
  refine PyProof.Rows.Subscript_ (h1.run hA R L fun v s₁ e₁ R₁ L₁ V₁ S₁ => h2.run hA R₁ L₁ fun u s₂ e₂ R₂ _ V₂ S₂ => ?_)
  obtain ⟨⟨T, id, hT, hl⟩, go⟩ := h3.go A s₂ _ v u Q hA R₂ V₁.mono V₂
  refine PyProof.Rows.tail_any (T := T) (id := id) (ops := [v, u]) hT hl (go fun z s₃ e₃ R₃ V₃ S₃ => k z s₃ (e₁ ++ (e₂ ++ e₃)) (by simpa only [List.append_assoc] using R₃) (by simpa only [List.append_assoc] using V₃) (S₁.trans (S₂.trans (by simpa only [List.append_assoc] using S₃)))) ?_
  cases e <;> first | rfl | cases hs
theorem Sub.list {i : Nat} {xs : List AV} {k : Int} {c : AV} (hx : H[i]? = some (.list xs)) (h0 : 0 ≤ k) (hk : xs[k.toNat]? = some c) (hz : k < 2 ^ 63) : Sub G d (.ref i) (.int k) H c H := .mk fun A s al x y Q hA R hv hw => by
  obtain ⟨a, vs, n, rfl, hi, hm, ho, hl, q, hlen⟩ := R.isList hx hv
  obtain ⟨t, rfl⟩ := hw
  obtain ⟨v, hv, qv⟩ := paired_get q hk
  exact ⟨⟨"list", _, hl.typeIs, slot_list_getitem.lookup⟩, fun k => wpAny_getItem_list hl h0 hz (by simpa using hv) (fin00 k R qv)⟩
theorem Sub.listNeg {i : Nat} {xs : List AV} {k : Int} {c : AV} (hx : H[i]? = some (.list xs)) (h0 : k < 0) (h1 : -(xs.length : Int) ≤ k) (hk : xs[(k + (xs.length : Int)).toNat]? = some c) (hz : -2 ^ 63 ≤ k) : Sub G d (.ref i) (.int k) H c H := .mk fun A s al x y Q hA R hv hw => by
  obtain ⟨a, vs, n, rfl, hi, hm, ho, hl, q, hlen⟩ := R.isList hx hv
  obtain ⟨t, rfl⟩ := hw
  obtain ⟨v, hv, qv⟩ := paired_get q hk
  exact ⟨⟨"list", _, hl.typeIs, slot_list_getitem.lookup⟩, fun k => wpAny_getItem_list_neg hl h0 (by rw [hlen]; exact h1) hz (by rw [hlen]; simpa using hv) (fin00 k R qv)⟩
theorem Sub.str {x : Str} {k : Int} {c : Nat} (h : (decide (k < -(2 ^ 63 : Int)) || decide (k ≥ 2 ^ 63)) = false) (hc : (seqIndex? k x.length).bind (x.cps[·]?) = some c) : Sub G d (.str x) (.int k) H (.str ⟨#[c]⟩) H := .mk fun A s al x y Q hA R hv hw => by
  obtain ⟨t, rfl⟩ := hv
  obtain ⟨u, rfl⟩ := hw
  refine ⟨⟨"str", _, typeIs_str _ _ _, F.slot_str_getitem.lookup⟩, fun k => ?_⟩
  with_reducible refine P.getItem_str h hc ?_
  exact fin0 k R ⟨_, rfl⟩

end

end Mine

namespace Mine
open PySem PySem.W

/-- what may be called so that no name of it is let go behind the call -/
def Cal (G : Gd) (f : AV) (H : List AO) : Prop :=
  ∀ (al : List Addr) (fv : Value) (h : Heap), Rel G.bs al H h → VR al f fv → ∃ k, (k = Keeper.frame ∨ k = Keeper.machine ∨ k = Keeper.boundFrame) ∧ Looks (model G.prog G.w) h (keeperOf fv) k

section
variable {G : Gd} {d : Nat} {env : Env} {r r' r₁ : LV} {H H' H₁ H₂ H₃ : List AO}

theorem Cal.bltin {id : String} : Cal G (.ext (.builtin id)) H := fun al fv h R hv => by
  cases hv
  exact ⟨.machine, .inr (.inl rfl), Looks.of_pure rfl⟩
theorem Cal.type {T : String} : Cal G (.ext (.type T)) H := fun al fv h R hv => by
  cases hv
  exact ⟨.machine, .inr (.inl rfl), Looks.of_pure rfl⟩
theorem looks_func {M : Model} {h : Heap} {a : Addr} {o : Obj} {fd : FuncData} (ho : h.get? a = some o) (hd : o.data = .func fd) : Looks M h (keeperOf (.ref a)) .frame := fun A Q E s k q => by
  unfold keeperOf
  refine wpAny_bind (wpAny_load (k _ _ ho) ?_)
  rw [hd]
  exact wpAny_pure q
theorem Cal.fn {a : Addr} {o : Obj} {fd : FuncData} (ho : G.h₀.get? a = some o) (hd : o.data = .func fd) : Cal G (.ext (.ref a)) H := fun al fv h R hv => by
  cases hv
  exact ⟨.frame, .inl rfl, looks_func (R.base _ _ ho) hd⟩

theorem Ev.callR {f : Expr} {args : List Expr} {pos : Pos} {fv a : AV} {as : List AV} (h1 : Ev G d env f r H fv H₁) (h2 : Evs G d env args r H₁ as H₂) (hc : Cal G fv H₂) (h3 : CallT G d fv as H₂ a H₃)
    (hs : (args.all fun e => !isStarred e) = true) (hf : eval (.Call f args [] pos) env = (eval f env >>= fun fv => callWith pos fv [] (backTo pos (starEach args env)) (backToKw pos (keywordEach [] env)))) : Ev G d env (.Call f args [] pos) r H a H₃ := .mk fun A s al Q hA R L k => by
  rw [hf]
  refine wpAny_bind (h1.run hA R L fun v s₁ e₁ R₁ L₁ V₁ S₁ => ?_)
  have hall := backTo_all (pos := pos) (starEach_all (env := env) hs)
  refine callWith_of (P := fun h => ∃ k, (k = Keeper.frame ∨ k = Keeper.machine ∨ k = Keeper.boundFrame) ∧ Looks (model G.prog G.w) h (keeperOf v) k) (by rw [any_of_all hall]; rfl) (fun _ h => h) ?_
  refine evalArgs_all hall (h2.run hA R₁ L₁ fun vs s₂ e₂ R₂ _ V₂ S₂ => ⟨hc _ _ _ R₂ V₁.mono, ?_⟩)
  exact h3.go A s₂ _ v vs Q hA R₂ V₁.mono V₂ fun z s₃ e₃ R₃ V₃ S₃ => k z s₃ (e₁ ++ (e₂ ++ e₃)) (by simpa only [List.append_assoc] using R₃) (by simpa only [List.append_assoc] using V₃) (S₁.trans (S₂.trans (by simpa only [List.append_assoc] using S₃)))
theorem Ev.call {x : Str} {px pos : Pos} {args : List Expr} {fv a : AV} {as : List AV} (h1 : Ev G d env (.Name x px) r H fv H₁) (h2 : Evs G d env args r H₁ as H₂) (hc : Cal G fv H₂) (h3 : CallT G d fv as H₂ a H₃)
    (hs : (args.all fun e => !isStarred e) = true := by rfl) : Ev G d env (.Call (.Name x px) args [] pos) r H a H₃ := Ev.callR h1 h2 hc h3 hs rfl

structure MethOK (T : String) (name : Str) (id : String) : Prop where
  plain : PlainAttrs T
  slot : Slot T name id
  type : typeOf (.builtin id) = pure (.type "method_descriptor")

def IsT (G : Gd) (a : AV) (H : List AO) (T : String) : Prop :=
  ∀ (al : List Addr) (v : Value) (s : Shared), Rel G.bs al H s.heap → VR al a v → s.TypeIs v T ∧ ∀ b, v = .ref b → ∃ o, s.heap.get? b = some o ∧ o.dict = none
theorem IsT.list {i : Nat} {xs : List AV} (hx : H[i]? = some (.list xs)) : IsT G (.ref i) H "list" := fun al v s R hv => by
  obtain ⟨a, vs, n, rfl, hi, hm, ho, hl, q, hlen⟩ := R.isList hx hv
  exact ⟨hl.typeIs, fun b e => by cases e; exact ⟨_, ho, rfl⟩⟩
theorem IsT.str {x : Str} : IsT G (.str x) H "str" := fun al v s R hv => by
  obtain ⟨t, rfl⟩ := hv
  exact ⟨typeIs_str _ _ _, fun b e => by cases e⟩
theorem IsT.int {x : Int} : IsT G (.int x) H "int" := fun al v s R hv => by
  obtain ⟨t, rfl⟩ := hv
  exact ⟨typeIs_int _ _ _, fun b e => by cases e⟩

/-- a method of a built-in type, called -/
theorem Ev.meth {o : Expr} {name : Str} {apos pos : Pos} {args : List Expr} {T id : String} {a c : AV} {as : List AV} (h1 : Ev G d env o r H a H₁) (hT : IsT G a H₁ T) (hm : MethOK T name id) (h2 : Evs G d env args r H₁ as H₂)
    (h3 : CallT G d (.ext (.builtin id)) (a :: as) H₂ c H₃)
    (hs : (args.all fun e => !isStarred e) = true := by rfl) (hn : args.length < 30 := by decide) (hp : (apos.endLine == pos.line) = true := by rfl)
    (hb : attributeBase o name env (eval o env) = eval o env := by rfl) : Ev G d env (.Call (.Attribute o name apos) args [] pos) r H c H₃ := .mk fun A s al Q hA R L k => by
  have hall := backTo_all (pos := pos) (starEach_all (env := env) hs)
  refine wpAny_Call_method (T := T) (id := id) hb ?_ hp hm.plain hm.slot hm.type (h1.run hA R L fun v s₁ e₁ R₁ L₁ V₁ S₁ => ?_)
  · rw [hall]
    show (true && true && decide (args.length + 0 + 0 < 30)) = true
    simp only [Nat.add_zero, Bool.true_and, decide_eq_true_eq]; exact hn
  · obtain ⟨q1, q2⟩ := hT _ _ _ R₁ V₁
    refine ⟨q1, q2, ?_⟩
    refine Calls.callWith_builtin (any_of_all hall) ?_
    refine evalArgs_all hall (h2.run hA R₁ L₁ fun vs s₂ e₂ R₂ _ V₂ S₂ => ?_)
    exact h3.go A s₂ _ _ (v :: vs) Q hA R₂ rfl (.cons V₁.mono V₂) fun z s₃ e₃ R₃ V₃ S₃ => k z s₃ (e₁ ++ (e₂ ++ e₃)) (by simpa only [List.append_assoc] using R₃) (by simpa only [List.append_assoc] using V₃) (S₁.trans (S₂.trans (by simpa only [List.append_assoc] using S₃)))
end
end Mine

namespace Mine
open PySem PySem.W

theorem meth_append : MethOK "list" "append" "list.append" := ⟨F.plainAttrs_list, F.slot_list_append, F.type_list_append⟩
theorem meth_pop : MethOK "list" "pop" "list.pop" := ⟨F.plainAttrs_list, F.slot_list_pop, F.type_list_pop⟩
theorem meth_reverse : MethOK "list" "reverse" "list.reverse" := ⟨F.plainAttrs_list, F.slot_list_reverse, F.type_list_reverse⟩
theorem meth_count : MethOK "str" "count" "str.count" := ⟨F.plainAttrs_str, F.slot_str_count, F.type_str_count⟩
theorem meth_join : MethOK "str" "join" "str.join" := ⟨F.plainAttrs_str, F.slot_str_join, F.type_str_join⟩
theorem meth_bitlen : MethOK "int" "bit_length" "int.bit_length" := ⟨F.plainAttrs_int, F.slot_int_bit_length, F.type_int_bit_length⟩

section
variable {G : Gd} {d : Nat} {env : Env} {r r' r₁ : LV} {H H' H₁ H₂ H₃ : List AO}

theorem vrs1 {al : List Addr} {a : AV} {vs : List Value} (h : VRs al [a] vs) : ∃ v, vs = [v] ∧ VR al a v := by
  cases h with | cons h t => cases t; exact ⟨_, rfl, h⟩
theorem vrs2 {al : List Addr} {a b : AV} {vs : List Value} (h : VRs al [a, b] vs) : ∃ v u, vs = [v, u] ∧ VR al a v ∧ VR al b u := by
  cases h with | cons h t => obtain ⟨u, rfl, q⟩ := vrs1 t; exact ⟨_, u, rfl, h, q⟩
theorem vrs3 {al : List Addr} {a b c : AV} {vs : List Value} (h : VRs al [a, b, c] vs) : ∃ v u w, vs = [v, u, w] ∧ VR al a v ∧ VR al b u ∧ VR al c w := by
  cases h with | cons h t => obtain ⟨u, w, rfl, q⟩ := vrs2 t; exact ⟨_, u, w, rfl, h, q⟩

/-- an object of the abstract heap is turned -/
theorem finU {al : List Addr} {s : Shared} {Q : Value → Shared → Prop} {c : AV} {i : Nat} {x : AO} {a : Addr} {o : Obj} {f : Obj → Obj} {n : Nat} {v : Value}
    (k : ∀ v s' ext, Rel G.bs (al ++ ext) (H.set i x) s'.heap → VR (al ++ ext) c v → Step al ext s s' → Q v s') (R : Rel G.bs al H s.heap) (hi : al[i]? = some a) (ho : s.heap.get? a = some o) (hf : (f o).isFreed = false) (q : OR al (f o) x) (hv : VR al c v) :
    Q v { s with heap := s.heap.update a f, toks := n } :=
  k _ _ [] (by
    rw [List.append_nil]
    exact R.update hi (fun b o' hb e => (Heap.get?_update_other _ _ (Ne.symm hb)).trans e) (Heap.get?_update_self _ ho hf) q) (by rw [List.append_nil]; exact hv) (Step.same (Heap.SameBut.update ..) (Heap.get?_update_self _ ho hf) (List.mem_of_getElem? hi))

theorem CallT.len {i : Nat} {xs : List AV} (hx : H[i]? = some (.list xs)) (hz : xs.length < 2 ^ 62) : CallT G d (.ext (.builtin "len")) [.ref i] H (.int (xs.length : Nat)) H := .mk fun A s al fv vs Q hA R hf hvs k => by
  cases hf
  obtain ⟨v, rfl, hv⟩ := vrs1 hvs
  obtain ⟨a, vs, n, rfl, hi, hm, ho, hl, q, hlen⟩ := R.isList hx hv
  with_reducible refine Calls.call_len_list hl ?_ ?_
  · (first | lia | omega)
  · exact fin0 k R ⟨_, by rw [hlen]⟩

theorem CallT.append {i : Nat} {xs : List AV} {y : AV} (hx : H[i]? = some (.list xs)) (hz : xs.length ≤ 1000000) : CallT G d (.ext (.builtin "list.append")) [.ref i, y] H .none (H.set i (.list (xs ++ [y]))) := .mk fun A s al fv vs Q hA R hf hvs k => by
  cases hf
  obtain ⟨v, u, rfl, hv, hu⟩ := vrs2 hvs
  obtain ⟨a, vs, n, rfl, hi, hm, ho, hl, q, hlen⟩ := R.isList hx hv
  refine call_meets F.slot_list_append ⟨_, ho, rfl⟩ F.entry_list_append (F.args_list_append_2 _ _) (list_append a vs n u (by rw [hlen]; exact Nat.le_trans hz (by decide))) ⟨ho, ?_⟩
  exact finU k R hi ho rfl (by exact ⟨_, _, rfl, by simpa using paired_app q (.cons hu .nil)⟩) rfl

theorem CallT.pop {i : Nat} {xs : List AV} {y : AV} (hx : H[i]? = some (.list (xs ++ [y]))) (hz : xs.length ≤ 1000000) : CallT G d (.ext (.builtin "list.pop")) [.ref i] H y (H.set i (.list xs)) := .mk fun A s al fv vs Q hA R hf hvs k => by
  cases hf
  obtain ⟨v, rfl, hv⟩ := vrs1 hvs
  obtain ⟨a, vs, n, rfl, hi, hm, ho, hl, q, hlen⟩ := R.isList hx hv
  rw [List.length_append, List.length_singleton] at hlen
  obtain ⟨u, hu, qu⟩ := paired_get q (i := xs.length) (a := y) (by simp)
  refine call_meets F.slot_list_pop ⟨_, ho, rfl⟩ F.entry_list_pop (F.args_list_pop_1 _) (MeetsSeq.list_pop_last a vs n u (by rw [hlen]; simpa using hu) (by rw [hlen]; exact Nat.le_trans (Nat.succ_le_succ hz) (by decide))) ⟨ho, ?_⟩
  refine finU k R hi ho rfl (by
    refine ⟨_, _, rfl, ?_⟩
    have := paired_take xs.length q
    rw [List.take_left] at this
    have e : (vs.eraseIdxIfInBounds (vs.size - 1)).toList = vs.toList.take xs.length := by
      rw [hlen]
      simp only [Nat.add_sub_cancel, Array.toList_eraseIdxIfInBounds]
      have h2 : vs.toList.length = xs.length + 1 := by simpa using hlen
      rw [List.eraseIdx_eq_take_drop_succ]
      rw [List.drop_eq_nil_of_le (by (first | lia | omega)), List.append_nil]
    rw [e]; exact this) qu

theorem CallT.reverse {i : Nat} {xs : List AV} (hx : H[i]? = some (.list xs)) (hz : xs.length ≤ 1000000) : CallT G d (.ext (.builtin "list.reverse")) [.ref i] H .none (H.set i (.list xs.reverse)) := .mk fun A s al fv vs Q hA R hf hvs k => by
  cases hf
  obtain ⟨v, rfl, hv⟩ := vrs1 hvs
  obtain ⟨a, vs, n, rfl, hi, hm, ho, hl, q, hlen⟩ := R.isList hx hv
  refine call_meets F.slot_list_reverse ⟨_, ho, rfl⟩ F.entry_list_reverse (F.args_list_reverse_1 _) (AutoSeq1.list_reverse_list_0 a vs n (by rw [hlen]; exact Nat.le_trans hz (by decide))) ⟨ho, ?_⟩
  refine finU k R hi ho rfl (by
    refine ⟨_, _, rfl, ?_⟩
    simp only [Array.toList_reverse]
    have rev : ∀ {l : List AV} {k : List Value}, VRs al l k → VRs al l.reverse k.reverse := by
      intro l k h
      induction h with
      | nil => exact .nil
      | cons h _ ih => simpa using paired_app ih (.cons h .nil)
    exact rev q) rfl

theorem CallT.count {x y : Str} : CallT G d (.ext (.builtin "str.count")) [.str x, .str y] H (.int (Txt.count x y)) H := .mk fun A s al fv vs Q hA R hf hvs k => by
  cases hf
  obtain ⟨v, u, rfl, ⟨t, rfl⟩, ⟨t', rfl⟩⟩ := vrs2 hvs
  with_reducible refine SC.count ?_
  exact fin0 k R ⟨_, rfl⟩

theorem CallT.bitlen {x : Int} : CallT G d (.ext (.builtin "int.bit_length")) [.int x] H (.int (Builtin.Int.intBits x : Nat)) H := .mk fun A s al fv vs Q hA R hf hvs k => by
  cases hf
  obtain ⟨v, rfl, ⟨t, rfl⟩⟩ := vrs1 hvs
  with_reducible refine PyProof.Rows.call_int_bit_length ?_
  exact fin0 k R ⟨_, rfl⟩

theorem CallT.divmod {x y : Int} (hy : y ≠ 0) (h2 : y.natAbs < 1073741824) : CallT G d (.ext (.builtin "divmod")) [.int x, .int y] H (.ref H.length) (H ++ [.tup [.int (x.fdiv y), .int (x.fmod y)]]) := .mk fun A s al fv vs Q hA R hf hvs k => by
  cases hf
  obtain ⟨v, u, rfl, ⟨t, rfl⟩, ⟨t', rfl⟩⟩ := vrs2 hvs
  with_reducible refine PyProof.Rows.divmod_int hy ?_ (.inl (PyProof.noPylong_small h2))
  exact finP k R rfl (by exact ⟨_, 0, rfl, .cons ⟨_, rfl⟩ (.cons ⟨_, rfl⟩ .nil)⟩)

/-! ## lists: +, * -/
theorem Opr.addL {i j : Nat} {xs ys : List AV} (hx : H[i]? = some (.list xs)) (hy : H[j]? = some (.list ys)) (hz : xs.length + ys.length ≤ 1000000) : Opr G d (binaryOp .Add) (.ref i) (.ref j) H (.ref H.length) (H ++ [.list (xs ++ ys)]) := .mk fun A s al x y Q hA R hu hv k => by
  obtain ⟨a, vs, n, rfl, hi, hm, ho, hl, q, hlen⟩ := R.isList hx hu
  obtain ⟨b, us, m, rfl, hj, hm', ho', hl', q', hlen'⟩ := R.isList hy hv
  with_reducible refine P.add_list (n := n) (n2 := m) ho ho' ?_ ?_
  · exact finP k R rfl (by exact ⟨_, 0, rfl, by simpa using paired_app q q'⟩)
  · rw [hlen, hlen']; exact Nat.le_trans hz (by decide)
theorem foldl_arr (vs : Array Value) : ∀ (n : Nat) (acc : Array Value), (List.foldl (fun x1 x2 => x1 ++ x2) acc (List.replicate n vs)).toList = acc.toList ++ (List.replicate n vs.toList).flatten
  | 0, acc => by simp
  | n + 1, acc => by simp [List.replicate_succ, foldl_arr vs n]
theorem paired_rep {al : List Addr} {xs : List AV} {vs : List Value} (h : VRs al xs vs) : ∀ n, VRs al (List.replicate n xs).flatten (List.replicate n vs).flatten
  | 0 => .nil
  | n + 1 => by simpa [List.replicate_succ] using paired_app h (paired_rep h n)
theorem Opr.mulL {i : Nat} {xs : List AV} {x : Int} (hx : H[i]? = some (.list xs)) (hlo : 0 ≤ x) (hhi : x < 2 ^ 40) (hz : xs.length * x.toNat ≤ 1000000) : Opr G d (binaryOp .Mult) (.ref i) (.int x) H (.ref H.length) (H ++ [.list (List.replicate x.toNat xs).flatten]) := .mk fun A s al p y Q hA R hu hv k => by
  obtain ⟨l, vs, n, rfl, hi, hm, ho, hl, q, hlen⟩ := R.isList hx hu
  obtain ⟨u, rfl⟩ := hv
  have hsz : vs.size * x.toNat ≤ 2 ^ 24 := by rw [hlen]; exact Nat.le_trans hz (by decide)
  refine wpAny_binaryOp_repeat_ref (T := "list") (U := "int") (by decide) ⟨_, ho, rfl⟩ (fun s' => typeIs_int s' x u) noFill_list_mul F.fills_int_mul F.slot_int_rmul repeat_list F.slot_int_index.lookup
    (call_meets F.slot_int_rmul (typeIs_int s x u) F.entry_int_rmul (F.args_int_rmul_2 _ _) (int___rmul___int_list x u l vs n)
      ⟨ho, rfl, ⟨_, ho, rfl⟩, call_meets F.slot_list_mul ⟨_, ho, rfl⟩ F.entry_list_mul (F.args_list_mul_2 _ _)
        (AutoListH.list___mul___list_int_3 l vs n x u (by simp [Builtin.List.listFitsIndex]; (first | lia | omega)) (by (first | lia | omega)) (by simp [Builtin.List.listTooLong, sizeLine]; (first | lia | omega)))
        ⟨ho, ?_⟩⟩)
  refine finP k R rfl (by
    refine ⟨_, 0, rfl, ?_⟩
    rw [foldl_arr]
    simp only [List.nil_append]
    by_cases he : vs.isEmpty = true
    · have : vs.toList = [] := by simpa using he
      rw [this] at q
      have hx0 : xs = [] := by cases q; rfl
      rw [if_pos he, hx0]
      simpa using Paired.nil
    · rw [if_neg he]
      exact paired_rep q _)
end
end Mine

namespace Mine
open PySem PySem.W

section
variable {G : Gd} {d : Nat} {env : Env} {r r' r₁ r₂ : LV} {H H' H₁ H₂ H₃ H₄ : List AO}

theorem EnvOK.plain (hE : EnvOK G env) : (env.scope.kind == .class || (env.scope.kind == .module && env.locals != env.globals)) = false := by rw [hE.kind]; rfl

theorem Rel.local {h₀ : Base} {h h' : Heap} {al : List Addr} {L : Addr} (R : Rel h₀ al H h) (hL : L ∉ al) (h0 : h₀.get? L = none) (hs : Heap.SameBut L h h') : Rel h₀ al H h' where
  base b o e := (hs.2 b (fun hb => by subst hb; rw [h0] at e; cases e)).trans (R.base b o e)
  pre := R.pre
  apart := R.apart
  nodup := R.nodup
  len := R.len
  obj i a x e1 e2 := by
    obtain ⟨o, ho, q⟩ := R.obj i a x e1 e2
    exact ⟨o, (hs.2 a (fun hb => by subst hb; exact hL (List.mem_of_getElem? e1))).trans ho, q⟩

theorem wp_store {A : Around} {s : Shared} {al : List Addr} {x : Str} {a : AV} {v : Value} {Q : Unit → Shared → Prop} {E : Value → Shared → Prop} (hE : EnvOK G env) (L : LR env al r s.heap) (P : Put x a r r') (hv : VR al a v)
    (k : ∀ h', LR env al r' h' → Heap.SameBut env.locals s.heap h' → Q () { s with heap := h', toks := s.toks + 1 }) : wpAny (model G.prog G.w) A (storeName env x v) Q E s := by
  obtain ⟨m, hn, hvals⟩ := L.vals
  obtain ⟨hx, hm⟩ := P.mem L.nodup
  obtain ⟨p, hp, rfl⟩ := List.mem_map.mp hx
  rw [storeName_local (L.kind _ hp) hE.plain]
  refine wpAny_nsSet hn fun h' hn' hs => k h' ⟨by rw [P.names]; exact L.nodup, fun q hq => ?_, fun q hq => ?_, L.off, _, hn', fun q hq hu => ?_⟩ hs
  · rcases hm q hq with ⟨e, _⟩ | ⟨_, hq⟩
    · rw [e]; exact L.kind _ hp
    · exact L.kind _ hq
  · rcases hm q hq with ⟨e, _⟩ | ⟨_, hq⟩
    · rw [e]; exact L.nodbg _ hp
    · exact L.nodbg _ hq
  · rcases hm q hq with ⟨e, e'⟩ | ⟨hne, hq⟩
    · exact ⟨v, by rw [if_pos e], by rw [e']; exact hv⟩
    · obtain ⟨u, hu', qu⟩ := hvals q hq hu
      exact ⟨u, by rw [if_neg hne]; exact hu', qu⟩

theorem StepL.local {L : Addr} {al : List Addr} {s : Shared} {h' : Heap} {n : Nat} (hs : Heap.SameBut L s.heap h') (hl : (h'.get? L).isSome = true) : StepL L al [] s { s with heap := h', toks := n } :=
  ⟨fun b o _ hb e => (hs.2 b hb).trans e, (fun b e => by
    by_cases hb : b = L
    · subst hb; exact hl
    · show (h'.get? b).isSome = true; rw [hs.2 b hb]; exact e), (fun a ha => by cases ha), rfl, rfl⟩
theorem LR.some {al : List Addr} {h : Heap} (L : LR env al r h) : (h.get? env.locals).isSome = true := by
  obtain ⟨m, ⟨o, es, ep, ho, _⟩, _⟩ := L.vals
  rw [ho]; rfl

theorem Ex.nil : Ex G d env [] r H .next r H := .mk fun A s al Q hA R L k =>
  wpAny_execs_nil (k _ _ [] (by rw [List.append_nil]; exact R) (by rw [List.append_nil]; exact L) rfl StepL.refl)
theorem Ex.cons {st : Stmt} {ss : List Stmt} {f : AF} (h1 : Ex1 G d env st r H .next r₁ H₁) (h2 : Ex G d env ss r₁ H₁ f r₂ H₂) : Ex G d env (st :: ss) r H f r₂ H₂ := .mk fun A s al Q hA R L k =>
  wpAny_execs_cons (h1.go A s al _ hA R L fun fl s₁ e₁ R₁ L₁ F₁ S₁ => by
    cases F₁
    exact h2.go A s₁ _ _ hA R₁ L₁ fun fl s₂ e₂ R₂ L₂ F₂ S₂ => k fl s₂ (e₁ ++ e₂) (by simpa only [List.append_assoc] using R₂) (by simpa only [List.append_assoc] using L₂) (by simpa only [List.append_assoc] using F₂) (S₁.trans S₂))
theorem Ex.stop {st : Stmt} {ss : List Stmt} {f : AF} (h1 : Ex1 G d env st r H f r₁ H₁) (hf : f ≠ .next) : Ex G d env (st :: ss) r H f r₁ H₁ := .mk fun A s al Q hA R L k =>
  wpAny_execs_cons (h1.go A s al _ hA R L fun fl s₁ e₁ R₁ L₁ F₁ S₁ => by
    have : fl ≠ .next := by
      rintro rfl
      cases f with
      | next => exact hf rfl
      | brk => cases F₁
      | cont => cases F₁
      | ret a => obtain ⟨v, e, _⟩ := F₁; cases e
    have q := k fl s₁ e₁ R₁ L₁ F₁ S₁
    cases fl <;> first | exact absurd rfl this | exact q)
theorem Ex.one {st : Stmt} {f : AF} (h1 : Ex1 G d env st r H f r₁ H₁) : Ex G d env [st] r H f r₁ H₁ := by
  cases f with
  | next => exact .cons h1 .nil
  | brk => exact .stop h1 (by intro e; cases e)
  | cont => exact .stop h1 (by intro e; cases e)
  | ret a => exact .stop h1 (by intro e; cases e)

theorem Ex1.brk {pos : Pos} : Ex1 G d env (.Break pos) r H .brk r H := .mk fun A s al Q hA R L k => wpAny_Break (k _ _ [] (by rw [List.append_nil]; exact R) (by rw [List.append_nil]; exact L) rfl StepL.refl)
theorem Ex1.cont {pos : Pos} : Ex1 G d env (.Continue pos) r H .cont r H := .mk fun A s al Q hA R L k => wpAny_Continue (k _ _ [] (by rw [List.append_nil]; exact R) (by rw [List.append_nil]; exact L) rfl StepL.refl)
theorem Ex1.ret {e : Expr} {pos : Pos} {a : AV} (h : Ev G d env e r H a H₁) : Ex1 G d env (.Return (some e) pos) r H (.ret a) r H₁ := .mk fun A s al Q hA R L k =>
  wpAny_Return_some (h.run hA R L fun v s₁ e₁ R₁ L₁ V₁ S₁ => k _ s₁ e₁ R₁ L₁ ⟨v, rfl, V₁⟩ S₁.toL)

theorem Ex1.expr {e : Expr} {pos : Pos} {a : AV} (hE : EnvOK G env) (h : Ev G d env e r H a H₁) (hs : swapsWith e none pos.line env = pure false := by rfl) : Ex1 G d env (.Expr e pos) r H .next r H₁ := .mk fun A s al Q hA R L k =>
  wpAny_Expr_any (h.run hA R L fun v s₁ e₁ R₁ L₁ V₁ S₁ => k _ s₁ e₁ R₁ L₁ rfl S₁.toL) (by unfold interactive; rw [hE.kind]; rfl) hs

theorem Ex1.assign {x : Str} {px pos : Pos} {e : Expr} {a : AV} (hE : EnvOK G env) (h : Ev G d env e r H a H₁) (P : Put x a r r') (hs : swapsWith e (some (.Name x px)) pos.line env = pure false := by rfl) : Ex1 G d env (.Assign [.Name x px] e pos) r H .next r' H₁ := .mk fun A s al Q hA R L k =>
  wpAny_Assign_Name (h.run hA R L fun v s₁ e₁ R₁ L₁ V₁ S₁ => wp_store hE L₁ P V₁ fun h' L' hs' =>
    k _ _ e₁ (R₁.local L₁.off hE.fresh hs') L' rfl (by have := S₁.toL.trans (StepL.local (al := al ++ e₁) (n := s₁.toks + 1) hs' L'.some); simpa using this)) hs

theorem Asg.name {x : Str} {px : Pos} {a : AV} (hE : EnvOK G env) (P : Put x a r r') : Asg G d env (.Name x px) a r H r' H := .mk fun A s al v Q hA R L V k =>
  wpAny_assign_Name (wp_store hE L P V fun h' L' hs' => k _ [] (by rw [List.append_nil]; exact R.local L.off hE.fresh hs') (by rw [List.append_nil]; exact L') (StepL.local hs' L'.some))

theorem Ex1.ite {t : Expr} {body orelse : List Stmt} {pos : Pos} {b : Bool} {f : AF} (h1 : Et G d env t r H b H₁) (h2 : Ex G d env (if b = true then body else orelse) r H₁ f r' H₂) : Ex1 G d env (.If t body orelse pos) r H f r' H₂ := .mk fun A s al Q hA R L k =>
  wpAny_If (h1.run hA R L fun s₁ e₁ R₁ L₁ S₁ => by
    have := h2.go A s₁ _ Q hA R₁ L₁ fun fl s₂ e₂ R₂ L₂ F₂ S₂ => k fl s₂ (e₁ ++ e₂) (by simpa only [List.append_assoc] using R₂) (by simpa only [List.append_assoc] using L₂) (by simpa only [List.append_assoc] using F₂) (S₁.toL.trans S₂)
    cases b with
    | true => rw [if_pos rfl]; rw [if_pos rfl] at this; exact this
    | false => rw [if_neg Bool.false_ne_true]; rw [if_neg Bool.false_ne_true] at this; exact this)
theorem Ex1.ifT {t : Expr} {body orelse : List Stmt} {pos : Pos} {f : AF} (h1 : Et G d env t r H true H₁) (h2 : Ex G d env body r H₁ f r' H₂) : Ex1 G d env (.If t body orelse pos) r H f r' H₂ := .ite h1 (by rw [if_pos rfl]; exact h2)
theorem Ex1.ifF {t : Expr} {body orelse : List Stmt} {pos : Pos} {f : AF} (h1 : Et G d env t r H false H₁) (h2 : Ex G d env orelse r H₁ f r' H₂) : Ex1 G d env (.If t body orelse pos) r H f r' H₂ := .ite h1 (by rw [if_neg Bool.false_ne_true]; exact h2)

/-! ## tests -/
theorem Et.cmp {l e : Expr} {op : CmpOp} {pos : Pos} {a b : AV} {c : Bool} (h1 : Ev G d env l r H a H₁) (h2 : Ev G d env e r H₁ b H₂) (h3 : Opr G d (compareOp op) a b H₂ (.bool c) H₃) (hb : behindInMarks op e = false := by rfl) : Et G d env (.Compare l [op] [e] pos) r H c H₃ := .mk fun A s al Q hA R L k =>
  wpAny_isTrue_Compare1 (h1.run hA R L fun v s₁ e₁ R₁ L₁ V₁ S₁ => h2.run hA R₁ L₁ fun u s₂ e₂ R₂ _ V₂ S₂ =>
    h3.go A s₂ _ v u _ hA R₂ V₁.mono V₂ fun z s₃ e₃ R₃ V₃ S₃ => by
      cases V₃
      exact wpAny_truthy_bool (k s₃ (e₁ ++ (e₂ ++ e₃)) (by simpa only [List.append_assoc] using R₃) (S₁.trans (S₂.trans (by simpa only [List.append_assoc] using S₃))))) hb

/-- the truth of a value -/
structure Tru (G : Gd) (a : AV) (H : List AO) (b : Bool) : Prop where
  go : ∀ (A : Around) (s : Shared) (al : List Addr) (v : Value) (Q : Bool → Shared → Prop), Rel G.bs al H s.heap → VR al a v → (∀ n, Q b { s with toks := n }) → wpAny (model G.prog G.w) A (truthy v) Q (fun _ _ => False) s
theorem Tru.int {x : Int} : Tru G (.int x) H (x != 0) := .mk fun A s al v Q R hv k => by
  obtain ⟨t, rfl⟩ := hv
  with_reducible refine P.truthy_int ?_
  exact k s.toks
theorem Tru.bool {x : Bool} : Tru G (.bool x) H x := .mk fun A s al v Q R hv k => by
  cases hv
  exact wpAny_truthy_bool (k s.toks)
theorem Tru.list {i : Nat} {xs : List AV} (hx : H[i]? = some (.list xs)) (hz : xs.length < 2 ^ 62) : Tru G (.ref i) H (!xs.isEmpty) := .mk fun A s al v Q R hv k => by
  obtain ⟨a, vs, n, rfl, hi, hm, ho, hl, q, hlen⟩ := R.isList hx hv
  refine wpAny_truthy_list hl (by (first | lia | omega)) ?_
  have e : vs.isEmpty = xs.isEmpty := by
    unfold Array.isEmpty
    rw [hlen]
    cases xs <;> simp
  rw [e]; exact k _
def plainTest : Expr → Bool
  | .UnaryOp .Not _ _ | .BoolOp .. | .IfExp .. | .Compare .. => false
  | _ => true
theorem isTrue_plain {e : Expr} (h : plainTest e = true) (env : Env) (whole : Sem Value) : isTrue e env whole = (whole >>= fun v => standAt e.pos >>= fun _ => holding [v] (truthy v)) := by
  cases e <;> first | rfl | cases h | skip
  rename_i op x p
  cases op <;> first | rfl | cases h
theorem Et.val {e : Expr} {a : AV} {b : Bool} (h1 : Ev G d env e r H a H₁) (h2 : Tru G a H₁ b) (hp : plainTest e = true := by rfl) : Et G d env e r H b H₁ := .mk fun A s al Q hA R L k => by
  rw [isTrue_plain hp]
  refine wpAny_bind (h1.run hA R L fun v s₁ e₁ R₁ L₁ V₁ S₁ => wpAny_bind (wpAny_standAt (wpAny_holding (h2.go A s₁ _ v _ R₁ V₁ fun n => ?_))))
  exact k _ e₁ R₁ (by have := S₁.trans (Step.toks (al := al ++ e₁) (tk := n)); simpa using this)
theorem Et.not {e : Expr} {pos : Pos} {b : Bool} (h1 : Et G d env e r H b H₁) : Et G d env (.UnaryOp .Not e pos) r H (!b) H₁ := .mk fun A s al Q hA R L k =>
  wpAny_isTrue_Not (h1.run hA R L fun s₁ e₁ R₁ L₁ S₁ => k s₁ e₁ R₁ S₁)
theorem Et.and {x y : Expr} {pos : Pos} {a b : Bool} (h1 : Et G d env x r H a H₁) (h2 : a = true → Et G d env y r H₁ b H₂) (h3 : a = false → H₂ = H₁) : Et G d env (.BoolOp .And [x, y] pos) r H (a && b) H₂ := .mk fun A s al Q hA R L k =>
  wpAny_isTrue_BoolOp (wpAny_allTrue_And_cons (h1.run hA R L fun s₁ e₁ R₁ L₁ S₁ => by
    cases a with
    | false => rw [if_neg Bool.false_ne_true]; have e := h3 rfl; subst e; exact k s₁ e₁ R₁ S₁
    | true =>
      rw [if_pos rfl]
      refine wpAny_allTrue_And_cons ((h2 rfl).run hA R₁ L₁ fun s₂ e₂ R₂ L₂ S₂ => ?_)
      have q := k s₂ (e₁ ++ e₂) (by simpa only [List.append_assoc] using R₂) (S₁.trans S₂)
      cases b with
      | false => rw [if_neg Bool.false_ne_true]; exact q
      | true => rw [if_pos rfl]; exact wpAny_allTrue_And_nil q))
theorem Et.or {x y : Expr} {pos : Pos} {a b : Bool} (h1 : Et G d env x r H a H₁) (h2 : a = false → Et G d env y r H₁ b H₂) (h3 : a = true → H₂ = H₁) : Et G d env (.BoolOp .Or [x, y] pos) r H (a || b) H₂ := .mk fun A s al Q hA R L k =>
  wpAny_isTrue_BoolOp (wpAny_allTrue_Or_cons (h1.run hA R L fun s₁ e₁ R₁ L₁ S₁ => by
    cases a with
    | true => rw [if_pos rfl]; have e := h3 rfl; subst e; exact k s₁ e₁ R₁ S₁
    | false =>
      rw [if_neg Bool.false_ne_true]
      refine wpAny_allTrue_Or_cons ((h2 rfl).run hA R₁ L₁ fun s₂ e₂ R₂ L₂ S₂ => ?_)
      have q := k s₂ (e₁ ++ e₂) (by simpa only [List.append_assoc] using R₂) (S₁.trans S₂)
      cases b with
      | true => rw [if_pos rfl]; exact q
      | false => rw [if_neg Bool.false_ne_true]; exact wpAny_allTrue_Or_nil q))
theorem Ev.ifT {t e e' : Expr} {pos : Pos} {a : AV} (h1 : Et G d env t r H true H₁) (h2 : Ev G d env e r H₁ a H₂) : Ev G d env (.IfExp t e e' pos) r H a H₂ := .mk fun A s al Q hA R L k =>
  wpAny_IfExp (h1.run hA R L fun s₁ e₁ R₁ L₁ S₁ => by
    rw [if_pos rfl]
    exact h2.run hA R₁ L₁ fun v s₂ e₂ R₂ L₂ V₂ S₂ => k v s₂ (e₁ ++ e₂) (by simpa only [List.append_assoc] using R₂) (by simpa only [List.append_assoc] using V₂) (S₁.trans S₂))
theorem Ev.ifF {t e e' : Expr} {pos : Pos} {a : AV} (h1 : Et G d env t r H false H₁) (h2 : Ev G d env e' r H₁ a H₂) : Ev G d env (.IfExp t e e' pos) r H a H₂ := .mk fun A s al Q hA R L k =>
  wpAny_IfExp (h1.run hA R L fun s₁ e₁ R₁ L₁ S₁ => by
    rw [if_neg Bool.false_ne_true]
    exact h2.run hA R₁ L₁ fun v s₂ e₂ R₂ L₂ V₂ S₂ => k v s₂ (e₁ ++ e₂) (by simpa only [List.append_assoc] using R₂) (by simpa only [List.append_assoc] using V₂) (S₁.trans S₂))

/-! ## turned in place -/
theorem Ex1.aug {x : Str} {px pos : Pos} {op : Operator} {e : Expr} {a b c : AV} (hE : EnvOK G env) (h0 : At r x a) (h1 : Ev G d env e r H b H₁) (h2 : Opr G d (inplaceOp op) a b H₁ c H₂) (P : Put x c r r') (hu : a.known = true := by rfl) : Ex1 G d env (.AugAssign (.Name x px) op e pos) r H .next r' H₂ := .mk fun A s al Q hA R L k => by
  obtain ⟨m, hn, hv⟩ := L.vals
  obtain ⟨v, hm, q⟩ := hv _ h0.mem hu
  refine wpAny_AugAssign_Name (wpAny_loadName_local hE.kind (L.kind _ h0.mem) hn hm (h1.run hA R L fun u s₁ e₁ R₁ L₁ V₁ S₁ => h2.go A s₁ _ v u _ hA R₁ q.mono V₁ fun z s₂ e₂ R₂ V₂ S₂ => wp_store hE (L₁.step S₂) P V₂ fun h' L' hs' => ?_))
  exact k _ _ (e₁ ++ e₂) (by simpa only [List.append_assoc] using R₂.local (L₁.step S₂).off hE.fresh hs') (by simpa only [List.append_assoc] using L') rfl
    (by have := S₁.toL.trans (S₂.toL.trans (StepL.local (al := al ++ e₁ ++ e₂) (n := s₂.toks + 1) hs' L'.some)); simpa using this)

/-- an item is stored -/
structure Stores (G : Gd) (d : Nat) (a b c : AV) (H H' : List AO) : Prop where
  go : ∀ (A : Around) (s : Shared) (al : List Addr) (x y z : Value) (Q : Unit → Shared → Prop), AOK d A → Rel G.bs al H s.heap → VR al a x → VR al b y → VR al c z →
    (∀ s', Rel G.bs al H' s'.heap → Step al [] s s' → Q () s') → wpAny (model G.prog G.w) A (setItem x y z) Q (fun _ _ => False) s
theorem Stores.list {i : Nat} {xs : List AV} {k : Int} {c : AV} (hx : H[i]? = some (.list xs)) (h0 : 0 ≤ k) (h1 : k < xs.length) (hz : k < 2 ^ 63) : Stores G d (.ref i) (.int k) c H (H.set i (.list (xs.set k.toNat c))) := .mk fun A s al x y z Q hA R hv hw hc K => by
  obtain ⟨a, vs, n, rfl, hi, hm, ho, hl, q, hlen⟩ := R.isList hx hv
  obtain ⟨t, rfl⟩ := hw
  refine ki_setAt ho h0 hz (by rw [hlen]; exact h1) (K _ ?_ (Step.same (Heap.SameBut.update ..) (Heap.get?_update_self _ ho rfl) hm))
  exact R.update hi (fun b o' hb e => (Heap.get?_update_other _ _ (Ne.symm hb)).trans e) (Heap.get?_update_self _ ho rfl) (by
    refine ⟨_, _, rfl, ?_⟩
    simp only [Array.toList_setIfInBounds]
    exact paired_set _ q hc)
/-- an item is read -/
structure Gets (G : Gd) (d : Nat) (a b c : AV) (H : List AO) : Prop where
  go : ∀ (A : Around) (s : Shared) (al : List Addr) (x y : Value) (Q : Value → Shared → Prop), AOK d A → Rel G.bs al H s.heap → VR al a x → VR al b y →
    (∀ v, VR al c v → Q v s) → wpAny (model G.prog G.w) A (getItem x y) Q (fun _ _ => False) s
theorem Gets.list {i : Nat} {xs : List AV} {k : Int} {c : AV} (hx : H[i]? = some (.list xs)) (h0 : 0 ≤ k) (hk : xs[k.toNat]? = some c) (hz : k < 2 ^ 63) : Gets G d (.ref i) (.int k) c H := .mk fun A s al x y Q hA R hv hw K => by
  obtain ⟨a, vs, n, rfl, hi, hm, ho, hl, q, hlen⟩ := R.isList hx hv
  obtain ⟨t, rfl⟩ := hw
  obtain ⟨v, hv, qv⟩ := paired_get q hk
  exact wpAny_getItem_list hl h0 hz (by simpa using hv) (K v qv)

theorem Ex1.augSub {o i e : Expr} {tpos pos : Pos} {op : Operator} {a b old v c : AV} (h1 : Ev G d env o r H a H₁) (h2 : Ev G d env i r H₁ b H₂) (h3 : Gets G d a b old H₂) (h4 : Ev G d env e r H₂ v H₃) (h5 : Opr G d (inplaceOp op) old v H₃ c H₄) (h6 : Stores G d a b c H₄ H') (hs : isSlice i = false := by rfl) :
    Ex1 G d env (.AugAssign (.Subscript o i tpos) op e pos) r H .next r H' := .mk fun A s al Q hA R L k => by
  refine wpAny_AugAssign_SubscriptAny (h1.run hA R L fun va s₁ e₁ R₁ L₁ V₁ S₁ => h2.run hA R₁ L₁ fun vb s₂ e₂ R₂ L₂ V₂ S₂ => h3.go A s₂ _ va vb _ hA R₂ V₁.mono V₂ fun vo Vo =>
    h4.run hA R₂ L₂ fun vv s₃ e₃ R₃ L₃ V₃ S₃ => h5.go A s₃ _ vo vv _ hA R₃ Vo.mono V₃ fun vc s₄ e₄ R₄ V₄ S₄ =>
      h6.go A s₄ _ va vb vc _ hA R₄ V₁.mono.mono.mono V₂.mono.mono V₄ fun s₅ R₅ S₅ => ?_) ?_
  · have S : Step al (e₁ ++ (e₂ ++ (e₃ ++ (e₄ ++ [])))) s s₅ := S₁.trans (S₂.trans (by
      have := S₃.trans (S₄.trans S₅)
      simpa only [List.append_assoc] using this))
    simp only [List.append_nil] at S
    exact k _ s₅ (e₁ ++ (e₂ ++ (e₃ ++ e₄))) (by simpa only [List.append_assoc] using R₅) (L.step S) rfl S.toL
  · intro ov iv new
    cases i <;> first | rfl | cases hs
theorem Ex1.assignSub {o i e : Expr} {tpos pos : Pos} {a b v : AV} (h1 : Ev G d env e r H v H₁) (h2 : Ev G d env o r H₁ a H₂) (h3 : Ev G d env i r H₂ b H₃) (h4 : Stores G d a b v H₃ H') (hs : swapsWith e (some (.Subscript o i tpos)) pos.line env = pure false := by rfl) :
    Ex1 G d env (.Assign [.Subscript o i tpos] e pos) r H .next r H' := .mk fun A s al Q hA R L k => by
  refine wpAny_Assign_Subscript (h1.run hA R L fun vv s₁ e₁ R₁ L₁ V₁ S₁ => h2.run hA R₁ L₁ fun va s₂ e₂ R₂ L₂ V₂ S₂ => h3.run hA R₂ L₂ fun vb s₃ e₃ R₃ L₃ V₃ S₃ =>
      h4.go A s₃ _ va vb vv _ hA R₃ V₂.mono V₃ V₁.mono.mono fun s₅ R₅ S₅ => ?_) hs
  have S : Step al (e₁ ++ (e₂ ++ (e₃ ++ []))) s s₅ := S₁.trans (S₂.trans (by simpa only [List.append_assoc] using S₃.trans S₅))
  simp only [List.append_nil] at S
  exact k _ s₅ (e₁ ++ (e₂ ++ e₃)) (by simpa only [List.append_assoc] using R₅) (L.step S) rfl S.toL
end
end Mine

namespace Mine
open PySem PySem.W

section
variable {prog : Program} {w : World} {A : Around} {E : Value → Shared → Prop}
theorem draw_list {it l : Addr} {items : Array Value} (hne : l ≠ it) : ∀ (n i : Nat) (s : Shared) (Q : List Value → Shared → Prop), s.heap.IsListIter it l i → s.heap.IsList l items → i + n ≤ items.size →
    (∀ h', h'.IsListIter it l (i + n) → Heap.SameBut it s.heap h' → Q ((items.toList.drop i).take n) { s with heap := h' }) → wpAny (model prog w) A (draw (.ref it) n) Q E s
  | 0, i, s, Q, hit, _, _, hQ => by
    show wpAny _ _ (pure []) Q E s
    exact wpAny_pure (by simpa using hQ s.heap hit (Heap.SameBut.refl ..))
  | n + 1, i, s, Q, hit, hl, hle, hQ => by
    have hlt : i < items.size := by (first | lia | omega)
    show wpAny _ _ (pyNext (.ref it) >>= _) Q E s
    refine wpAny_bind (wpAny_pyNext_list_item hit hl (x := items[i]) (by simp [hlt]) fun h₁ hit₁ hs₁ => ?_)
    refine wpAny_bind (wpAny_holding (draw_list hne n (i + 1) _ _ hit₁ (hl.extBut hs₁.extBut hne) (by (first | lia | omega)) fun h₂ hit₂ hs₂ => wpAny_pure ?_))
    have e : items.toList.drop i = items[i] :: items.toList.drop (i + 1) := by simp [List.drop_eq_getElem_cons, hlt]
    have := hQ h₂ (by rw [show i + (n + 1) = i + 1 + n by (first | lia | omega)]; exact hit₂) (hs₁.trans hs₂)
    rw [e, List.take_succ_cons] at this
    exact this
theorem unpackItems_list {s : Shared} {l : Addr} {items : Array Value} {Q : List Value → Shared → Prop} (hh : A.handled = none) (hl : s.heap.IsList l items)
    (hQ : ∀ h', Heap.ExtBut s.heap.objs.size s.heap h' → Q items.toList { s with heap := h' }) : wpAny (model prog w) A (unpackItems (.ref l) items.size none) Q E s := by
  have hlt : l ≠ s.heap.objs.size := by obtain ⟨o, ho, _⟩ := hl; exact Nat.ne_of_lt (Heap.lt_size ho)
  unfold unpackItems
  refine wpAny_bind ?_
  unfold notIterableAtAll
  refine wpAny_bind (wpAny_specialOf hl.typeIs slot_list_iter.lookup ?_)
  refine wpAny_pure ?_
  simp only [Bool.false_eq_true, if_false]
  refine wpAny_bind (wpAny_holding (wpAny_pyIter_list hl ?_))
  refine wpAny_bind (wpAny_holding (draw_list hlt items.size 0 _ _ ⟨_, Heap.get?_push_size _ rfl, rfl, rfl⟩ (hl.push _) (by (first | lia | omega)) fun h₁ hit₁ hs₁ => ?_))
  have hall : List.take items.size (List.drop 0 items.toList) = items.toList := by
    rw [List.drop_zero]; exact List.take_of_length_le (by simp)
  rw [hall]
  rw [if_neg (by simp)]
  have hl₁ : h₁.IsList l items := (hl.push _).extBut hs₁.extBut hlt
  refine wpAny_bind (wpAny_holding (wpAny_pyNext_list_end hh hit₁ hl₁ (by simp) fun h₂ he₂ => ?_))
  simp only [Option.isSome_none, Bool.false_eq_true, if_false]
  exact wpAny_pure (hQ h₂ fun b o hb e => he₂ b o hb (hs₁.extBut b o hb (Heap.get?_push_of_some _ e)))
end

section
variable {G : Gd} {d : Nat} {env : Env} {r r' r₁ r₂ : LV} {H H' H₁ H₂ H₃ H₄ : List AO}

structure Unp (G : Gd) (d : Nat) (a : AV) (xs : List AV) (H : List AO) : Prop where
  go : ∀ (A : Around) (s : Shared) (al : List Addr) (v : Value) (Q : List Value → Shared → Prop), AOK d A → Rel G.bs al H s.heap → VR al a v →
    (∀ vs s', VRs al xs vs → Rel G.bs al H s'.heap → Step al [] s s' → Q vs s') → wpAny (model G.prog G.w) A (unpackItems v xs.length none) Q (fun _ _ => False) s
theorem ext_keep {h h' : Heap} (e : Heap.ExtBut h.objs.size h h') : ∀ b o, h.get? b = some o → h'.get? b = some o := fun b o q => e b o (Nat.ne_of_lt (Heap.lt_size q)) q
theorem Unp.tup {i : Nat} {xs : List AV} (hx : H[i]? = some (.tup xs)) : Unp G d (.ref i) xs H := .mk fun A s al v Q hA R hv k => by
  obtain ⟨a, vs, n, rfl, hi, hm, ho, hl, q, hlen⟩ := R.isTup hx hv
  rw [← hlen]
  exact PySem.wpAny_unpackItems_tuple hA.handled hl fun h' he => k _ _ q (R.keeps (ext_keep he)) (Step.of_keep (tk := s.toks) (ext_keep he))
theorem Unp.list {i : Nat} {xs : List AV} (hx : H[i]? = some (.list xs)) : Unp G d (.ref i) xs H := .mk fun A s al v Q hA R hv k => by
  obtain ⟨a, vs, n, rfl, hi, hm, ho, hl, q, hlen⟩ := R.isList hx hv
  rw [← hlen]
  exact unpackItems_list hA.handled hl fun h' he => k _ _ q (R.keeps (ext_keep he)) (Step.of_keep (tk := s.toks) (ext_keep he))

inductive NameL : List Expr → List Str → Prop
  | nil : NameL [] []
  | cons {x p es xs} : NameL es xs → NameL (.Name x p :: es) (x :: xs)
inductive Puts : List Str → List AV → LV → LV → Prop
  | nil {p : LV} : Puts [] [] p p
  | cons {x : Str} {a : AV} {xs : List Str} {as : List AV} {p p₁ p₂ : LV} : Put x a p p₁ → Puts xs as p₁ p₂ → Puts (x :: xs) (a :: as) p p₂
theorem NameL.length {es : List Expr} {xs : List Str} (h : NameL es xs) : (assignEach es env).length = xs.length := by
  induction h with
  | nil => rfl
  | cons _ ih => show (_ :: assignEach _ env).length = _; simp [ih]
theorem NameL.star {es : List Expr} {xs : List Str} (h : NameL es xs) : (assignEach es env).findIdx? (·.1) = none := by
  induction h with
  | nil => rfl
  | @cons x p es xs _ ih => show List.findIdx? _ ((false, assign (.Name x p) env) :: assignEach _ env) = none; simp [List.findIdx?_cons, ih]

theorem wp_names {A : Around} {al : List Addr} (hE : EnvOK G env) {es : List Expr} {xs : List Str} (hn : NameL es xs) : ∀ {as : List AV} {r r' : LV} {vs : List Value} {s : Shared} {Q : Unit → Shared → Prop} {E : Value → Shared → Prop},
    Puts xs as r r' → VRs al as vs → Rel G.bs al H s.heap → LR env al r s.heap → (∀ s', Rel G.bs al H s'.heap → LR env al r' s'.heap → StepL env.locals al [] s s' → Q () s') →
    wpAny (model G.prog G.w) A (assignInOrder ((assignEach es env).map (·.2)) vs) Q E s := by
  induction hn with
  | nil =>
    intro as r r' vs s Q E P V R L k
    cases P
    cases V
    exact wpAny_assignInOrder_none (k _ R L StepL.refl)
  | @cons x p es xs hn ih =>
    intro as r r' vs s Q E P V R L k
    cases P with
    | cons P Ps =>
      cases V with
      | cons v Vs =>
        refine wpAny_assignInOrder_more (wpAny_assign_Name (wp_store hE L P v fun h' L' hs' => ?_))
        exact ih Ps Vs (R.local L.off hE.fresh hs') L' fun s' R'' L'' S'' => k s' R'' L'' (by have := (StepL.local (al := al) (n := s.toks + 1) hs' L'.some).trans (by simpa using S''); simpa using this)
theorem wp_binds {A : Around} {al : List Addr} (hE : EnvOK G env) : ∀ {xs : List Str} {as : List AV} {r r' : LV} {vs : List Value} {s : Shared} {Q : Unit → Shared → Prop} {E : Value → Shared → Prop},
    Puts xs as r r' → VRs al as vs → Rel G.bs al H s.heap → LR env al r s.heap → (∀ s', Rel G.bs al H s'.heap → LR env al r' s'.heap → StepL env.locals al [] s s' → Q () s') →
    wpAny (model G.prog G.w) A (assignInOrder (xs.map fun n => bindName env n) vs) Q E s
  | [], _, _, _, _, s, Q, E, .nil, .nil, R, L, k => wpAny_assignInOrder_none (k _ R L StepL.refl)
  | x :: xs, _, _, _, _, s, Q, E, .cons P Ps, .cons v Vs, R, L, k => by
    refine wpAny_assignInOrder_more (wpAny_bindName (wp_store hE L P v fun h' L' hs' => ?_))
    exact wp_binds hE Ps Vs (R.local L.off hE.fresh hs') L' fun s' R'' L'' S'' => k s' R'' L'' (by have := (StepL.local (al := al) (n := s.toks + 1) hs' L'.some).trans (by simpa using S''); simpa using this)

theorem Ex1.assignTup {elts : List Expr} {n : Nat} {tpos pos : Pos} {e : Expr} {xs : List Str} {a : AV} {as : List AV} (hE : EnvOK G env) (h1 : Ev G d env e r H a H₁) (h2 : Unp G d a as H₁) (hn : NameL elts xs) (P : Puts xs as r r') (hl : as.length = xs.length := by rfl)
    (hs : swapsWithSole [.Tuple elts n tpos] e pos.line env = pure false := by rfl) (hw : swappedStores [.Tuple elts n tpos] e env = pure none := by rfl) : Ex1 G d env (.Assign [.Tuple elts n tpos] e pos) r H .next r' H₁ := .mk fun A s al Q hA R L k => by
  refine PyProof.Rows.Assign_Tuple (h1.run hA R L fun v s₁ e₁ R₁ L₁ V₁ S₁ => ?_) hs hw
  show wpAny _ A (standAt tpos >>= fun _ => unpack v (assignEach elts env)) _ _ s₁
  refine wpAny_bind (wpAny_standAt ?_)
  unfold unpack
  rw [hn.length, hn.star, ← hl]
  refine wpAny_bind (wpAny_holding (h2.go A s₁ _ v _ hA R₁ V₁ fun vs s₂ Vs R₂ S₂ => wp_names hE hn P Vs R₂ (by simpa using L₁.step S₂) fun s₃ R₃ L₃ S₃ => ?_))
  exact k _ s₃ e₁ R₃ L₃ rfl (by have := S₁.toL.trans (S₂.toL.trans (by simpa using S₃)); simpa using this)

theorem Ex1.swap {elts : List Expr} {n : Nat} {tpos pos : Pos} {e : Expr} {xs : List Str} {a : AV} {as : List AV} (hE : EnvOK G env) (h1 : Ev G d env e r H a H₁) (h2 : Unp G d a as H₁) (P : Puts xs.reverse as.reverse r r')
    (hw : swappedStores [.Tuple elts n tpos] e env = pure (some xs)) (hl : as.length = xs.length := by rfl) (hs : swapsWithSole [.Tuple elts n tpos] e pos.line env = pure false := by rfl) : Ex1 G d env (.Assign [.Tuple elts n tpos] e pos) r H .next r' H₁ := .mk fun A s al Q hA R L k => by
  refine PyProof.Rows.Assign_Tuple_swapped (names := xs) (h1.run hA R L fun v s₁ e₁ R₁ L₁ V₁ S₁ => ?_) hs hw
  rw [← hl]
  refine h2.go A s₁ _ v _ hA R₁ V₁ fun vs s₂ Vs R₂ S₂ => ?_
  have rev : ∀ {l : List AV} {k : List Value}, VRs (al ++ e₁) l k → VRs (al ++ e₁) l.reverse k.reverse := by
    intro l k h
    induction h with
    | nil => exact .nil
    | cons h _ ih => simpa using paired_app ih (.cons h .nil)
  refine wp_binds hE P (rev Vs) R₂ (by simpa using L₁.step S₂) fun s₃ R₃ L₃ S₃ => ?_
  exact k _ s₃ e₁ R₃ L₃ rfl (by have := S₁.toL.trans (S₂.toL.trans (by simpa using S₃)); simpa using this)
end
end Mine

namespace Mine
open PySem PySem.W

/-- an iterator at I that hands out xs as long as Ok holds of the abstract heap -/
structure Feed (G : Gd) (I : Addr) (xs : List AV) (Ok : List AO → Prop) (St : Nat → List Addr → Heap → Prop) : Prop where
  stay : ∀ i al ext h h', St i al h → (∀ o, h.get? I = some o → h'.get? I = some o) → St i (al ++ ext) h'
  item : ∀ (A : Around) (d i : Nat) (x : AV) (s : Shared) (al : List Addr) (H : List AO) (Q : Option Value → Shared → Prop), AOK d A → xs[i]? = some x → St i al s.heap → Rel G.bs al H s.heap → Ok H → I ∉ al →
    (∀ v h' tk, VR al x v → St (i + 1) al h' → Heap.ExtBut I s.heap h' → Q (some v) { s with heap := h', toks := tk }) → wpAny (model G.prog G.w) A (pyNext (.ref I)) Q (fun _ _ => False) s
  done : ∀ (A : Around) (d i : Nat) (s : Shared) (al : List Addr) (H : List AO) (Q : Option Value → Shared → Prop), AOK d A → xs.length ≤ i → St i al s.heap → Rel G.bs al H s.heap → Ok H →
    (∀ h' tk, Heap.ExtBut I s.heap h' → Q none { s with heap := h', toks := tk }) → wpAny (model G.prog G.w) A (pyNext (.ref I)) Q (fun _ _ => False) s
  alive : ∀ i al h, St i al h → (h.get? I).isSome = true
  self : ∀ (A : Around) (d i : Nat) (s : Shared) (al : List Addr) (Q : Value → Shared → Prop), AOK d A → St i al s.heap → Q (.ref I) s → wpAny (model G.prog G.w) A (pyIter (.ref I)) Q (fun _ _ => False) s

/-- an expression whose value feeds xs -/
structure It (G : Gd) (d : Nat) (env : Env) (e : Expr) (r : LV) (H : List AO) (xs : List AV) (Ok : List AO → Prop) (H' : List AO) : Prop where
  go : ∀ (A : Around) (s : Shared) (al : List Addr) (Q : Value → Shared → Prop), AOK d A → Rel G.bs al H s.heap → LR env al r s.heap →
    (∀ I s' ext St, Feed G I xs Ok St → St 0 (al ++ ext) s'.heap → I ∉ al ++ ext → I ≠ env.locals → G.h₀.get? I = none → s.heap.get? I = none → Rel G.bs (al ++ ext) H' s'.heap → LR env (al ++ ext) r s'.heap → Step al ext s s' → Ok H' → Q (.ref I) s') →
    wpAny (model G.prog G.w) A (eval e env) (fun x s₁ => wpAny (model G.prog G.w) A (pyIter x) Q (fun _ _ => False) s₁) (fun _ _ => False) s

inductive Loop (B : AV → LV → List AO → AF → LV → List AO → Prop) : List AV → LV → List AO → AF → LV → List AO → Prop
  | nil {p : LV} {K : List AO} : Loop B [] p K .next p K
  | next {v : AV} {vs : List AV} {p p₁ p₂ : LV} {K K₁ K₂ : List AO} {g : AF} : B v p K .next p₁ K₁ → Loop B vs p₁ K₁ g p₂ K₂ → Loop B (v :: vs) p K g p₂ K₂
  | cont {v : AV} {vs : List AV} {p p₁ p₂ : LV} {K K₁ K₂ : List AO} {g : AF} : B v p K .cont p₁ K₁ → Loop B vs p₁ K₁ g p₂ K₂ → Loop B (v :: vs) p K g p₂ K₂
  | brk {v : AV} {vs : List AV} {p p₁ : LV} {K K₁ : List AO} : B v p K .brk p₁ K₁ → Loop B (v :: vs) p K .next p₁ K₁
  | ret {v : AV} {vs : List AV} {p p₁ : LV} {K K₁ : List AO} {a : AV} : B v p K (.ret a) p₁ K₁ → Loop B (v :: vs) p K (.ret a) p₁ K₁

section
variable {G : Gd} {d : Nat} {env : Env} {r r' r₁ r₂ : LV} {H H' H₁ H₂ H₃ H₄ : List AO}

theorem LR.other {al : List Addr} {h h' : Heap} {I : Addr} (L : LR env al r h) (hI : I ≠ env.locals) (hs : Heap.ExtBut I h h') : LR env al r h' := by
  obtain ⟨m, ⟨o, es, ep, ho, q⟩, hv⟩ := L.vals
  exact ⟨L.nodup, L.kind, L.nodbg, L.off, m, ⟨o, es, ep, hs _ _ (Ne.symm hI) ho, q⟩, hv⟩
theorem Rel.other {h₀ : Base} {h h' : Heap} {al : List Addr} {I : Addr} (R : Rel h₀ al H h) (hI : I ∉ al) (h0 : h₀.get? I = none) (hs : Heap.ExtBut I h h') : Rel h₀ al H h' where
  base b o e := hs b o (fun hb => by subst hb; rw [h0] at e; cases e) (R.base b o e)
  pre := R.pre
  apart := R.apart
  nodup := R.nodup
  len := R.len
  obj i a x e1 e2 := by
    obtain ⟨o, ho, q⟩ := R.obj i a x e1 e2
    exact ⟨o, hs a o (fun hb => by subst hb; exact hI (List.mem_of_getElem? e1)) ho, q⟩

/-- one turn of a for -/
structure Turn (G : Gd) (d : Nat) (env : Env) (target : Expr) (body : List Stmt) (Ok : List AO → Prop) (v : AV) (r : LV) (H : List AO) (f : AF) (r' : LV) (H' : List AO) : Prop where
  go : ∃ r₁ H₁, Asg G d env target v r H r₁ H₁ ∧ Ex G d env body r₁ H₁ f r' H' ∧ Ok H'

theorem StepL.iter {L I : Addr} {al ext : List Addr} {s s₁ s' : Shared} (x : StepL L al ext s s₁) (hs : Heap.ExtBut I s₁.heap s'.heap) (hI : s.heap.get? I = none) (hg : s'.gens = s₁.gens) (ho : s'.os = s₁.os) : StepL L al ext s s' where
  keep b o hb hL e := hs b o (fun hh => by subst hh; rw [hI] at e; cases e) (x.keep b o hb hL e)
  dom b e := by
    have q := x.dom b e
    by_cases hb : b = I
    · subst hb; rw [hI] at e; cases e
    · obtain ⟨o, ho⟩ := Option.isSome_iff_exists.mp q
      rw [hs b o hb ho]; rfl
  new := x.new
  gens := hg.trans x.gens
  os := ho.trans x.os

theorem Ex1.forIt {target iter : Expr} {body : List Stmt} {pos : Pos} {xs : List AV} {Ok : List AO → Prop} {f : AF} (h1 : It G d env iter r H xs Ok H₁) (h2 : Loop (Turn G d env target body Ok) xs r H₁ f r' H')
    (ht : ∀ it v, letOwnedTupleGo target it v = pure () := by intro _ _; rfl) (hs : ∀ x, foldedSetIterable iter env x = pure x := by intro _; rfl) : Ex1 G d env (.For target iter body [] pos) r H f r' H' := .mk fun A s al Q hA R L k => by
  refine wpAny_For (wpAny_mono (h1.go A s al _ hA R L fun I s₁ e₁ St F st hI hIL hI0 hIs R₁ L₁ S₁ ok => ?_) (fun _ _ h => h) (fun _ _ h => h.elim)) hs
  refine codeAny_forLoop (fun n s' => ∃ e r₂ H₂ i, Rel G.bs (al ++ e) H₂ s'.heap ∧ LR env (al ++ e) r₂ s'.heap ∧ St i (al ++ e) s'.heap ∧ I ∉ al ++ e ∧ Loop (Turn G d env target body Ok) (xs.drop i) r₂ H₂ f r' H' ∧ StepL env.locals al e s s' ∧ Ok H₂ ∧ n = xs.length + 1 - i ∧ i ≤ xs.length) ?_ (xs.length + 1)
    ⟨e₁, r, H₁, 0, R₁, L₁, st, hI, by simpa using h2, S₁.toL, ok, rfl, Nat.zero_le _⟩ (ht _)
  rintro n s' ⟨e, r₂, H₂, i, R₂, L₂, st₂, hI₂, lp, S₂, ok₂, rfl, hile⟩
  by_cases hi : i < xs.length
  · have hx : xs[i]? = some xs[i] := by simp [hi]
    refine wpAny_mono (F.item A d i xs[i] s' _ H₂ (fun r s₁ => _) hA hx st₂ R₂ ok₂ hI₂ fun v h' tk hv st₃ hs₃ => ?_) (fun _ _ h => h) (fun _ _ h => h.elim)
    rw [List.drop_eq_getElem_cons hi] at lp
    have R₃ := R₂.other (h' := h') hI₂ hI0 hs₃
    have L₃ := L₂.other (h' := h') hIL hs₃
    have hIsome : (h'.get? I).isSome = true := F.alive _ _ _ st₃
    have S₃ : StepL env.locals al e s { s' with heap := h', toks := tk } := S₂.iter (s' := { s' with heap := h', toks := tk }) hs₃ hIs rfl rfl
    -- one turn, whatever its end
    have turn : ∀ {g : AF} {p₁ : LV} {K₁ : List AO} {W : Flow → Shared → Prop}, Turn G d env target body Ok xs[i] r₂ H₂ g p₁ K₁ →
        (∀ fl s₄ e', Rel G.bs (al ++ e') K₁ s₄.heap → LR env (al ++ e') p₁ s₄.heap → FR (al ++ e') g fl → StepL env.locals al e' s s₄ → St (i + 1) (al ++ e') s₄.heap → I ∉ al ++ e' → Ok K₁ → W fl s₄) →
        wpAny (model G.prog G.w) A (PySem.assign target env v) (fun _ s₂ => wpAny (model G.prog G.w) A (execs body env) W (fun _ _ => False) s₂) (fun _ _ => False) { s' with heap := h', toks := tk } := by
      rintro g p₁ K₁ W ⟨q₁, J₁, asg, ex, okK⟩ kk
      refine asg.go A _ _ v _ hA R₃ L₃ hv fun s₄ e₄ R₄ L₄ S₄ => ex.go A s₄ _ W hA R₄ L₄ fun fl s₅ e₅ R₅ L₅ F₅ S₅ => ?_
      have T : StepL env.locals (al ++ e) (e₄ ++ e₅) { s' with heap := h', toks := tk } s₅ := S₄.trans S₅
      have hI5 : I ∉ (al ++ e) ++ (e₄ ++ e₅) := fun hm => by
        rcases List.mem_append.mp hm with hm | hm
        · exact hI₂ hm
        · have := T.new I hm
          rw [show ({ s' with heap := h', toks := tk } : Shared).heap.get? I = h'.get? I from rfl] at this
          rw [this] at hIsome; cases hIsome
      have st5 : St (i + 1) ((al ++ e) ++ (e₄ ++ e₅)) s₅.heap := F.stay _ _ _ _ _ st₃ fun o ho => T.keep I o hI₂ hIL ho
      exact kk fl s₅ (e ++ (e₄ ++ e₅)) (by simpa only [List.append_assoc] using R₅) (by simpa only [List.append_assoc] using L₅) (by simpa only [List.append_assoc] using F₅) (S₃.trans T) (by simpa only [List.append_assoc] using st5) (by simpa only [List.append_assoc] using hI5) okK
    have fin : ∀ {P : Value → Shared → Prop} {W : Flow → Shared → Prop}, wpAny (model G.prog G.w) A (PySem.assign target env v) (fun _ s₂ => wpAny (model G.prog G.w) A (execs body env) W (fun _ _ => False) s₂) (fun _ _ => False) { s' with heap := h', toks := tk } →
        wpAny (model G.prog G.w) A (PySem.assign target env v) (fun _ s₂ => wpAny (model G.prog G.w) A (execs body env) W P s₂) P { s' with heap := h', toks := tk } :=
      fun hh => wpAny_mono hh (fun _ _ h => wpAny_mono h (fun _ _ h => h) fun _ _ h => h.elim) fun _ _ h => h.elim
    refine fin ?_
    cases lp with
    | next b lp' =>
      refine turn b fun fl s₄ e' R₄ L₄ F₄ S₄ st₄ hI₄ ok₄ => ?_
      cases F₄
      exact ⟨_, by (first | lia | omega), e', _, _, i + 1, R₄, L₄, st₄, hI₄, lp', S₄, ok₄, rfl, hi⟩
    | cont b lp' =>
      refine turn b fun fl s₄ e' R₄ L₄ F₄ S₄ st₄ hI₄ ok₄ => ?_
      cases F₄
      exact ⟨_, by (first | lia | omega), e', _, _, i + 1, R₄, L₄, st₄, hI₄, lp', S₄, ok₄, rfl, hi⟩
    | brk b =>
      refine turn b fun fl s₄ e' R₄ L₄ F₄ S₄ st₄ hI₄ ok₄ => ?_
      cases F₄
      exact k _ s₄ e' R₄ L₄ rfl S₄
    | ret b =>
      refine turn b fun fl s₄ e' R₄ L₄ F₄ S₄ st₄ hI₄ ok₄ => ?_
      obtain ⟨u, rfl, hu⟩ := F₄
      exact k _ s₄ e' R₄ L₄ ⟨u, rfl, hu⟩ S₄
  · have hnil : xs.drop i = [] := List.drop_eq_nil_of_le (by (first | lia | omega))
    rw [hnil] at lp
    cases lp
    refine wpAny_mono (F.done A d i s' _ H' (fun r s₁ => _) hA (by (first | lia | omega)) st₂ R₂ ok₂ fun h' tk he => ?_) (fun _ _ h => h) (fun _ _ h => h.elim)
    refine wpAny_execs_nil ?_
    exact k _ _ e (R₂.other hI₂ hI0 he) (L₂.other hIL he) rfl (S₂.iter (s' := { s' with heap := h', toks := tk }) he hIs rfl rfl)
end
end Mine

namespace Mine
open PySem PySem.W

/-- a callee whose value is at once asked for an iterator -/
structure CallIt (G : Gd) (d : Nat) (f : AV) (as : List AV) (H : List AO) (xs : List AV) (Ok : List AO → Prop) (H' : List AO) : Prop where
  go : ∀ (A : Around) (s : Shared) (al : List Addr) (fv : Value) (vs : List Value) (Q : Value → Shared → Prop), AOK d A → Rel G.bs al H s.heap → VR al f fv → VRs al as vs →
    (∀ I s' ext St, Feed G I xs Ok St → St 0 (al ++ ext) s'.heap → I ∉ al ++ ext → G.h₀.get? I = none → s.heap.get? I = none → Rel G.bs (al ++ ext) H' s'.heap → Step al ext s s' → Ok H' → Q (.ref I) s') →
    wpAny (model G.prog G.w) A (call fv vs) (fun x s₁ => wpAny (model G.prog G.w) A (pyIter x) Q (fun _ _ => False) s₁) (fun _ _ => False) s

section
variable {G : Gd} {d : Nat} {env : Env} {r r' r₁ r₂ : LV} {H H' H₁ H₂ H₃ H₄ : List AO}

theorem Feed.list {I : Addr} {i : Nat} {xs : List AV} : Feed G I xs (fun K => K[i]? = some (.list xs)) (fun k al h => ∃ a, al[i]? = some a ∧ h.IsListIter I a k) where
  stay k al ext h h' := fun ⟨a, ha, hi⟩ hk => ⟨a, get_app ha, hi.at fun o e => hk o e⟩
  item A d k x s al H Q hA hx := fun ⟨a, ha, hi⟩ R ok hI K => by
    obtain ⟨a', vs, n, e, ha', hm, ho, hl, q, hlen⟩ := R.isList ok (v := .ref a) ⟨a, ha, rfl⟩
    cases e
    obtain ⟨v, hv, qv⟩ := paired_get q hx
    exact wpAny_pyNext_list_item hi hl (x := v) (by simpa using hv) fun h' hi' hs' => K v h' s.toks qv ⟨a, ha, hi'⟩ hs'.extBut
  done A d k s al H Q hA hle := fun ⟨a, ha, hi⟩ R ok K => by
    obtain ⟨a', vs, n, e, ha', hm, ho, hl, q, hlen⟩ := R.isList ok (v := .ref a) ⟨a, ha, rfl⟩
    cases e
    exact wpAny_pyNext_list_end hA.handled hi hl (by rw [Array.getElem?_eq_none_iff, hlen]; exact hle) fun h' he => K h' s.toks he
  alive k al h := fun ⟨a, ha, o, ho, _⟩ => by rw [ho]; rfl
  self A d k s al Q hA := fun ⟨a, ha, hi⟩ K => wpAny_pyIter_listiter hi K
theorem Feed.ofWalks {I : Addr} {xs : List AV} {n : Nat} {P : Nat → Value → Prop} {S : Nat → Heap → Prop} (W : ∀ {A : Around}, A.handled = none → Walks G.prog G.w A I [I] [I] n P S) (hn : n = xs.length) (hP : ∀ i v x, P i v → xs[i]? = some x → VR [] x v)
    (hl : ∀ i h, S i h → (h.get? I).isSome = true) : Feed G I xs (fun _ => True) (fun k al h => S k h ∧ k ≤ n) where
  stay k al ext h h' := fun ⟨a, b⟩ hk => ⟨(W (A := {}) rfl).frame k h h' a fun b hb o e => by rw [List.mem_singleton.mp hb] at e ⊢; exact hk o e, b⟩
  item A d k x s al H Q hA hx := fun ⟨a, b⟩ R ok hI K => by
    have hk : k < n := by rw [hn]; exact (List.getElem?_eq_some_iff.mp hx).1
    exact (W hA.handled).item k s Q _ hk a fun v h' tk hv st he => K v h' tk (by have := (hP k v x hv hx).mono (e := al); simpa using this) ⟨st, hk⟩ fun b o hb e => he b o (by simpa using hb) e
  done A d k s al H Q hA hle := fun ⟨a, b⟩ R ok K => by
    have : k = n := by (first | lia | omega)
    subst this
    exact (W hA.handled).done s Q _ a fun h' tk he => K h' tk fun b o hb e => he b o (by simpa using hb) e
  alive k al h := fun ⟨a, _⟩ => hl k h a
  self A d k s al Q hA := fun ⟨a, b⟩ K => (W hA.handled).self k s Q _ a K

def span (a : Int) (n : Nat) : List AV := (List.range n).map fun (i : Nat) => AV.int (a + (i : Int))
theorem span_len (a : Int) (n : Nat) : (span a n).length = n := by simp [span]
theorem Feed.range {I : Addr} {a : Int} {n : Nat} : Feed G I (span a n) (fun _ => True) (fun k al h => IsRangeIter h I (a + (k : Int) * 1) ((n : Int) - k) 1 ∧ k ≤ n) :=
  Feed.ofWalks (fun hh => Walks.range hh I a 1 n) (span_len a n).symm (fun i v x hv hx => by
    obtain ⟨t, rfl⟩ := hv
    have hi : i < n := by rw [← span_len a n]; exact (List.getElem?_eq_some_iff.mp hx).1
    simp [span, hi] at hx
    subst hx
    exact ⟨t, by simp⟩) fun i h e => by rw [e]; rfl
def signs (x : Str) : List AV := x.cps.toList.map fun c => .str ⟨#[c]⟩
theorem Feed.str {I : Addr} {x : Str} {t : Tok} : Feed G I (signs x) (fun _ => True) (fun k al h => h.IsStrIter I "str_ascii_iterator" x t k ∧ k ≤ x.cps.size) :=
  Feed.ofWalks (fun hh => Walks.strAscii hh I x t) (by simp [signs]) (fun i v y hv hx => by
    obtain ⟨c, u, hc, rfl⟩ := hv
    simp [signs] at hx
    obtain ⟨c', h1, rfl⟩ := hx
    rw [hc] at h1
    cases h1
    exact ⟨u, rfl⟩) fun i h e => by obtain ⟨o, ho, _⟩ := e; rw [ho]; rfl

theorem It.list {e : Expr} {i : Nat} {xs : List AV} (h1 : Ev G d env e r H (.ref i) H₁) (hx : H₁[i]? = some (.list xs)) : It G d env e r H xs (fun K => K[i]? = some (.list xs)) H₁ := .mk fun A s al Q hA R L k =>
  h1.run hA R L fun v s₁ e₁ R₁ L₁ V₁ S₁ => by
    obtain ⟨a, vs, n, rfl, hi, hm, ho, hl, q, hlen⟩ := R₁.isList hx V₁
    refine wpAny_pyIter_list hl ?_
    have S₂ : Step (al ++ e₁) [] s₁ { s₁ with heap := s₁.heap.push { cls := .type "list_iterator", data := .fields #[.ref a, .int 0 0] } } := Step.pushG
    have hk : ∀ b o, s₁.heap.get? b = some o → (s₁.heap.push { cls := .type "list_iterator", data := .fields #[.ref a, .int 0 0] }).get? b = some o := fun b o e => Heap.get?_push_of_some _ e
    have fr : s.heap.get? s₁.heap.objs.size = none := by
      cases e : s.heap.get? s₁.heap.objs.size with
      | none => rfl
      | some o => have := S₁.dom _ (by rw [e]; rfl); rw [get_size] at this; cases this
    refine k s₁.heap.objs.size _ e₁ _ Feed.list ⟨a, hi, _, Heap.get?_push_size _ rfl, rfl, rfl⟩ (size_notIn R₁) (Nat.ne_of_gt L₁.lt) ?_ fr (R₁.keeps hk) ?_ (by simpa using S₁.trans S₂) hx
    · cases e : G.h₀.get? s₁.heap.objs.size with
      | none => rfl
      | some o => have := R₁.base _ _ e; rw [get_size] at this; cases this
    · have := L₁.step S₂
      simpa using this

theorem It.call {args : List Expr} {pos : Pos} {fv : AV} {as : List AV} {xs : List AV} {Ok : List AO → Prop} {x : Str} {px : Pos} (h1 : Ev G d env (.Name x px) r H fv H₁) (h2 : Evs G d env args r H₁ as H₂) (hc : Cal G fv H₂) (h3 : CallIt G d fv as H₂ xs Ok H₃)
    (hs : (args.all fun e => !isStarred e) = true := by rfl) : It G d env (.Call (.Name x px) args [] pos) r H xs Ok H₃ := .mk fun A s al Q hA R L k => by
  show wpAny _ A (eval (.Name x px) env >>= fun fv => callWith pos fv [] (backTo pos (starEach args env)) (backToKw pos (keywordEach [] env))) _ _ s
  refine wpAny_bind (h1.run hA R L fun v s₁ e₁ R₁ L₁ V₁ S₁ => ?_)
  have hall := backTo_all (pos := pos) (starEach_all (env := env) hs)
  refine callWith_of (P := fun h => ∃ k, (k = Keeper.frame ∨ k = Keeper.machine ∨ k = Keeper.boundFrame) ∧ Looks (model G.prog G.w) h (keeperOf v) k) (by rw [any_of_all hall]; rfl) (fun _ h => h) ?_
  refine evalArgs_all hall (h2.run hA R₁ L₁ fun vs s₂ e₂ R₂ L₂ V₂ S₂ => ⟨hc _ _ _ R₂ V₁.mono, ?_⟩)
  have S12 : Step al (e₁ ++ e₂) s s₂ := S₁.trans S₂
  refine h3.go A s₂ _ v vs Q hA R₂ V₁.mono V₂ fun I s₃ e₃ St F st hI hI0 hIs R₃ S₃ ok => ?_
  have S : Step al (e₁ ++ (e₂ ++ e₃)) s s₃ := S₁.trans (S₂.trans (by simpa only [List.append_assoc] using S₃))
  refine k I s₃ (e₁ ++ (e₂ ++ e₃)) St F (by simpa only [List.append_assoc] using st) (by simpa only [List.append_assoc] using hI) ?_ hI0 ?_ (by simpa only [List.append_assoc] using R₃) (L.step S) S ok
  · rintro rfl
    have := L₂.some
    rw [hIs] at this; cases this
  · cases e : s.heap.get? I with
    | none => rfl
    | some o => have := S12.dom _ (by rw [e]; rfl); rw [hIs] at this; cases this

/-- the iterator is a new object behind k garbage objects -/
theorem CallIt.range1 {n : Int} (h0 : -(2 ^ 62) ≤ n) (h1 : n < 2 ^ 62) : CallIt G d (.ext (.type "range")) [.int n] H (span 0 n.toNat) (fun _ => True) H := .mk fun A s al fv vs Q hA R hf hvs k => by
  cases hf
  obtain ⟨v, rfl, ⟨t, rfl⟩⟩ := vrs1 hvs
  refine call_range_1 (wpAny_pyIter_range (IsRange.new ..) (small_one (by (first | lia | omega)) (by (first | lia | omega)) h0 h1) ?_)
  generalize hh : s.heap.push { cls := .type "range", data := .fields #[.int 0 s.toks, .int n t, .int 1 (s.toks + 1)] } = h2
  have k1 : ∀ b o, s.heap.get? b = some o → h2.get? b = some o := fun b o e => hh ▸ Heap.get?_push_of_some _ e
  have R2 := R.keeps k1
  have hsz : Builtin.Range.rangeSize 0 n 1 = ((n.toNat : Nat) : Int) := by rw [rangeSize_one]; split <;> (first | lia | omega)
  have S1 : Step al [] s { s with heap := h2.push { cls := .type "range_iterator", data := .fields #[rawInt 0, rawInt (Builtin.Range.rangeSize 0 n 1), rawInt 1] }, toks := s.toks + 1 + 1 } :=
    Step.of_keep fun b o e => Heap.get?_push_of_some _ (k1 b o e)
  refine k h2.objs.size _ [] _ (Feed.range (a := 0) (n := n.toNat)) ⟨?_, Nat.zero_le _⟩ (by rw [List.append_nil]; exact size_notIn R2) ?_ ?_ (by rw [List.append_nil]; exact R2.keeps fun b o e => Heap.get?_push_of_some _ e) S1 trivial
  · rw [hsz]
    have e1 : (0 : Int) + ((0 : Nat) : Int) * 1 = 0 := by simp
    have e2 : (((n.toNat : Nat) : Int) - ((0 : Nat) : Int)) = ((n.toNat : Nat) : Int) := by simp
    rw [e1, e2]
    exact Heap.get?_push_size _ rfl
  · cases e : G.h₀.get? h2.objs.size with
    | none => rfl
    | some o => have := R2.base _ _ e; rw [get_size] at this; cases this
  · cases e : s.heap.get? h2.objs.size with
    | none => rfl
    | some o => have := k1 _ _ e; rw [get_size] at this; cases this
theorem CallIt.range2 {a n : Int} (ha : -(2 ^ 62) ≤ a) (ha' : a < 2 ^ 62) (h0 : -(2 ^ 62) ≤ n) (h1 : n < 2 ^ 62) : CallIt G d (.ext (.type "range")) [.int a, .int n] H (span a (n - a).toNat) (fun _ => True) H := .mk fun A s al fv vs Q hA R hf hvs k => by
  cases hf
  obtain ⟨v, u, rfl, ⟨t, rfl⟩, ⟨t', rfl⟩⟩ := vrs2 hvs
  refine call_range_2 (wpAny_pyIter_range (IsRange.new ..) (small_one ha ha' h0 h1) ?_)
  generalize hh : s.heap.push { cls := .type "range", data := .fields #[.int a t, .int n t', .int 1 s.toks] } = h2
  have k1 : ∀ b o, s.heap.get? b = some o → h2.get? b = some o := fun b o e => hh ▸ Heap.get?_push_of_some _ e
  have R2 := R.keeps k1
  have hsz : Builtin.Range.rangeSize a n 1 = (((n - a).toNat : Nat) : Int) := by rw [rangeSize_one]; split <;> (first | lia | omega)
  have S1 : Step al [] s { s with heap := h2.push { cls := .type "range_iterator", data := .fields #[rawInt a, rawInt (Builtin.Range.rangeSize a n 1), rawInt 1] }, toks := s.toks + 1 } :=
    Step.of_keep fun b o e => Heap.get?_push_of_some _ (k1 b o e)
  refine k h2.objs.size _ [] _ (Feed.range (a := a) (n := (n - a).toNat)) ⟨?_, Nat.zero_le _⟩ (by rw [List.append_nil]; exact size_notIn R2) ?_ ?_ (by rw [List.append_nil]; exact R2.keeps fun b o e => Heap.get?_push_of_some _ e) S1 trivial
  · rw [hsz]
    have e1 : a + ((0 : Nat) : Int) * 1 = a := by simp
    have e2 : ((((n - a).toNat : Nat) : Int) - ((0 : Nat) : Int)) = (((n - a).toNat : Nat) : Int) := by simp
    rw [e1, e2]
    exact Heap.get?_push_size _ rfl
  · cases e : G.h₀.get? h2.objs.size with
    | none => rfl
    | some o => have := R2.base _ _ e; rw [get_size] at this; cases this
  · cases e : s.heap.get? h2.objs.size with
    | none => rfl
    | some o => have := k1 _ _ e; rw [get_size] at this; cases this

theorem It.str {e : Expr} {x : Str} (h1 : Ev G d env e r H (.str x) H₁) (ha : (x.cps.all fun c => decide (c < 128)) = true) : It G d env e r H (signs x) (fun _ => True) H₁ := .mk fun A s al Q hA R L k =>
  h1.run hA R L fun v s₁ e₁ R₁ L₁ V₁ S₁ => by
    obtain ⟨t, rfl⟩ := V₁
    refine wpAny_pyIter_ascii ha ?_
    have S₂ : Step (al ++ e₁) [] s₁ { s₁ with heap := s₁.heap.push { cls := .type "str_ascii_iterator", data := .fields #[.str x t, .int 0 0] } } := Step.pushG
    have fr : s.heap.get? s₁.heap.objs.size = none := by
      cases e : s.heap.get? s₁.heap.objs.size with
      | none => rfl
      | some o => have := S₁.dom _ (by rw [e]; rfl); rw [get_size] at this; cases this
    refine k s₁.heap.objs.size _ e₁ _ (Feed.str (t := t)) ⟨⟨_, Heap.get?_push_size _ rfl, rfl, rfl⟩, Nat.zero_le _⟩ (size_notIn R₁) (Nat.ne_of_gt L₁.lt) ?_ fr (R₁.keeps fun b o e => Heap.get?_push_of_some _ e) ?_ (by simpa using S₁.trans S₂) trivial
    · cases e : G.h₀.get? s₁.heap.objs.size with
      | none => rfl
      | some o => have := R₁.base _ _ e; rw [get_size] at this; cases this
    · have := L₁.step S₂
      simpa using this
end
end Mine

namespace Mine
open PySem PySem.W

/-- what is known of a def of the text -/
structure FnI (G : Gd) (a : Addr) (fd : FuncData) (body : List Stmt) (ns : List Str) : Prop where
  obj : ∃ o, G.h₀.get? a = some o ∧ o.data = .func fd
  body : fd.body = .stmts body
  nodup : ns.Nodup
  kinds : ∀ x ∈ ns, fd.scope.names.lookup x = some .local
  nodbg : ∀ x ∈ ns, (x == ("__debug__" : Str)) = false
  nocell : ∀ x ∈ fd.scope.names, x.2 ≠ .cell
  co : fd.scope.isCoroutine = false
  gen : fd.scope.isGenerator = false
  kind : fd.scope.kind = .function
  globals : fd.globals = mainGlobals
  builtins : fd.builtins = builtinsNs
structure FnInfo (G : Gd) (a : Addr) (fd : FuncData) (body : List Stmt) (ns : List Str) : Prop extends FnI G a fd body ns where
  code : G.h₀.CodeRec fd.code fd.qualname

abbrev PairP (al : List Addr) (p : Str × AV) (q : Str × Value) : Prop := p.1 = q.1 ∧ VR al p.2 q.2
theorem pairP_names {al : List Addr} : ∀ {ps : LV} {bs : List (Str × Value)}, Paired (PairP al) ps bs → bs.map (·.1) = ps.map (·.1)
  | _, _, .nil => rfl
  | _, _, .cons h t => by simp [h.1, pairP_names t]
theorem pairP_get {al : List Addr} : ∀ {ps : LV} {bs : List (Str × Value)}, Paired (PairP al) ps bs → (ps.map (·.1)).Nodup → ∀ p ∈ ps, ∃ v, bs.reverse.lookup p.1 = some v ∧ VR al p.2 v
  | _, _, .nil, _, p, h => by cases h
  | _ :: ps, b :: bs, .cons h t, nd, p, hp => by
    simp only [List.map_cons, List.nodup_cons] at nd
    rw [List.reverse_cons, List.lookup_append]
    rcases List.mem_cons.mp hp with rfl | hp
    · have hn : bs.reverse.lookup p.1 = none := by
        rw [List.lookup_eq_none_iff]
        intro q hq
        have h1 : q.1 ∈ bs.map (·.1) := List.mem_map_of_mem (List.mem_reverse.mp hq)
        rw [pairP_names t] at h1
        simp only [bne_iff_ne, ne_eq]
        first
          | (intro e; rw [← e] at h1; exact nd.1 h1)
          | (exact fun e => nd.1 (e ▸ h1))
      rw [hn]
      refine ⟨b.2, ?_, h.2⟩
      rw [h.1]
      obtain ⟨x, y⟩ := b
      simp [List.lookup]
    · obtain ⟨v, hv, q⟩ := pairP_get t nd.2 p hp
      exact ⟨v, by rw [hv]; rfl, q⟩

section
variable {G : Gd} {d : Nat} {env : Env} {r r' r₁ r₂ : LV} {H H' H₁ H₂ H₃ H₄ : List AO}

def AF.val : AF → AV
  | .ret a => a
  | _ => .none

/-- the arguments meet the parameters -/
def Binds (G : Gd) (fd : FuncData) (as : List AV) (ps : LV) : Prop :=
  ∀ (s : Shared) (al : List Addr) (vs : List Value), (∀ b o, G.h₀.get? b = some o → s.heap.get? b = some o) → VRs al as vs → ∃ bs : List (Str × Value), BindsTo s fd ⟨vs, []⟩ bs ∧ Paired (PairP al) ps bs

theorem CallT.defX {a : Addr} {fd : FuncData} {body : List Stmt} {ns : List Str} {as : List AV} {ps ls : LV} {f : AF} (hG : G.Ok) (F : FnI G a fd body ns) (hcode : ∀ al h, Rel G.bs al H h → h.CodeRec fd.code fd.qualname) (hb : Binds G fd as ps) (hn : (ps ++ ls).map (·.1) = ns) (hu : ∀ p ∈ ls, p.2 = .unset)
    (h : ∀ L, EnvOK G (callEnv fd L a) → ∃ rE, Ex G d (callEnv fd L a) body (ps ++ ls) H f rE H') : CallT G (d + 1) (.ext (.ref a)) as H f.val H' := .mk fun A s al fv vs Q hA R hf hvs k => by
  cases hf
  obtain ⟨o, ho, hd⟩ := F.obj
  obtain ⟨bs, hbs, P⟩ := hb s al vs R.base hvs
  have nd : ((ps ++ ls).map (·.1)).Nodup := hn ▸ F.nodup
  have ndp : (ps.map (·.1)).Nodup := by
    rw [List.map_append] at nd; exact (List.nodup_append.mp nd).1
  have hin : ∀ p ∈ ps ++ ls, p.1 ∈ ns := fun p hp => hn ▸ List.mem_map_of_mem hp
  have hL0 : G.h₀.get? s.heap.objs.size = none := by
    cases e : G.h₀.get? s.heap.objs.size with
    | none => rfl
    | some o => have := R.base _ _ e; rw [get_size] at this; cases this
  refine wpAny_call (codeAny_call_def hA.room (R.base _ _ ho) hd (hG.nolimit.keeps R.base) (hcode _ _ R) F.body hbs F.nocell ?_ (fun h₁ hns hk => ?_) F.co F.gen F.kind)
  · intro x hx
    have : x.1 ∈ bs.map (·.1) := List.mem_map_of_mem hx
    rw [pairP_names P] at this
    obtain ⟨p, hp, e⟩ := List.mem_map.mp this
    rw [← e]
    exact F.kinds _ (hin p (List.mem_append_left _ hp))
  · have hE : EnvOK G (callEnv fd s.heap.objs.size a) := ⟨F.kind, F.globals, F.builtins, hL0⟩
    have L₀ : LR (callEnv fd s.heap.objs.size a) al (ps ++ ls) h₁ := by
      refine ⟨nd, fun p hp => F.kinds _ (hin p hp), fun p hp => F.nodbg _ (hin p hp), size_notIn R, _, hns, fun p hp hk => ?_⟩
      rcases List.mem_append.mp hp with hp | hp
      · exact pairP_get P ndp p hp
      · rw [hu p hp] at hk; cases hk
    obtain ⟨rE, hEx⟩ := h _ hE
    refine wpAny_mono (hEx.go (A.deeper (callEnv fd s.heap.objs.size a)) { s with heap := h₁, toks := s.toks + bs.length } al (fun fl s' => Q (match fl with | .ret v => v | _ => .none) s') (hA.deeper _) (R.keeps hk) L₀ fun fl s' ext R' L' F' S' => ?_) (fun fl s' q => ?_) fun _ _ e => e.elim
    · have S : Step al ext s s' := by
        refine ⟨fun b o hb e => S'.keep b o hb (fun x => ?_) (hk b o e), fun b e => S'.dom b (dom_of_keep hk b e), fun b hb => ?_, S'.gens, S'.os⟩
        · rw [x] at e
          have : s.heap.get? s.heap.objs.size = some o := e
          rw [get_size] at this; cases this
        · cases e : s.heap.get? b with
          | none => rfl
          | some o => have := S'.new b hb; rw [show ({ s with heap := h₁, toks := s.toks + bs.length } : Shared).heap.get? b = h₁.get? b from rfl, hk b o e] at this; cases this
      refine k _ s' ext R' ?_ S
      cases f with
      | next => cases F'; rfl
      | brk => cases F'; rfl
      | cont => cases F'; rfl
      | ret a => obtain ⟨v, rfl, q⟩ := F'; exact q
    · exact q

theorem CallT.def {a : Addr} {fd : FuncData} {body : List Stmt} {ns : List Str} {as : List AV} {ps ls : LV} {f : AF} (hG : G.Ok) (F : FnInfo G a fd body ns) (hb : Binds G fd as ps) (hn : (ps ++ ls).map (·.1) = ns) (hu : ∀ p ∈ ls, p.2 = .unset)
    (h : ∀ L, EnvOK G (callEnv fd L a) → ∃ rE, Ex G d (callEnv fd L a) body (ps ++ ls) H f rE H') : CallT G (d + 1) (.ext (.ref a)) as H f.val H' :=
  CallT.defX hG F.toFnI (fun _ _ R => F.code.keeps R.base) hb hn hu h

theorem len1 {P : List Value → Prop} (h : ∀ a, P [a]) (vs : List Value) (e : vs.length = 1) : P vs := by
  obtain ⟨a, rfl⟩ := List.length_eq_one_iff.mp e
  exact h a
theorem len2 {P : List Value → Prop} (h : ∀ a b, P [a, b]) : ∀ vs : List Value, vs.length = 2 → P vs
  | [], e => by cases e
  | a :: vs, e => len1 (P := fun l => P (a :: l)) (h a) vs (Nat.succ.inj e)
theorem len3 {P : List Value → Prop} (h : ∀ a b c, P [a, b, c]) : ∀ vs : List Value, vs.length = 3 → P vs
  | [], e => by cases e
  | a :: vs, e => len2 (P := fun l => P (a :: l)) (h a) vs (Nat.succ.inj e)
theorem Binds.plain {fd : FuncData} {as : List AV} {names : List Str} (hl : names.length = as.length) (hb : ∀ vs : List Value, vs.length = names.length → bindArgs fd ⟨vs, []⟩ = pure (names.zip vs)) : Binds G fd as (names.zip as) := fun s al vs hk hvs => by
  have e : vs.length = names.length := by rw [← hvs.length, hl]
  refine ⟨_, BindsTo.of_eq (hb vs e), ?_⟩
  clear hb e
  induction hvs generalizing names with
  | nil => cases names <;> simpa using Paired.nil
  | cons h t ih =>
    cases names with
    | nil => simp at hl
    | cons n names => exact .cons ⟨rfl, h⟩ (ih (by simpa using hl))
end
end Mine

namespace Mine
open PySem PySem.W

theorem comp2_0 (elt t₀ i₀ t₁ i₁ : Expr) (scope : Scope) (pos : Pos) (it acc : Value) (env : Env) :
    compTurn (.ListComp elt [⟨t₀, i₀, [], 0⟩, ⟨t₁, i₁, [], 0⟩] scope pos) 0 it acc env = (standAt i₀.pos >>= fun _ => pyNext it >>= fun r => match r with
      | none => pure (.done .next)
      | some v => letOwnedTupleGo t₀ it v >>= fun _ => assign t₀ env v >>= fun _ =>
        (eval i₁ env >>= fun x => standAt i₁.pos >>= fun _ => foldedSetIterable i₁ env x >>= fun x => (holding [x] (pyIter x)) >>= fun y => runOwn (.compStart (.ListComp elt [⟨t₀, i₀, [], 0⟩, ⟨t₁, i₁, [], 0⟩] scope pos) 1 y acc env) env >>= fun _ => pure ()) >>= fun _ =>
          again (.compLoop (.ListComp elt [⟨t₀, i₀, [], 0⟩, ⟨t₁, i₁, [], 0⟩] scope pos) 0 it acc env)) := by
  unfold compTurn
  simp only [bind_assoc]
  rfl
theorem comp2_1 (elt t₀ i₀ t₁ i₁ : Expr) (scope : Scope) (pos : Pos) (it acc : Value) (env : Env) :
    compTurn (.ListComp elt [⟨t₀, i₀, [], 0⟩, ⟨t₁, i₁, [], 0⟩] scope pos) 1 it acc env = (standAt i₁.pos >>= fun _ => pyNext it >>= fun r => match r with
      | none => pure (.done .next)
      | some v => letOwnedTupleGo t₁ it v >>= fun _ => assign t₁ env v >>= fun _ =>
        (eval elt env >>= fun x => call (.builtin "list.append") [acc, x] >>= fun _ => pure ()) >>= fun _ =>
          again (.compLoop (.ListComp elt [⟨t₀, i₀, [], 0⟩, ⟨t₁, i₁, [], 0⟩] scope pos) 1 it acc env)) := by rfl
/-- one turn's yield into the growing list at D -/
structure Emit (G : Gd) (d : Nat) (env : Env) (D : Addr) (tail : Sem Unit) (p : LV) (K : List AO) (as : List AV) (p₁ : LV) (K₁ : List AO) : Prop where
  go : ∀ (A : Around) (s : Shared) (al : List Addr) (ys : Array Value) (acc : List AV) (Q : Unit → Shared → Prop), AOK d A → Rel G.bs al K s.heap → LR env al p s.heap → s.heap.PlainList D ys → VRs al acc ys.toList → D ∉ al → D ≠ env.locals → G.h₀.get? D = none → acc.length + as.length ≤ 1000000 →
    (∀ s' ext ys', Rel G.bs (al ++ ext) K₁ s'.heap → LR env (al ++ ext) p₁ s'.heap → s'.heap.PlainList D ys' → VRs (al ++ ext) (acc ++ as) ys'.toList → StepL env.locals (D :: al) ext s s' → D ∉ al ++ ext → Q () s') →
    wpAny (model G.prog G.w) A tail Q (fun _ _ => False) s

inductive CL (B : AV → LV → List AO → List AV → LV → List AO → Prop) : List AV → LV → List AO → List AV → LV → List AO → Prop
  | nil {p : LV} {K : List AO} : CL B [] p K [] p K
  | cons {v : AV} {vs as bs : List AV} {p p₁ p₂ : LV} {K K₁ K₂ : List AO} : B v p K as p₁ K₁ → CL B vs p₁ K₁ bs p₂ K₂ → CL B (v :: vs) p K (as ++ bs) p₂ K₂

def TurnC (G : Gd) (d : Nat) (env : Env) (D : Addr) (target : Expr) (tail : Sem Unit) (Ok : List AO → Prop) (v : AV) (p : LV) (K : List AO) (as : List AV) (p₁ : LV) (K₁ : List AO) : Prop :=
  ∃ q J, Asg G d env target v p K q J ∧ Emit G d env D tail q J as p₁ K₁ ∧ Ok K₁

section
variable {G : Gd} {d : Nat} {env : Env} {r r' r₁ r₂ p p₁ p' : LV} {H H' H₁ H₂ H₃ H₄ K K₁ K' : List AO}

theorem StepL.wide {L D : Addr} {al ext : List Addr} {s s' : Shared} (h : StepL L al ext s s') : StepL L (D :: al) ext s s' :=
  ⟨fun b o hb hL e => h.keep b o (fun x => hb (List.mem_cons_of_mem _ x)) hL e, h.dom, h.new, h.gens, h.os⟩
theorem plain_keep {h h' : Heap} {D : Addr} {ys : Array Value} (x : h.PlainList D ys) (k : ∀ o, h.get? D = some o → h'.get? D = some o) : h'.PlainList D ys := let ⟨n, e⟩ := x; ⟨n, k _ e⟩
theorem plain_some {h : Heap} {D : Addr} {ys : Array Value} (x : h.PlainList D ys) : (h.get? D).isSome = true := let ⟨n, e⟩ := x; by rw [e]; rfl
theorem notIn_ext {al ext : List Addr} {D : Addr} {s : Shared} (h : D ∉ al) (hs : (s.heap.get? D).isSome = true) (hn : ∀ a ∈ ext, s.heap.get? a = none) : D ∉ al ++ ext := fun hm => by
  rcases List.mem_append.mp hm with hm | hm
  · exact h hm
  · rw [hn D hm] at hs; cases hs

theorem Emit.one {D : Addr} {elt : Expr} {a : AV} (h : Ev G d env elt p K a K₁) : Emit G d env D (eval elt env >>= fun x => call (.builtin "list.append") [.ref D, x] >>= fun _ => pure ()) p K [a] p K₁ := .mk fun A s al ys acc Q hA R L hP hV hD hDL hD0 hz k => by
  refine wpAny_bind (h.run hA R L fun v s₁ e₁ R₁ L₁ V₁ S₁ => ?_)
  have hP₁ : s₁.heap.PlainList D ys := plain_keep hP fun o e => S₁.keep _ _ hD e
  have hD₁ : D ∉ al ++ e₁ := notIn_ext hD (plain_some hP) S₁.new
  have hsz : ys.size ≤ sizeLine := by
    have h1 := hV.length
    simp only [List.length_singleton] at hz
    have e : ys.size = acc.length := by simpa using h1.symm
    rw [e]; exact Nat.le_trans (Nat.le_of_succ_le hz) (by decide)
  refine wpAny_bind (wpAny_list_append_plain hP₁ (fun h' hP' hs => wpAny_pure ?_) hsz)
  refine k _ e₁ _ (R₁.other (h' := h') hD₁ hD0 hs.extBut) (L₁.other (h' := h') hDL hs.extBut) hP' (by simpa using paired_app (VRs.mono (e := e₁) hV) (.cons V₁ .nil)) ?_ hD₁
  have T : StepL env.locals (D :: (al ++ e₁)) [] s₁ { s₁ with heap := h' } :=
    ⟨fun b o hb _ e => (hs.2 b (fun x => hb (x ▸ List.mem_cons_self))).trans e, (fun b e => by
      by_cases hb : b = D
      · subst hb; exact plain_some hP'
      · show (h'.get? b).isSome = true; rw [hs.2 b hb]; exact e), (fun a ha => by cases ha), rfl, rfl⟩
  simpa using (S₁.toL (L := env.locals)).wide.trans T

/-- the loop of a comprehension at one of its depths -/
theorem comp_loop {e target : Expr} {depth : Nat} {D I : Addr} {tail : Sem Unit} {q : Pos} {xs : List AV} {Ok : List AO → Prop} {St : Nat → List Addr → Heap → Prop} {bs : List AV} {R : Result → Shared → Prop} {A : Around} {s : Shared} {al : List Addr} {ys : Array Value} {acc : List AV}
    (hd : (model G.prog G.w).den (.compLoop e depth (.ref I) (.ref D) env) = (compTurn e depth (.ref I) (.ref D) env).onRaise (fun x => do noteFrame x env; theTreesLotGoes x))
    (hu : A.under (.compLoop e depth (.ref I) (.ref D) env) = A) (hq : (Code.compLoop e depth (.ref I) (.ref D) env).quiet = true)
    (hc : compTurn e depth (.ref I) (.ref D) env = (standAt q >>= fun _ => pyNext (.ref I) >>= fun r => match r with
      | none => pure (.done .next)
      | some v => letOwnedTupleGo target (.ref I) v >>= fun _ => PySem.assign target env v >>= fun _ => tail >>= fun _ => again (.compLoop e depth (.ref I) (.ref D) env)))
    (ht : ∀ v, letOwnedTupleGo target (.ref I) v = pure ())
    (F : Feed G I xs Ok St) (lp : CL (TurnC G d env D target tail Ok) xs p K bs p' K') (hA : AOK d A) (R₀ : Rel G.bs al K s.heap) (L₀ : LR env al p s.heap) (hP : s.heap.PlainList D ys) (hV : VRs al acc ys.toList)
    (st : St 0 al s.heap) (ok : Ok K) (hD : D ∉ al) (hDL : D ≠ env.locals) (hD0 : G.h₀.get? D = none) (hI : I ∉ al) (hIL : I ≠ env.locals) (hID : I ≠ D) (hI0 : G.h₀.get? I = none) (hz : acc.length + bs.length ≤ 1000000)
    (k : ∀ s' ext ys', Rel G.bs (al ++ ext) K' s'.heap → LR env (al ++ ext) p' s'.heap → s'.heap.PlainList D ys' → VRs (al ++ ext) (acc ++ bs) ys'.toList →
      (∀ b o, b ∉ al → b ≠ env.locals → b ≠ D → b ≠ I → s.heap.get? b = some o → s'.heap.get? b = some o) → (∀ b, b ≠ I → (s.heap.get? b).isSome = true → (s'.heap.get? b).isSome = true) → (∀ a ∈ ext, a ≠ I → s.heap.get? a = none) → I ∉ ext → s'.gens = s.gens → s'.os = s.os → D ∉ al ++ ext → R (.ok .next) s') :
    codeAny (model G.prog G.w) A (.compLoop e depth (.ref I) (.ref D) env) R s := by
  refine codeAny_loop hq (fun n s' => ∃ ext p₂ K₂ i ys' acc' bs', Rel G.bs (al ++ ext) K₂ s'.heap ∧ LR env (al ++ ext) p₂ s'.heap ∧ s'.heap.PlainList D ys' ∧ VRs (al ++ ext) acc' ys'.toList ∧ St i (al ++ ext) s'.heap ∧ Ok K₂ ∧ D ∉ al ++ ext ∧ I ∉ al ++ ext ∧
      CL (TurnC G d env D target tail Ok) (xs.drop i) p₂ K₂ bs' p' K' ∧ acc' ++ bs' = acc ++ bs ∧ n = xs.length + 1 - i ∧ i ≤ xs.length ∧
      (∀ b o, b ∉ al → b ≠ env.locals → b ≠ D → b ≠ I → s.heap.get? b = some o → s'.heap.get? b = some o) ∧ (∀ b, b ≠ I → (s.heap.get? b).isSome = true → (s'.heap.get? b).isSome = true) ∧ (∀ a ∈ ext, a ≠ I → s.heap.get? a = none) ∧ s'.gens = s.gens ∧ s'.os = s.os) ?_ (xs.length + 1)
    ⟨[], p, K, 0, ys, acc, bs, by simpa using R₀, by simpa using L₀, hP, by simpa using hV, by simpa using st, ok, by simpa using hD, by simpa using hI, by simpa using lp, rfl, rfl, Nat.zero_le _, fun _ _ _ _ _ _ e => e, fun _ _ e => e, (fun a ha => by cases ha), rfl, rfl⟩
  rintro n s' ⟨ext, p₂, K₂, i, ys', acc', bs', R₂, L₂, hP₂, hV₂, st₂, ok₂, hD₂, hI₂, lp₂, hacc, rfl, hile, kp, dm, nw, hg, ho⟩
  rw [hd, hu]
  refine wpAny_noted ?_
  rw [hc]
  refine wpAny_bind (wpAny_standAt (wpAny_bind ?_))
  by_cases hi : i < xs.length
  · have hx : xs[i]? = some xs[i] := by simp [hi]
    refine wpAny_mono (F.item A d i xs[i] s' _ K₂ (fun r s₁ => _) hA hx st₂ R₂ ok₂ hI₂ fun v h' tk hv st₃ hs₃ => ?_) (fun _ _ h => h) (fun _ _ h => h.elim)
    rw [List.drop_eq_getElem_cons hi] at lp₂
    cases lp₂ with
    | @cons _ _ as cs _ p₃ _ _ K₃ _ b lp' =>
      obtain ⟨q', J, asg, em, okK⟩ := b
      have R₃ := R₂.other (h' := h') hI₂ hI0 hs₃
      have L₃ := L₂.other (h' := h') hIL hs₃
      have hP₃ : h'.PlainList D ys' := plain_keep hP₂ fun o e => hs₃ _ _ (Ne.symm hID) e
      have hIs : (h'.get? I).isSome = true := F.alive _ _ _ st₃
      refine wpAny_bind (wpAny_of_eq (ht v) ?_)
      refine wpAny_bind ?_
      have fin : ∀ {W : Unit → Shared → Prop} {P : Value → Shared → Prop}, wpAny (model G.prog G.w) A (PySem.assign target env v) (fun _ s₂ => wpAny (model G.prog G.w) A tail W (fun _ _ => False) s₂) (fun _ _ => False) { s' with heap := h', toks := tk } →
          wpAny (model G.prog G.w) A (PySem.assign target env v) (fun _ s₂ => wpAny (model G.prog G.w) A tail W P s₂) P { s' with heap := h', toks := tk } :=
        fun hh => wpAny_mono hh (fun _ _ h => wpAny_mono h (fun _ _ h => h) fun _ _ h => h.elim) fun _ _ h => h.elim
      refine wpAny_mono (fin (W := fun _ s₂ => _) (asg.go A _ _ v _ hA R₃ L₃ hv fun s₄ e₄ R₄ L₄ S₄ => ?_)) (fun _ _ h => wpAny_bind h) fun _ _ h => h
      have hD₄ : D ∉ (al ++ ext) ++ e₄ := notIn_ext hD₂ (plain_some hP₃) S₄.new
      have hP₄ : s₄.heap.PlainList D ys' := plain_keep hP₃ fun o e => S₄.keep _ _ hD₂ hDL e
      have hlen : acc'.length + as.length ≤ 1000000 := by
        have := congrArg List.length hacc
        simp only [List.length_append] at this
        (first | lia | omega)
      refine em.go A s₄ _ ys' acc' _ hA R₄ L₄ hP₄ hV₂.mono hD₄ hDL hD0 hlen fun s₅ e₅ ys₅ R₅ L₅ hP₅ hV₅ S₅ hD₅ => ?_
      have T : StepL env.locals (D :: (al ++ ext)) (e₄ ++ e₅) { s' with heap := h', toks := tk } s₅ := S₄.wide.trans (by simpa using S₅)
      have hI5 : I ∉ (al ++ ext) ++ (e₄ ++ e₅) := notIn_ext hI₂ hIs T.new
      have st5 : St (i + 1) ((al ++ ext) ++ (e₄ ++ e₅)) s₅.heap := F.stay _ _ _ _ _ st₃ fun o ho => T.keep I o (fun hm => by
        rcases List.mem_cons.mp hm with hm | hm
        · exact hID hm
        · exact hI₂ hm) hIL ho
      refine wpAny_pure ⟨rfl, _, ?_, ext ++ (e₄ ++ e₅), p₃, K₃, i + 1, ys₅, acc' ++ as, cs, by simpa only [List.append_assoc] using R₅, by simpa only [List.append_assoc] using L₅, hP₅, by simpa only [List.append_assoc] using hV₅, by simpa only [List.append_assoc] using st5, okK, by simpa only [List.append_assoc] using hD₅, by simpa only [List.append_assoc] using hI5, lp', by rw [List.append_assoc]; exact hacc, rfl, hi, ?_, ?_, ?_, T.gens.trans hg, T.os.trans ho⟩
      · (first | lia | omega)
      · intro b o hb1 hb2 hb3 hb4 e
        have e1 := kp b o hb1 hb2 hb3 hb4 e
        refine T.keep b o (fun hm => ?_) hb2 (hs₃ b o hb4 e1)
        rcases List.mem_cons.mp hm with hm | hm
        · exact hb3 hm
        · rcases List.mem_append.mp hm with hm | hm
          · exact hb1 hm
          · rw [nw b hm hb4] at e; cases e
      · intro b hb e
        refine T.dom b ?_
        obtain ⟨o, ho⟩ := Option.isSome_iff_exists.mp (dm b hb e)
        show (h'.get? b).isSome = true
        rw [hs₃ b o hb ho]; rfl
      · intro a ha haI
        rcases List.mem_append.mp ha with ha | ha
        · exact nw a ha haI
        · have q := T.new a ha
          cases e : s.heap.get? a with
          | none => rfl
          | some o =>
            obtain ⟨o', ho'⟩ := Option.isSome_iff_exists.mp (dm a haI (by rw [e]; rfl))
            rw [show ({ s' with heap := h', toks := tk } : Shared).heap.get? a = h'.get? a from rfl, hs₃ a o' haI ho'] at q; cases q
  · have hnil : xs.drop i = [] := List.drop_eq_nil_of_le (by (first | lia | omega))
    rw [hnil] at lp₂
    cases lp₂
    refine wpAny_mono (F.done A d i s' _ K' (fun r s₁ => _) hA (by (first | lia | omega)) st₂ R₂ ok₂ fun h' tk he => ?_) (fun _ _ h => h) (fun _ _ h => h.elim)
    refine wpAny_pure ?_
    rw [List.append_nil] at hacc
    subst hacc
    exact k _ ext ys' (R₂.other hI₂ hI0 he) (L₂.other hIL he) (plain_keep hP₂ fun o e => he _ _ (Ne.symm hID) e) hV₂
      (fun b o h1 h2 h3 h4 e => he b o h4 (kp b o h1 h2 h3 h4 e)) (fun b hb e => by
        obtain ⟨o, ho⟩ := Option.isSome_iff_exists.mp (dm b hb e)
        show (h'.get? b).isSome = true
        rw [he b o hb ho]; rfl) nw (fun hm => hI₂ (List.mem_append_right _ hm)) hg ho hD₂
end
end Mine

namespace Mine
open PySem PySem.W

/-- the block of a comprehension, run on an iterator -/
structure CRun (G : Gd) (d : Nat) (env : Env) (scope : Scope) (e : Expr) (p : LV) (xs : List AV) (Ok : List AO → Prop) (K : List AO) (as : List AV) (K' : List AO) : Prop where
  go : ∀ (A : Around) (s : Shared) (al : List Addr) (I C D : Addr) (St : Nat → List Addr → Heap → Prop) (R : Result → Shared → Prop), AOK d A → EnvOK G (compEnv scope C env) → Rel G.bs al K s.heap → LR (compEnv scope C env) al p s.heap → Feed G I xs Ok St → St 0 al s.heap → Ok K → s.heap.PlainList D #[] →
    D ∉ al → D ≠ C → G.h₀.get? D = none → I ∉ al → I ≠ C → I ≠ D → G.h₀.get? I = none →
    (∀ s' ext ys p', Rel G.bs (al ++ ext) K' s'.heap → LR (compEnv scope C env) (al ++ ext) p' s'.heap → s'.heap.PlainList D ys → VRs (al ++ ext) as ys.toList →
      (∀ b o, b ∉ al → b ≠ C → b ≠ D → b ≠ I → s.heap.get? b = some o → s'.heap.get? b = some o) → (∀ b, b ≠ I → (s.heap.get? b).isSome = true → (s'.heap.get? b).isSome = true) → (∀ a ∈ ext, a ≠ I → s.heap.get? a = none) → I ∉ ext → s'.gens = s.gens → s'.os = s.os → D ∉ al ++ ext → R (.ok .next) s') →
    codeAny (model G.prog G.w) A (.compStart e 0 (.ref I) (.ref D) (compEnv scope C env)) R s

section
variable {G : Gd} {d : Nat} {env : Env} {r r' r₁ r₂ p p₁ p' : LV} {H H' H₁ H₂ H₃ H₄ K K₁ K' : List AO}

theorem CRun.one {elt target iter : Expr} {scope : Scope} {pos : Pos} {xs as : List AV} {Ok : List AO → Prop} (hz : as.length ≤ 1000000)
    (h : ∀ C D, EnvOK G (compEnv scope C env) → ∃ p', CL (TurnC G d (compEnv scope C env) D target (eval elt (compEnv scope C env) >>= fun x => call (.builtin "list.append") [.ref D, x] >>= fun _ => pure ()) Ok) xs p K as p' K')
    (ht : ∀ it v, letOwnedTupleGo target it v = pure () := by intro _ _; rfl) :
    CRun G d env scope (.ListComp elt [⟨target, iter, [], 0⟩] scope pos) p xs Ok K as K' := .mk fun A s al I C D St R hA hE R₀ L₀ F st ok hP hD hDC hD0 hI hIC hID hI0 k => by
  obtain ⟨p', lp⟩ := h C D hE
  have loop : codeAny (model G.prog G.w) A (.compLoop (.ListComp elt [⟨target, iter, [], 0⟩] scope pos) 0 (.ref I) (.ref D) (compEnv scope C env)) R s :=
    comp_loop (acc := []) (ys := #[]) rfl rfl rfl (compTurn_list1 elt target iter scope pos (.ref I) (.ref D) _) (ht _) F lp hA R₀ L₀ hP .nil st ok hD hDC hD0 hI hIC hID hI0 (by simpa using hz)
      fun s' ext ys R' L' hP' hV' kp dm nw hn hg ho hD' => k s' ext ys p' R' L' hP' (by simpa using hV') kp dm nw hn hg ho hD'
  exact codeAny_compStart_list loop (wpAny_mono (F.self A d 0 s al (fun it' s' => codeAny (model G.prog G.w) A (.compLoop (.ListComp elt [⟨target, iter, [], 0⟩] scope pos) 0 it' (.ref D) (compEnv scope C env)) R s') hA st loop) (fun _ _ h => h) fun _ _ h => h.elim)

theorem Rel.adopt {h₀ : Base} {h : Heap} {al : List Addr} {D : Addr} {o : Obj} {x : AO} (R : Rel h₀ al H h) (hD : D ∉ al) (hD0 : h₀.get? D = none) (ho : h.get? D = some o) (q : OR al o x) : Rel h₀ (al ++ [D]) (H ++ [x]) h where
  pre := R.pre.trans (List.prefix_append _ _)
  base := R.base
  apart a ha := by
    rcases List.mem_append.mp ha with ha | ha
    · exact R.apart a ha
    · rw [List.mem_singleton.mp ha]; exact hD0
  nodup := by
    rw [List.nodup_append]
    refine ⟨R.nodup, by simp, fun a ha b hb e => ?_⟩
    rw [List.mem_singleton.mp hb] at e
    subst e; exact hD ha
  len := by simp [R.len]
  obj i a y e1 e2 := by
    by_cases hi : i < al.length
    · rw [List.getElem?_append_left hi] at e1
      rw [List.getElem?_append_left (by rw [← R.len]; exact hi)] at e2
      obtain ⟨o', ho', q'⟩ := R.obj i a y e1 e2
      exact ⟨o', ho', q'.mono⟩
    · have hi' : i = al.length := by
        have := (List.getElem?_eq_some_iff.mp e1).1
        simp at this; (first | lia | omega)
      subst hi'
      simp at e1
      rw [R.len] at e2
      simp at e2
      subst e1 e2
      exact ⟨o, ho, q.mono⟩

theorem none_of {G : Gd} {al : List Addr} {K : List AO} {h : Heap} {D : Addr} (R : Rel G.bs al K h) (hD : h.get? D = none) : G.h₀.get? D = none := by
  cases e : G.h₀.get? D with
  | none => rfl
  | some o => have := R.base _ _ e; rw [hD] at this; cases this

/-- from the first iterable to the block's end -/
theorem comp_core {e iter : Expr} {scope : Scope} {xs as : List AV} {Ok : List AO → Prop} {A : Around} {s : Shared} {al : List Addr} {RR : Value → Env → Result → Shared → Prop} {E : Value → Shared → Prop}
    (hkind : scope.kind = .function) (hcell : ∀ y ∈ scope.names, y.2 ≠ .cell) (hp : (p.map (·.1)).Nodup) (hpk : ∀ q ∈ p, scope.names.lookup q.1 = some .local) (hpd : ∀ q ∈ p, (q.1 == ("__debug__" : Str)) = false) (hpu : ∀ q ∈ p, q.2 = .unset)
    (hE : EnvOK G env) (h1 : It G d env iter r H xs Ok H₁) (h2 : CRun G d env scope e p xs Ok H₁ as H₂) (hA : AOK d A) (R₀ : Rel G.bs al H s.heap) (L₀ : LR env al r s.heap)
    (k : ∀ s' C D ext ys m, Rel G.bs (al ++ ext) H₂ s'.heap → LR env (al ++ ext) r s'.heap → s'.heap.PlainList D ys → VRs (al ++ ext) as ys.toList → D ∉ al ++ ext → D ≠ C → D ≠ env.locals → C ∉ al ++ ext → C ≠ env.locals → G.h₀.get? D = none → G.h₀.get? C = none → s.heap.get? D = none → s.heap.get? C = none → s'.heap.Ns C m → Step al ext s s' → RR (.ref D) (compEnv scope C env) (.ok .next) s') :
    wpAny (model G.prog G.w) A (eval iter env) (fun x s₁ => wpAny (model G.prog G.w) A (pyIter x) (fun it s₂ => wpAny (model G.prog G.w) A (newList []) (fun acc s₃ =>
      wpAny (model G.prog G.w) A (newFunctionEnv scope env.globals [] [] env.qual none .none (some env)) (fun cenv s₄ =>
        codeAny (model G.prog G.w) A (.compStart e 0 it acc { cenv with scope := scope }) (RR acc { cenv with scope := scope }) s₄) E s₃) E s₂) E s₁) E s := by
  refine wpAny_mono (h1.go A s al (fun it s₂ => wpAny (model G.prog G.w) A (newList []) (fun acc s₃ =>
      wpAny (model G.prog G.w) A (newFunctionEnv scope env.globals [] [] env.qual none .none (some env)) (fun cenv s₄ =>
        codeAny (model G.prog G.w) A (.compStart e 0 it acc { cenv with scope := scope }) (RR acc { cenv with scope := scope }) s₄) E s₃) E s₂) hA R₀ L₀ fun I s₂ e₂ St F st hI hIL hI0 hIs R₂ L₂ S₂ ok => ?_) (fun _ _ h => wpAny_mono h (fun _ _ h => h) fun _ _ h => h.elim) fun _ _ h => h.elim
  refine wpAny_newObj_type (wpAny_newFunctionEnv hcell (by intro y hy; cases hy) (fun h₁ hns₁ hsb₁ => ?_) hkind)
  dsimp only at hns₁ hsb₁ ⊢
  generalize hH2 : s₂.heap.push { cls := .type "list", dict := none, data := .seq ([] : List Value).toArray } = J at hns₁ hsb₁ ⊢
  have hDs : s₂.heap.get? s₂.heap.objs.size = none := get_size _
  have kJ : ∀ b o, s₂.heap.get? b = some o → J.get? b = some o := fun b o e => hH2 ▸ Heap.get?_push_of_some _ e
  have hJD : J.get? s₂.heap.objs.size = some { cls := .type "list", dict := none, data := .seq ([] : List Value).toArray } := hH2 ▸ Heap.get?_push_size _ rfl
  have hCJ : J.get? J.objs.size = none := get_size _
  have old : ∀ b o, J.get? b = some o → h₁.get? b = some o := fun b o e => (hsb₁.2 b (fun x => by subst x; rw [hCJ] at e; cases e)).trans (Heap.get?_push_of_some _ e)
  have hDC : s₂.heap.objs.size ≠ J.objs.size := fun x => by rw [x] at hJD; rw [hCJ] at hJD; cases hJD
  have k1 : ∀ b o, s₂.heap.get? b = some o → h₁.get? b = some o := fun b o e => old b o (kJ b o e)
  have hC2 : s₂.heap.get? J.objs.size = none := by
    cases q : s₂.heap.get? J.objs.size with
    | none => rfl
    | some o => have := kJ _ _ q; rw [hCJ] at this; cases this
  have hI2 : (s₂.heap.get? I).isSome = true := F.alive _ _ _ st
  have neI : ∀ b, s₂.heap.get? b = none → I ≠ b := fun b hb x => by subst x; rw [hb] at hI2; cases hI2
  have neL : ∀ b, s₂.heap.get? b = none → b ≠ env.locals := fun b hb x => by have := L₂.some; rw [← x, hb] at this; cases this
  have nA : ∀ b, s₂.heap.get? b = none → b ∉ al ++ e₂ := fun b hb hm => by
    obtain ⟨i, hi⟩ := List.getElem?_of_mem hm
    have hlt : i < H₁.length := by rw [← R₂.len]; exact (List.getElem?_eq_some_iff.mp hi).1
    obtain ⟨o, ho, _⟩ := R₂.obj i b H₁[i] hi (by simp [hlt])
    rw [hb] at ho; cases ho
  have hE' : EnvOK G (compEnv scope J.objs.size env) := ⟨hkind, hE.globals, hE.builtins, none_of R₂ hC2⟩
  have hL' : LR (compEnv scope J.objs.size env) (al ++ e₂) p h₁ := ⟨hp, hpk, hpd, nA _ hC2, _, hns₁, fun q hq hk => by rw [hpu q hq] at hk; cases hk⟩
  have sn : ∀ b, s₂.heap.get? b = none → s.heap.get? b = none := fun b hb => by
    cases q : s.heap.get? b with
    | none => rfl
    | some o => have := S₂.dom b (by rw [q]; rfl); rw [hb] at this; cases this
  have st1 : St 0 (al ++ e₂) h₁ := by have := F.stay 0 (al ++ e₂) [] s₂.heap h₁ st fun o ho => k1 _ _ ho; simpa using this
  refine h2.go A { s₂ with heap := h₁, toks := s₂.toks + ([] : List (Str × Value)).length } (al ++ e₂) I J.objs.size s₂.heap.objs.size St _ hA hE' (R₂.keeps k1) hL' F st1 ok
    ⟨_, old _ _ hJD⟩ (nA _ hDs) hDC (none_of R₂ hDs) hI (neI _ hC2) (neI _ hDs) hI0 fun s' ext ys p' R' L' hP' hV' kp dm nw hn hg ho hD' => ?_
  obtain ⟨m, hm, _⟩ := L'.vals
  have S' : Step al (e₂ ++ ext) s s' := by
    refine ⟨fun b o hb e => ?_, fun b e => ?_, fun a ha => ?_, hg.trans S₂.gens, ho.trans S₂.os⟩
    · have hb2 : b ∉ al ++ e₂ := fun hm => by
        rcases List.mem_append.mp hm with hm | hm
        · exact hb hm
        · rw [S₂.new b hm] at e; cases e
      have e2 := S₂.keep b o hb e
      refine kp b o hb2 (fun x => ?_) (fun x => ?_) (fun x => ?_) (k1 b o e2)
      · subst x; rw [hC2] at e2; cases e2
      · rw [x, hDs] at e2; cases e2
      · subst x; rw [hIs] at e; cases e
    · refine dm b (fun x => ?_) (dom_of_keep k1 b (S₂.dom b e))
      subst x; rw [hIs] at e; cases e
    · rcases List.mem_append.mp ha with ha | ha
      · exact S₂.new a ha
      · by_cases haI : a = I
        · subst haI; exact hIs
        · have q : h₁.get? a = none := nw a ha haI
          cases e : s.heap.get? a with
          | none => rfl
          | some o =>
            obtain ⟨o', ho'⟩ := Option.isSome_iff_exists.mp (S₂.dom a (by rw [e]; rfl))
            rw [k1 _ _ ho'] at q; cases q
  refine k s' J.objs.size s₂.heap.objs.size (e₂ ++ ext) ys m (by simpa only [List.append_assoc] using R') (L₀.step S') hP' (by simpa only [List.append_assoc] using hV') (by simpa only [List.append_assoc] using hD') hDC (neL _ hDs) ?_ (neL _ hC2) (none_of R₂ hDs) (none_of R₂ hC2) (sn _ hDs) (sn _ hC2) hm S'
  have hoff : J.objs.size ∉ al ++ e₂ ++ ext := L'.off
  simpa only [List.append_assoc] using hoff

theorem step_adopt {al ext : List Addr} {D C : Addr} {s s' : Shared} {h' : Heap} (S : Step al ext s s') (hD : s.heap.get? D = none) (hC : s.heap.get? C = none) (hs : Heap.SameBut C s'.heap h') : Step al (ext ++ [D]) s { s' with heap := h' } where
  keep b o hb e := (hs.2 b (fun x => by subst x; rw [hC] at e; cases e)).trans (S.keep b o hb e)
  dom b e := by
    show (h'.get? b).isSome = true
    rw [hs.2 b (fun x => by subst x; rw [hC] at e; cases e)]; exact S.dom b e
  new a ha := by
    rcases List.mem_append.mp ha with ha | ha
    · exact S.new a ha
    · rw [List.mem_singleton.mp ha]; exact hD
  gens := S.gens
  os := S.os

structure ScopeOK (scope : Scope) (p : LV) : Prop where
  kind : scope.kind = .function
  free : ∀ y ∈ scope.names, y.2 ≠ .free
  cell : ∀ y ∈ scope.names, y.2 ≠ .cell
  names : ∀ x ∈ scope.names, x.2 = .local → scope.names.lookup x.1 = some .local
  nodup : (p.map (·.1)).Nodup
  locals : ∀ q ∈ p, scope.names.lookup q.1 = some .local
  nodbg : ∀ q ∈ p, (q.1 == ("__debug__" : Str)) = false
  unset : ∀ q ∈ p, q.2 = .unset

theorem Ev.comp {elt target iter : Expr} {rest : List Comprehension} {scope : Scope} {pos : Pos} {xs as : List AV} {Ok : List AO → Prop} (hS : ScopeOK scope p) (hE : EnvOK G env) (h1 : It G d env iter r H xs Ok H₁)
    (h2 : CRun G d env scope (.ListComp elt (⟨target, iter, [], 0⟩ :: rest) scope pos) p xs Ok H₁ as H₂) (hs : ∀ x, foldedSetIterable iter env x = pure x := by intro _; rfl) :
    Ev G d env (.ListComp elt (⟨target, iter, [], 0⟩ :: rest) scope pos) r H (.ref H₂.length) (H₂ ++ [.list as]) := .mk fun A s al Q hA R L k => by
  refine wpAny_ListComp hS.free hS.kind hS.names (comp_core (RR := fun acc cenv r s' => ∃ m, s'.heap.Ns cenv.locals m ∧ ∀ h', Heap.SameBut cenv.locals s'.heap h' →
      match r with | .ok _ => Q acc { s' with heap := h' } | .error x => wpAny (model G.prog G.w) A (passOn "comprehension.variables-let-go" x cenv) Q (fun _ _ => False) { s' with heap := h' })
    hS.kind hS.cell hS.nodup hS.locals hS.nodbg hS.unset hE h1 h2 hA R L fun s' C D ext ys m R' L' hP hV hD hDC hDL hC hCL hD0 hC0 hDs hCs hm S => ⟨m, hm, fun h' hs' => ?_⟩) hs
  obtain ⟨n, hn⟩ := hP
  have hn' : h'.get? D = some (listOf ys n) := (hs'.2 D hDC).trans hn
  have R'' := (R'.local hC hC0 hs').adopt (x := .list as) hD hD0 hn' (by exact ⟨ys, n, rfl, hV⟩)
  refine k _ _ (ext ++ [D]) (by simpa only [List.append_assoc] using R'') ⟨D, ?_, rfl⟩ (step_adopt S hDs hCs hs')
  have hl : H₂.length = (al ++ ext).length := R'.len.symm
  rw [hl, ← List.append_assoc]; simp

theorem Ex1.assignComp {elt target iter : Expr} {rest : List Comprehension} {scope : Scope} {pos spos py : Pos} {y : Str} {xs as : List AV} {Ok : List AO → Prop} (hS : ScopeOK scope p) (hE : EnvOK G env) (h1 : It G d env iter r H xs Ok H₁)
    (h2 : CRun G d env scope (.ListComp elt (⟨target, iter, [], 0⟩ :: rest) scope pos) p xs Ok H₁ as H₂) (P : Put y (.ref H₂.length) r r')
    (hsw : swapsWith (.ListComp elt (⟨target, iter, [], 0⟩ :: rest) scope pos) (some (.Name y py)) spos.line env = pure true) (hs : ∀ x, foldedSetIterable iter env x = pure x := by intro _; rfl) :
    Ex1 G d env (.Assign [.Name y py] (.ListComp elt (⟨target, iter, [], 0⟩ :: rest) scope pos) spos) r H .next r' (H₂ ++ [.list as]) := .mk fun A s al Q hA R L k => by
  rw [exec_Assign_Name_used _ _ _ _ hsw]
  refine wpAny_bind (wpAny_standAt (wpAny_bind ?_))
  show wpAny _ A (do let _ ← comprehension (.ListComp elt (⟨target, iter, [], 0⟩ :: rest) scope pos) scope env _ (newList []) false (eval iter env) (some (PySem.assign (.Name y py) env))) _ _ s
  refine wpAny_bind (wpAny_mono (wpAny_comprehension_use (Q := fun _ s' => Q .next s') rfl hs hS.free hS.kind hS.names (comp_core (RR := fun acc cenv r s' => match r with
      | .ok _ => wpAny (model G.prog G.w) A (PySem.assign (.Name y py) env acc) (fun _ s'' => ∃ m, s''.heap.Ns cenv.locals m ∧ ∀ h', Heap.SameBut cenv.locals s''.heap h' → Q .next { s'' with heap := h' }) (fun _ _ => False) s'
      | .error x => ∃ m, s'.heap.Ns cenv.locals m ∧ ∀ h', Heap.SameBut cenv.locals s'.heap h' → wpAny (model G.prog G.w) A (passOn "comprehension.variables-let-go" x cenv) (fun _ s' => Q .next s') (fun _ _ => False) { s' with heap := h' })
    hS.kind hS.cell hS.nodup hS.locals hS.nodbg hS.unset hE h1 h2 hA R L fun s' C D ext ys m R' L' hP hV hD hDC hDL hC hCL hD0 hC0 hDs hCs hm S => ?_)) (fun _ s' hq => wpAny_pure (wpAny_pure hq)) fun _ _ e => e)
  obtain ⟨n, hn⟩ := hP
  have R1 := R'.adopt (x := .list as) hD hD0 hn (by exact ⟨ys, n, rfl, hV⟩)
  have S1 : Step al (ext ++ [D]) s s' := step_adopt (C := C) (h' := s'.heap) S hDs hCs (Heap.SameBut.refl ..)
  have hl : H₂.length = (al ++ ext).length := R'.len.symm
  refine wpAny_assign_Name (wp_store (al := al ++ (ext ++ [D])) hE (L.step S1) P (v := .ref D) ⟨D, by rw [hl, ← List.append_assoc]; simp, rfl⟩ fun h₂ L₂ hs₂ => ?_)
  have hmC : h₂.Ns C m := by
    obtain ⟨o, es, ep, ho, q⟩ := hm
    exact ⟨o, es, ep, (hs₂.2 C hCL).trans ho, q⟩
  refine ⟨m, hmC, fun h₃ hs₃ => ?_⟩
  have offL : env.locals ∉ al ++ (ext ++ [D]) := L₂.off
  have R2 : Rel G.bs (al ++ (ext ++ [D])) (H₂ ++ [.list as]) h₂ := Rel.local (by simpa only [List.append_assoc] using R1) offL hE.fresh hs₂
  have hC' : C ∉ al ++ (ext ++ [D]) := fun hm => by
    rw [← List.append_assoc] at hm
    rcases List.mem_append.mp hm with hm | hm
    · exact hC hm
    · exact hDC (List.mem_singleton.mp hm).symm
  refine k _ _ (ext ++ [D]) (R2.local hC' hC0 hs₃) (L₂.other hCL hs₃.extBut) rfl ?_
  refine ⟨fun b o hb hL e => ?_, fun b e => ?_, S1.new, S.gens, S.os⟩
  · have hbC : b ≠ C := fun x => by subst x; rw [hCs] at e; cases e
    exact (hs₃.2 b hbC).trans ((hs₂.2 b hL).trans (S1.keep b o hb e))
  · have hbC : b ≠ C := fun x => by subst x; rw [hCs] at e; cases e
    show (h₃.get? b).isSome = true
    rw [hs₃.2 b hbC]
    by_cases hL : b = env.locals
    · subst hL; exact L₂.some
    · rw [hs₂.2 b hL]; exact S1.dom b e
end
end Mine

namespace Mine
open PySem PySem.W

theorem compStart_1 {prog : Program} {w : World} {A : Around} {R : Result → Shared → Prop} {s : Shared} {elt t₀ i₀ t₁ i₁ : Expr} {scope : Scope} {pos : Pos} {it acc : Value} {env : Env}
    (h0 : codeAny (model prog w) A (.compLoop (.ListComp elt [⟨t₀, i₀, [], 0⟩, ⟨t₁, i₁, [], 0⟩] scope pos) 1 it acc env) R s)
    (h : wpAny (model prog w) A (pyIter it) (fun it' s' => codeAny (model prog w) A (.compLoop (.ListComp elt [⟨t₀, i₀, [], 0⟩, ⟨t₁, i₁, [], 0⟩] scope pos) 1 it' acc env) R s') (fun _ _ => False) s) :
    codeAny (model prog w) A (.compStart (.ListComp elt [⟨t₀, i₀, [], 0⟩, ⟨t₁, i₁, [], 0⟩] scope pos) 1 it acc env) R s := by
  refine codeAny_of_tree ?_
  show wpAny _ _ ((compStart (.ListComp elt [⟨t₀, i₀, [], 0⟩, ⟨t₁, i₁, [], 0⟩] scope pos) 1 it acc env).onRaise (fun x => do noteFrame x env; standAt theWindowsPlace)) _ _ s
  refine wpAny_notedAt ?_
  unfold compStart
  show wpAny _ _ (ask >>= _) _ _ s
  refine wpAny_bind (wpAny_askSetting (wpAny_ite ?_))
  split
  · first
      | exact wpAny_bind (wpAny_pure (wpAny_pure (And.intro rfl h0)))
      | exact wpAny_pure (And.intro rfl h0)
  · refine wpAny_bind (wpAny_rule ?_)
    show wpAny _ _ (standAt i₁.pos >>= _) _ _ s
    exact wpAny_bind (wpAny_standAt (wpAny_bind (wpAny_mono h (fun it' s' h' => wpAny_pure (And.intro rfl h')) fun _ _ x => x.elim)))

section
variable {G : Gd} {d : Nat} {env : Env} {r r' r₁ r₂ p p₁ p' : LV} {H H' H₁ H₂ H₃ H₄ K K₁ K' : List AO}

theorem Emit.inner {D : Addr} {elt t₀ i₀ t₁ i₁ : Expr} {scope : Scope} {pos : Pos} {xs as : List AV} {Ok : List AO → Prop} (h1 : It G d env i₁ p K xs Ok K₁)
    (lp : CL (TurnC G d env D t₁ (eval elt env >>= fun x => call (.builtin "list.append") [.ref D, x] >>= fun _ => pure ()) Ok) xs p K₁ as p' K')
    (hs : ∀ x, foldedSetIterable i₁ env x = pure x := by intro _; rfl) (ht : ∀ it v, letOwnedTupleGo t₁ it v = pure () := by intro _ _; rfl) :
    Emit G d env D (eval i₁ env >>= fun x => standAt i₁.pos >>= fun _ => foldedSetIterable i₁ env x >>= fun x => (holding [x] (pyIter x)) >>= fun y => runOwn (.compStart (.ListComp elt [⟨t₀, i₀, [], 0⟩, ⟨t₁, i₁, [], 0⟩] scope pos) 1 y (.ref D) env) env >>= fun _ => pure ()) p K as p' K' := .mk fun A s al ys acc Q hA R L hP hV hD hDL hD0 hz k => by
  refine wpAny_bind (wpAny_mono (h1.go A s al (fun y s₁ => wpAny (model G.prog G.w) A (runOwn (.compStart (.ListComp elt [⟨t₀, i₀, [], 0⟩, ⟨t₁, i₁, [], 0⟩] scope pos) 1 y (.ref D) env) env >>= fun _ => pure ()) Q (fun _ _ => False) s₁) hA R L fun I s₁ e₁ St F st hI hIL hI0 hIs R₁ L₁ S₁ ok => ?_)
    (fun x s₁ h => wpAny_bind (wpAny_standAt (by rw [hs]; exact wpAny_bind (wpAny_pure (wpAny_bind (wpAny_holding h)))))) fun _ _ h => h)
  have hP₁ : s₁.heap.PlainList D ys := plain_keep hP fun o e => S₁.keep _ _ hD e
  have hD₁ : D ∉ al ++ e₁ := notIn_ext hD (plain_some hP) S₁.new
  have hID : I ≠ D := fun x => by subst x; have := plain_some hP; rw [hIs] at this; cases this
  refine wpAny_bind (wpAny_runOwn ?_)
  have post : ∀ s' ext ys', Rel G.bs ((al ++ e₁) ++ ext) K' s'.heap → LR env ((al ++ e₁) ++ ext) p' s'.heap → s'.heap.PlainList D ys' → VRs ((al ++ e₁) ++ ext) (acc ++ as) ys'.toList →
      (∀ b o, b ∉ al ++ e₁ → b ≠ env.locals → b ≠ D → b ≠ I → s₁.heap.get? b = some o → s'.heap.get? b = some o) → (∀ b, b ≠ I → (s₁.heap.get? b).isSome = true → (s'.heap.get? b).isSome = true) → (∀ a ∈ ext, a ≠ I → s₁.heap.get? a = none) → I ∉ ext → s'.gens = s₁.gens → s'.os = s₁.os → D ∉ (al ++ e₁) ++ ext → Q () s' := by
    intro s' ext ys' R' L' hP' hV' kp dm nw hn hg ho hD'
    refine k s' (e₁ ++ ext) ys' (by simpa only [List.append_assoc] using R') (by simpa only [List.append_assoc] using L') hP' (by simpa only [List.append_assoc] using hV') ?_ (by simpa only [List.append_assoc] using hD')
    refine ⟨fun b o hb hL e => ?_, fun b e => ?_, fun a ha => ?_, hg.trans S₁.gens, ho.trans S₁.os⟩
    · have hb1 : b ∉ al := fun x => hb (List.mem_cons_of_mem _ x)
      have hbD : b ≠ D := fun x => hb (x ▸ List.mem_cons_self)
      have hbI : b ≠ I := fun x => by subst x; rw [hIs] at e; cases e
      refine kp b o (fun hm => ?_) hL hbD hbI (S₁.keep b o hb1 e)
      rcases List.mem_append.mp hm with hm | hm
      · exact hb1 hm
      · rw [S₁.new b hm] at e; cases e
    · exact dm b (fun x => by subst x; rw [hIs] at e; cases e) (S₁.dom b e)
    · rcases List.mem_append.mp ha with ha | ha
      · exact S₁.new a ha
      · have q := nw a ha (fun x => hn (x ▸ ha))
        cases e : s.heap.get? a with
        | none => rfl
        | some o => have := S₁.dom a (by rw [e]; rfl); rw [q] at this; cases this
  have loop : codeAny (model G.prog G.w) (A.mark none) (.compLoop (.ListComp elt [⟨t₀, i₀, [], 0⟩, ⟨t₁, i₁, [], 0⟩] scope pos) 1 (.ref I) (.ref D) env)
      (fun r s' => match r with | .ok f => wpAny (model G.prog G.w) A (pure ()) Q (fun _ _ => False) s' | .error e => cameBackBy (model G.prog G.w) A env (fun _ _ => False) e s') s₁ :=
    comp_loop (A := A.mark none) (R := fun r s' => match r with | .ok f => wpAny (model G.prog G.w) A (pure ()) Q (fun _ _ => False) s' | .error e => cameBackBy (model G.prog G.w) A env (fun _ _ => False) e s') rfl rfl rfl (comp2_1 elt t₀ i₀ t₁ i₁ scope pos (.ref I) (.ref D) env) (ht _) F lp ⟨hA.handled, hA.depth, hA.units⟩ R₁ L₁ hP₁ (VRs.mono (e := e₁) hV) st ok hD₁ hDL hD0 hI hIL hID hI0 hz
      fun s' ext ys' R' L' hP' hV' kp dm nw hn hg ho hD' => wpAny_pure (post s' ext ys' R' L' hP' hV' kp dm nw hn hg ho hD')
  exact compStart_1 loop (F.self (A.mark none) d 0 s₁ (al ++ e₁) (fun it' s' => codeAny (model G.prog G.w) (A.mark none) (.compLoop (.ListComp elt [⟨t₀, i₀, [], 0⟩, ⟨t₁, i₁, [], 0⟩] scope pos) 1 it' (.ref D) env)
      (fun r s' => match r with | .ok f => wpAny (model G.prog G.w) A (pure ()) Q (fun _ _ => False) s' | .error e => cameBackBy (model G.prog G.w) A env (fun _ _ => False) e s') s') ⟨hA.handled, hA.depth, hA.units⟩ st loop)

theorem CRun.two {elt t₀ i₀ t₁ i₁ : Expr} {scope : Scope} {pos : Pos} {xs as : List AV} {Ok : List AO → Prop} (hz : as.length ≤ 1000000)
    (h : ∀ C D, EnvOK G (compEnv scope C env) → ∃ p', CL (TurnC G d (compEnv scope C env) D t₀ (eval i₁ (compEnv scope C env) >>= fun x => standAt i₁.pos >>= fun _ => foldedSetIterable i₁ (compEnv scope C env) x >>= fun x => (holding [x] (pyIter x)) >>= fun y => runOwn (.compStart (.ListComp elt [⟨t₀, i₀, [], 0⟩, ⟨t₁, i₁, [], 0⟩] scope pos) 1 y (.ref D) (compEnv scope C env)) (compEnv scope C env) >>= fun _ => pure ()) Ok) xs p K as p' K')
    (ht : ∀ it v, letOwnedTupleGo t₀ it v = pure () := by intro _ _; rfl) :
    CRun G d env scope (.ListComp elt [⟨t₀, i₀, [], 0⟩, ⟨t₁, i₁, [], 0⟩] scope pos) p xs Ok K as K' := .mk fun A s al I C D St R hA hE R₀ L₀ F st ok hP hD hDC hD0 hI hIC hID hI0 k => by
  obtain ⟨p', lp⟩ := h C D hE
  have loop : codeAny (model G.prog G.w) A (.compLoop (.ListComp elt [⟨t₀, i₀, [], 0⟩, ⟨t₁, i₁, [], 0⟩] scope pos) 0 (.ref I) (.ref D) (compEnv scope C env)) R s :=
    comp_loop (acc := []) (ys := #[]) rfl rfl rfl (comp2_0 elt t₀ i₀ t₁ i₁ scope pos (.ref I) (.ref D) _) (ht _) F lp hA R₀ L₀ hP .nil st ok hD hDC hD0 hI hIC hID hI0 (by simpa using hz)
      fun s' ext ys R' L' hP' hV' kp dm nw hn hg ho hD' => k s' ext ys p' R' L' hP' (by simpa using hV') kp dm nw hn hg ho hD'
  exact codeAny_compStart_list loop (wpAny_mono (F.self A d 0 s al (fun it' s' => codeAny (model G.prog G.w) A (.compLoop (.ListComp elt [⟨t₀, i₀, [], 0⟩, ⟨t₁, i₁, [], 0⟩] scope pos) 0 it' (.ref D) (compEnv scope C env)) R s') hA st loop) (fun _ _ h => h) fun _ _ h => h.elim)
end
end Mine

namespace Mine
open PySem PySem.W

/-! ## dicts with int keys -/
abbrev DA := List (Int × AV)
abbrev PairD (al : List Addr) (p : Int × AV) (q : Int × Value) : Prop := p.1 = q.1 ∧ VR al p.2 q.2
def dictI (G : Gd) (D : DA) : AO := .obj fun al o => ∃ kvs, o.IsDictOf (intKind G.prog G.w) kvs ∧ Paired (PairD al) D kvs
def valA (D : DA) (k : Int) : Option AV := (D.find? fun p => p.1 = k).map (·.2)
def storA (D : DA) (k : Int) (v : AV) : DA := if D.any (fun p => p.1 = k) then D.map (fun p => if p.1 = k then (p.1, v) else p) else D ++ [(k, v)]

theorem pairD_mono {al e : List Addr} {D : DA} {kvs : List (Int × Value)} (h : Paired (PairD al) D kvs) : Paired (PairD (al ++ e)) D kvs := paired_imp (fun _ _ h => ⟨h.1, h.2.mono⟩) h
theorem valA_paired {al : List Addr} {k : Int} : ∀ {D : DA} {kvs : List (Int × Value)}, Paired (PairD al) D kvs → (valA D k = none ∧ valueAt kvs k = none) ∨ ∃ a v, valA D k = some a ∧ valueAt kvs k = some v ∧ VR al a v
  | _, _, .nil => .inl ⟨rfl, rfl⟩
  | p :: D, q :: kvs, .cons h t => by
    rcases valA_paired (k := k) t with ⟨h1, h2⟩ | ⟨a, v, h1, h2, h3⟩
    · by_cases e : p.1 = k
      · exact .inr ⟨p.2, q.2, by simp [valA, e], by simp [valueAt, ← h.1, e], h.2⟩
      · exact .inl ⟨by simpa [valA, e] using h1, by simpa [valueAt, ← h.1, e] using h2⟩
    · by_cases e : p.1 = k
      · exact .inr ⟨p.2, q.2, by simp [valA, e], by simp [valueAt, ← h.1, e], h.2⟩
      · exact .inr ⟨a, v, by simpa [valA, e] using h1, by simpa [valueAt, ← h.1, e] using h2, h3⟩
theorem any_paired {al : List Addr} {k : Int} : ∀ {D : DA} {kvs : List (Int × Value)}, Paired (PairD al) D kvs → D.any (fun p => p.1 = k) = kvs.any (fun kv => kv.1 = k)
  | _, _, .nil => rfl
  | p :: D, q :: kvs, .cons h t => by simp [any_paired t, h.1]
theorem storA_paired {al : List Addr} {k : Int} {a : AV} {v : Value} (hv : VR al a v) {D : DA} {kvs : List (Int × Value)} (h : Paired (PairD al) D kvs) : Paired (PairD al) (storA D k a) (stored kvs k v) := by
  unfold storA stored
  rw [any_paired h]
  by_cases e : (kvs.any fun kv => kv.1 = k) = true
  · rw [if_pos e, if_pos e]
    clear e
    induction h with
    | nil => exact .nil
    | @cons p q D kvs h t ih =>
      refine .cons ?_ ih
      show PairD al (if p.1 = k then (p.1, a) else p) (if q.1 = k then (q.1, v) else q)
      by_cases e : p.1 = k
      · rw [if_pos e, if_pos (h.1 ▸ e)]; exact ⟨h.1, hv⟩
      · rw [if_neg e, if_neg (h.1 ▸ e)]; exact h
  · rw [if_neg e, if_neg e]
    exact paired_app h (.cons ⟨rfl, hv⟩ .nil)
section
variable {G : Gd} {d : Nat} {env : Env} {r r' r₁ r₂ : LV} {H H' H₁ H₂ H₃ : List AO}

theorem Rel.isDict {h : Heap} {al : List Addr} (R : Rel G.bs al H h) {i : Nat} {D : DA} (hx : H[i]? = some (dictI G D)) {v : Value} (hv : VR al (.ref i) v) :
    ∃ a o kvs, v = .ref a ∧ al[i]? = some a ∧ a ∈ al ∧ h.get? a = some o ∧ h.DictOf (intKind G.prog G.w) a kvs ∧ Paired (PairD al) D kvs := by
  obtain ⟨a, hi, rfl⟩ := hv
  obtain ⟨o, ho, q⟩ := R.obj i a _ hi hx
  obtain ⟨kvs, hd, p⟩ := q []
  rw [List.append_nil] at p
  exact ⟨a, o, kvs, rfl, hi, List.mem_of_getElem? hi, ho, Heap.dictOf_iff.mpr ⟨o, ho, hd⟩, p⟩
theorem OR.dict {al : List Addr} {o : Obj} {D : DA} {kvs : List (Int × Value)} (h : o.IsDictOf (intKind G.prog G.w) kvs) (p : Paired (PairD al) D kvs) : OR al o (dictI G D) := fun e => ⟨kvs, h, pairD_mono p⟩

theorem Sub.dict {i : Nat} {D : DA} {k : Int} {c : AV} (hx : H[i]? = some (dictI G D)) (hk : valA D k = some c) : Sub G d (.ref i) (.int k) H c H := .mk fun A s al x y Q hA R hv hw => by
  obtain ⟨a, o, kvs, rfl, hi, hm, ho, hd, p⟩ := R.isDict hx hv
  obtain ⟨t, rfl⟩ := hw
  rcases valA_paired (k := k) p with ⟨h1, h2⟩ | ⟨c', v, h1, h2, h3⟩
  · rw [hk] at h1; cases h1
  · rw [hk] at h1
    cases h1
    exact ⟨⟨"dict", _, hd.typeIs, slot_dict_getitem.lookup⟩, fun K => wpAny_getItem_of (intKind_is G.prog G.w k t) hd.mapOf h2 (fin0 K R h3)⟩
theorem Stores.dict {i : Nat} {D : DA} {k : Int} {c : AV} (hx : H[i]? = some (dictI G D)) (hz : D.length ≤ 1000000) : Stores G d (.ref i) (.int k) c H (H.set i (dictI G (storA D k c))) := .mk fun A s al x y z Q hA R hv hw hc K => by
  obtain ⟨a, o, kvs, rfl, hi, hm, ho, hd, p⟩ := R.isDict hx hv
  obtain ⟨t, rfl⟩ := hw
  refine wpAny_setItem_pairs (intKind_is G.prog G.w k t) hd (fun h' hd' hs => ?_) (by rw [← p.length]; exact Nat.le_trans hz (by decide))
  obtain ⟨o', ho', hd''⟩ := Heap.dictOf_iff.mp hd'
  exact K _ (R.update hi (fun b o' hb e => (hs.2 b hb).trans e) ho' (OR.dict hd'' (storA_paired hc p))) (Step.same hs ho' hm)
theorem Ev.dict0 {pos : Pos} : Ev G d env (.Dict [] [] pos) r H (.ref H.length) (H ++ [dictI G []]) := .mk fun A s al Q hA R L K => by
  refine wpAny_Dict_empty ?_
  have hd := Heap.DictOf.new (knd := intKind G.prog G.w) s.heap
  obtain ⟨o, ho, hd'⟩ := Heap.dictOf_iff.mp hd
  rw [Heap.get?_push_size _ rfl] at ho
  cases ho
  exact finP (n := s.toks) K R rfl (OR.dict hd' .nil)

/-- the pairs of a display -/
structure Evp (G : Gd) (d : Nat) (env : Env) (ks : List (Option Expr)) (vs : List Expr) (r : LV) (H : List AO) (D : DA) (H' : List AO) : Prop where
  go : ∀ (A : Around) (s : Shared) (al : List Addr) (pos : Pos) (Q : List (Value × Value) → Shared → Prop), AOK d A → Rel G.bs al H s.heap → LR env al r s.heap →
    (∀ vv s' ext kvs, Rel G.bs (al ++ ext) H' s'.heap → Carries (intKind G.prog G.w) vv kvs → Paired (PairD (al ++ ext)) D kvs → Step al ext s s' → Q vv s') →
    wpAny (model G.prog G.w) A (evalPairs (pairTrees ks vs env pos)) Q (fun _ _ => False) s
theorem Evp.nil : Evp G d env [] [] r H [] H := .mk fun A s al pos Q hA R L K =>
  pairTrees_nil_walk (K [] s [] [] (by rw [List.append_nil]; exact R) trivial .nil Step.refl)
theorem Evp.cons {k v : Expr} {ks : List (Option Expr)} {vs : List Expr} {i : Int} {a : AV} {D : DA} (h1 : Ev G d env k r H (.int i) H₁) (h2 : Ev G d env v r H₁ a H₂) (h3 : Evp G d env ks vs r H₂ D H₃) : Evp G d env (some k :: ks) (v :: vs) r H ((i, a) :: D) H₃ := .mk fun A s al pos Q hA R L K =>
  pairTrees_cons_walk (h1.run hA R L fun kv s₁ e₁ R₁ L₁ V₁ S₁ => h2.run hA R₁ L₁ fun vv s₂ e₂ R₂ L₂ V₂ S₂ => h3.go A s₂ _ pos _ hA R₂ L₂ fun rr s₃ e₃ kvs R₃ C₃ P₃ S₃ => by
    obtain ⟨t, rfl⟩ := V₁
    refine K _ s₃ (e₁ ++ (e₂ ++ e₃)) ((i, vv) :: kvs) (by simpa only [List.append_assoc] using R₃) ⟨intKind_is G.prog G.w i t, rfl, C₃⟩ (.cons ⟨rfl, ?_⟩ (by simpa only [List.append_assoc] using P₃)) (S₁.trans (S₂.trans (by simpa only [List.append_assoc] using S₃)))
    have := V₂.mono (e := e₃)
    simpa only [List.append_assoc] using this)

theorem merged_paired {al : List Addr} : ∀ {D D' : DA} {kvs kvs' : List (Int × Value)}, Paired (PairD al) D kvs → Paired (PairD al) D' kvs' → Paired (PairD al) (D'.foldl (fun acc p => storA acc p.1 p.2) D) (merged kvs kvs')
  | _, _, _, _, h, .nil => h
  | D, p :: D', kvs, q :: kvs', h, .cons hq t => by
    have := merged_paired (storA_paired (k := p.1) hq.2 h) t
    rw [hq.1] at this
    simpa [merged, hq.1] using this

theorem Ev.dict {ks : List (Option Expr)} {vs : List Expr} {pos : Pos} {D : DA} (h : Evp G d env ks vs r H D H₁) (hall : ks.all (·.isSome) = true) (hl : ks.length = vs.length) (h0 : ks ≠ []) (hlen : ks.length ≤ 15) :
    Ev G d env (.Dict ks vs pos) r H (.ref H₁.length) (H₁ ++ [dictI G (D.foldl (fun acc p => storA acc p.1 p.2) [])]) := .mk fun A s al Q hA R L K => by
  refine wpAny_Dict_walk (knd := intKind G.prog G.w) hall hl h0 hlen ?_
  have hk : ∀ b o, s.heap.get? b = some o → (s.heap.push { cls := .type "dict", data := .dict #[] }).get? b = some o := fun b o e => Heap.get?_push_of_some _ e
  have S0 : Step al [] s { s with heap := s.heap.push { cls := .type "dict", data := .dict #[] } } := Step.pushG
  refine h.go A { s with heap := s.heap.push { cls := .type "dict", data := .dict #[] } } al pos _ hA (R.keeps hk) (by simpa using L.step S0) fun vv s₁ e₁ kvs R₁ C P S₁ => ?_
  have hD : s.heap.objs.size ∉ al := size_notIn R
  obtain ⟨o, ho, hd⟩ := Heap.dictOf_iff.mp (Heap.DictOf.new (knd := intKind G.prog G.w) s.heap)
  refine ⟨kvs, C, Heap.dictOf_iff.mpr ⟨o, S₁.keep _ _ hD ho, hd⟩, fun h' hd' hs => ?_⟩
  obtain ⟨o', ho', hd''⟩ := Heap.dictOf_iff.mp hd'
  have hD1 : s.heap.objs.size ∉ al ++ e₁ := fun hm => by
    rcases List.mem_append.mp hm with hm | hm
    · exact hD hm
    · have := S₁.new _ hm; rw [ho] at this; cases this
  have hD0 : G.h₀.get? s.heap.objs.size = none := none_of R (get_size _)
  have R₂ := (R₁.other (h' := h') hD1 hD0 hs.extBut).adopt hD1 hD0 ho' (OR.dict hd'' (merged_paired .nil P))
  have hlen1 : H₁.length = (al ++ e₁).length := R₁.len.symm
  have S : Step al e₁ s s₁ := by have := S0.trans (by simpa using S₁); simpa using this
  refine K _ _ (e₁ ++ [s.heap.objs.size]) (by simpa only [List.append_assoc] using R₂) ⟨_, by rw [hlen1, ← List.append_assoc]; simp, rfl⟩ ?_
  refine ⟨fun b o hb e => (hs.2 b (fun x => by subst x; rw [get_size] at e; cases e)).trans (S.keep b o hb e), fun b e => ?_, fun a ha => ?_, S.gens, S.os⟩
  · show (h'.get? b).isSome = true
    rw [hs.2 b (fun x => by subst x; rw [get_size] at e; cases e)]; exact S.dom b e
  · rcases List.mem_append.mp ha with ha | ha
    · exact S.new a ha
    · rw [List.mem_singleton.mp ha]; exact get_size _
end
end Mine

namespace Mine
open PySem PySem.W

/-- the parts of a slice that the program takes -/
theorem sliceRange_one (a b : Nat) : sliceRange (a : Int) (b : Int) 1 = (List.range (b - a)).map fun k => a + k := by
  unfold sliceRange
  have e : (if (1 : Int) > 0 then (if (a : Int) < b then ((b : Int) - a + 1 - 1) / 1 else 0) else (if (a : Int) > b then ((a : Int) - b - 1 - 1) / (-1) else 0)).toNat = b - a := by
    rw [if_pos (by decide)]; split <;> (first | lia | omega)
  simp only [e]
  congr 1
  funext k
  (first | lia | omega)
theorem pick_range {α : Type} (xs : List α) : ∀ k, (List.range k).filterMap (fun i => xs[i]?) = xs.take k
  | 0 => by simp
  | k + 1 => by
    rw [List.range_succ, List.filterMap_append, pick_range xs k, List.take_add_one]
    cases h : xs[k]? <;> simp [h]
def picks {α : Type} (lo hi : Option Int) (xs : List α) : List α := (xs.drop (kms_lo lo xs.length)).take (kms_hi hi xs.length - kms_lo lo xs.length)
theorem slicePicks {α : Type} (xs : List α) (lo hi : Option Int) : (sliceRange (sliceBounds lo hi none xs.length).1 (sliceBounds lo hi none xs.length).2.1 (sliceBounds lo hi none xs.length).2.2).filterMap (fun i => xs[i]?) = picks lo hi xs := by
  unfold picks
  rw [kms_bounds, sliceRange_one, List.filterMap_map, ← pick_range]
  congr 1
  funext k
  simp [Function.comp]

section
variable {G : Gd} {d : Nat} {env : Env} {r r' r₁ r₂ : LV} {H H' H₁ H₂ H₃ : List AO}

/-! ## a list, of the abstract heap or of the base one -/
def Lst (G : Gd) (a : AV) (H : List AO) (xs : List AV) : Prop :=
  ∀ (al : List Addr) (h : Heap) (v : Value), Rel G.bs al H h → VR al a v → ∃ b vs, v = .ref b ∧ h.IsList b vs ∧ VRs al xs vs.toList ∧ vs.size = xs.length
theorem Lst.at {i : Nat} {xs : List AV} (hx : H[i]? = some (.list xs)) : Lst G (.ref i) H xs := fun al h v R hv => by
  obtain ⟨a, vs, n, rfl, hi, hm, ho, hl, q, hlen⟩ := R.isList hx hv
  exact ⟨a, vs, rfl, hl, q, hlen⟩
theorem Lst.base {l : Addr} {vs : Array Value} {xs : List AV} (hl : G.h₀.IsList l vs) (h : ∀ al, VRs al xs vs.toList) : Lst G (.ext (.ref l)) H xs := fun al h' v R hv => by
  cases hv
  exact ⟨l, vs, rfl, hl.at fun o e => R.base _ _ e, h al, by have := (h []).length; simpa using this.symm⟩

theorem Ev.sliceG {l : Expr} {lo hi : Option Expr} {p pos : Pos} {av : AV} {xs : List AV} {a b : Option Int} (h1 : Ev G d env l r H av H₁)
    (hlo : match lo, a with | some e, some n => Ev G d env e r H₁ (.int n) H₁ | none, none => True | _, _ => False)
    (hhi : match hi, b with | some e, some n => Ev G d env e r H₁ (.int n) H₁ | none, none => True | _, _ => False)
    (hx : Lst G av H₁ xs) (hz : xs.length ≤ 1000000) :
    Ev G d env (.Subscript l (.Slice lo hi none p) pos) r H (.ref H₁.length) (H₁ ++ [.list (picks a b xs)]) := .mk fun A s al Q hA R L k => by
  rw [← slicePicks] at k
  refine PyProof.Rows.Subscript_ (h1.run hA R L fun v s₁ e₁ R₁ L₁ V₁ S₁ => wpAny_Slice ?_)
  have part : ∀ {o : Option Expr} {m : Option Int} {s : Shared} {al' : List Addr} {K : Value → Shared → Prop}, (match o, m with | some e, some n => Ev G d env e r H₁ (.int n) H₁ | none, none => True | _, _ => False) →
      Rel G.bs al' H₁ s.heap → LR env al' r s.heap → (∀ v s' ext, Rel G.bs (al' ++ ext) H₁ s'.heap → LR env (al' ++ ext) r s'.heap → IsPart v m → Step al' ext s s' → K v s') → wpAny (model G.prog G.w) A (evalPart o env) K (fun _ _ => False) s := by
    intro o m s al' K ho R L k
    cases o with
    | none =>
      cases m with
      | none => exact wpAny_evalPart_none (k _ _ [] (by rw [List.append_nil]; exact R) (by rw [List.append_nil]; exact L) .none Step.refl)
      | some n => exact ho.elim
    | some e =>
      cases m with
      | none => exact ho.elim
      | some n => exact wpAny_evalPart_some (Ev.run ho hA R L fun v s' ext R' L' V' S' => k v s' ext R' L' (by obtain ⟨t, rfl⟩ := V'; exact .int _ _) S')
  refine part hlo R₁ L₁ fun lv s₂ e₂ R₂ L₂ I₂ S₂ => part hhi R₂ L₂ fun hv s₃ e₃ R₃ L₃ I₃ S₃ => wpAny_evalPart_none ?_
  obtain ⟨a', vs, rfl, hl, q, hlen⟩ := hx _ _ _ R₃ V₁.mono.mono
  have hl' : (s₃.heap.push { cls := .type "slice", data := .fields #[lv, hv, .none] }).IsList a' vs := hl.push _
  refine PyProof.Rows.tail_any (T := "list") (ops := [.ref s₃.heap.objs.size, .ref a']) (Heap.IsList.typeIs (s := { s₃ with heap := s₃.heap.push { cls := .type "slice", data := .fields #[lv, hv, .none] } }) hl') slot_list_getitem.lookup ?_ rfl
  refine wpAny_getItem_list_slice hl' (Heap.IsSliceOf.new ..) I₂ I₃ .none (by simp) ?_ (by rw [hlen]; exact Nat.le_trans hz (by decide))
  have S₄ : Step (al ++ e₁ ++ e₂ ++ e₃) [] s₃ { s₃ with heap := s₃.heap.push { cls := .type "slice", data := .fields #[lv, hv, .none] } } := Step.pushG
  have R₄ := R₃.keeps (h' := s₃.heap.push { cls := .type "slice", data := .fields #[lv, hv, .none] }) fun b o e => Heap.get?_push_of_some _ e
  have q' : VRs (al ++ e₁ ++ e₂ ++ e₃) ((sliceRange (sliceBounds a b none xs.length).1 (sliceBounds a b none xs.length).2.1 (sliceBounds a b none xs.length).2.2).filterMap (xs[·]?)) (slicePick vs a b none).toList := by
    simp only [slicePick, hlen]
    generalize sliceRange _ _ _ = js
    induction js with
    | nil => exact .nil
    | cons j js ih =>
      cases hj : xs[j]? with
      | none =>
        have : vs[j]? = none := by
          rw [List.getElem?_eq_none_iff] at hj
          rw [Array.getElem?_eq_none_iff, hlen]; exact hj
        simp only [List.filterMap_cons, hj, this]; exact ih
      | some c =>
        obtain ⟨v, hv, qv⟩ := paired_get q hj
        have : vs[j]? = some v := by simpa using hv
        simp only [List.filterMap_cons, hj, this]; exact .cons qv ih
  refine finP (s := { s₃ with heap := s₃.heap.push { cls := .type "slice", data := .fields #[lv, hv, .none] } }) (x := .list ((sliceRange (sliceBounds a b none xs.length).1 (sliceBounds a b none xs.length).2.1 (sliceBounds a b none xs.length).2.2).filterMap (xs[·]?))) (n := s₃.toks) (fun v s₅ e₅ R₅ V₅ S₅ => ?_) R₄ rfl (by exact ⟨_, 0, rfl, q'⟩)
  refine k v s₅ (e₁ ++ (e₂ ++ (e₃ ++ e₅))) (by simpa only [List.append_assoc] using R₅) (by simpa only [List.append_assoc] using V₅) (S₁.trans (S₂.trans (by
    have := S₃.trans (by simpa only [List.append_assoc, List.nil_append] using S₄.trans (by simpa only [List.append_nil] using S₅))
    simpa only [List.append_assoc] using this)))

/-! ## strs -/
theorem str2 {f : Value → Value → Sem Value} {x y : Str} {z : AV} (hf : ∀ {A : Around} {s : Shared} {t u : Tok} {Q : Value → Shared → Prop}, AOK d A → (∀ v n, VR [] z v → Q v { s with toks := n }) → wpAny (model G.prog G.w) A (f (.str x t) (.str y u)) Q (fun _ _ => False) s) :
    Opr G d f (.str x) (.str y) H z H := by
  refine .mk fun A s al a b Q hA R ha hb k => ?_
  obtain ⟨t, rfl⟩ := ha
  obtain ⟨u, rfl⟩ := hb
  exact hf hA fun v n hv => fin0 k R (by have := hv.mono (e := al); simpa using this)
theorem Opr.addS {x y : Str} (h : x.length + y.length ≤ 1000000) : Opr G d (binaryOp .Add) (.str x) (.str y) H (.str (x ++ y)) H := str2 fun _ k =>
  SB.add (fun t' n => k _ n ⟨t', rfl⟩) (Nat.le_trans h (by decide))
theorem Opr.iaddS {x y : Str} (h : x.length + y.length ≤ 1000000) : Opr G d (inplaceOp .Add) (.str x) (.str y) H (.str (x ++ y)) H := str2 fun _ k =>
  SB.iadd (fun t' n => k _ n ⟨t', rfl⟩) (Nat.le_trans h (by decide))
theorem Opr.eqS {x y : Str} : Opr G d (compareOp .Eq) (.str x) (.str y) H (.bool (x == y)) H := .mk fun A s al a b Q hA R ha hb k => by
  obtain ⟨t, rfl⟩ := ha
  obtain ⟨u, rfl⟩ := hb
  exact PyProof.Rows.eq_str (fin00 k R rfl)
theorem strsAre_of {al : List Addr} : ∀ {ys : List Str} {vs : List Value}, VRs al (ys.map .str) vs → PyProof.Rows.StrsAre vs ys
  | [], _, h => by cases h; exact .nil
  | y :: ys, _, h => by
    cases h with
    | cons h t => obtain ⟨u, rfl⟩ := h; exact .cons y u (strsAre_of t)
theorem CallT.join {x : Str} {i : Nat} {ys : List Str} (hx : H[i]? = some (.list (ys.map .str))) (hz : (ys.map (·.length)).sum + ys.length * x.length ≤ 16777216) : CallT G d (.ext (.builtin "str.join")) [.str x, .ref i] H (.str (Txt.join x ys)) H := .mk fun A s al fv vs Q hA R hf hvs k => by
  cases hf
  obtain ⟨v, u, rfl, ⟨t, rfl⟩, hu⟩ := vrs2 hvs
  obtain ⟨a, vs, n, rfl, hi, hm, ho, hl, q, hlen⟩ := R.isList hx hu
  exact PyProof.Rows.join_list hl (strsAre_of q) hz fun t' n => fin0 k R ⟨t', rfl⟩
end
end Mine

namespace Mine
open PySem PySem.W

section
variable {G : Gd} {d : Nat} {env : Env} {r r' r₁ r₂ : LV} {H H' H₁ H₂ H₃ : List AO}

/-! ## for over reversed(list) -/
theorem Feed.rev {I : Addr} {i : Nat} {xs : List AV} (hIl : True) : Feed G I xs.reverse (fun K => K[i]? = some (.list xs)) (fun k al h => k ≤ xs.length ∧ ∃ a, al[i]? = some a ∧ h.IsRevIter I a ((xs.length : Int) - 1 - (k : Int))) where
  stay k al ext h h' := fun ⟨hk, a, ha, hi⟩ hk' => ⟨hk, a, get_app ha, hi.at fun o e => hk' o e⟩
  item A d k x s al H Q hA hx := fun ⟨hk, a, ha, hi⟩ R ok hI K => by
    obtain ⟨a', vs, n, e, ha', hm, ho, hl, q, hlen⟩ := R.isList ok (v := .ref a) ⟨a, ha, rfl⟩
    cases e
    have hlt : k < xs.length := by have := (List.getElem?_eq_some_iff.mp hx).1; simpa using this
    rw [List.getElem?_reverse hlt] at hx
    obtain ⟨v, hv, qv⟩ := paired_get q hx
    have e1 : ((xs.length : Int) - 1 - (k : Int)) = ((xs.length - 1 - k : Nat) : Int) := by (first | lia | omega)
    rw [e1] at hi
    refine wpAny_pyNext_rev_item hi hl (x := v) (by simpa using hv) fun h' hi' hs' => K v h' s.toks qv ⟨hlt, a, ha, ?_⟩ hs'.extBut
    have e2 : ((xs.length - 1 - k : Nat) : Int) - 1 = (xs.length : Int) - 1 - ((k + 1 : Nat) : Int) := by (first | lia | omega)
    rw [← e2]; exact hi'
  done A d k s al H Q hA hle := fun ⟨hk, a, ha, hi⟩ R ok K => by
    have e1 : ((xs.length : Int) - 1 - (k : Int)) = -1 := by
      have : k = xs.length := by simp at hle; (first | lia | omega)
      (first | lia | omega)
    rw [e1] at hi
    exact wpAny_pyNext_rev_end hA.handled hi fun h' he => K h' s.toks he
  alive k al h := fun ⟨_, a, ha, o, ho, _⟩ => by rw [ho]; rfl
  self A d k s al Q hA := fun ⟨_, a, ha, hi⟩ K => wpAny_pyIter_revIter hi K
theorem CallIt.reversed {i : Nat} {xs : List AV} (hx : H[i]? = some (.list xs)) : CallIt G d (.ext (.type "reversed")) [.ref i] H xs.reverse (fun K => K[i]? = some (.list xs)) H := .mk fun A s al fv vs Q hA R hf hvs k => by
  cases hf
  obtain ⟨v, rfl, hv⟩ := vrs1 hvs
  obtain ⟨a, vs, n, rfl, hi, hm, ho, hl, q, hlen⟩ := R.isList hx hv
  refine call_reversed_list hl ?_
  have k1 : ∀ b o, s.heap.get? b = some o → (s.heap.push (revObj a ((vs.size : Int) - 1))).get? b = some o := fun b o e => Heap.get?_push_of_some _ e
  have hit : (s.heap.push (revObj a ((vs.size : Int) - 1))).IsRevIter s.heap.objs.size a ((vs.size : Int) - 1) := ⟨_, Heap.get?_push_size _ rfl, rfl, rfl⟩
  refine wpAny_pyIter_revIter hit ?_
  refine k s.heap.objs.size _ [] _ (Feed.rev trivial) ⟨Nat.zero_le _, a, by rw [List.append_nil]; exact hi, ?_⟩ (by rw [List.append_nil]; exact size_notIn R) ?_ (get_size _) (by rw [List.append_nil]; exact R.keeps k1) Step.pushG hx
  · rw [← hlen]; simpa using hit
  · exact none_of R (get_size _)

/-! ## for over enumerate(list) -/
theorem Rel.off {h₀ : Base} {h h' : Heap} {al : List Addr} {W : List Addr} (R : Rel h₀ al H h) (hI : ∀ b ∈ W, b ∉ al) (h0 : ∀ b ∈ W, h₀.get? b = none) (hs : ∀ b o, b ∉ W → h.get? b = some o → h'.get? b = some o) : Rel h₀ al H h' where
  base b o e := hs b o (fun hb => by rw [h0 b hb] at e; cases e) (R.base b o e)
  pre := R.pre
  apart := R.apart
  nodup := R.nodup
  len := R.len
  obj i a x e1 e2 := by
    obtain ⟨o, ho, q⟩ := R.obj i a x e1 e2
    exact ⟨o, hs a o (fun hb => hI a hb (List.mem_of_getElem? e1)) ho, q⟩
theorem LR.offW {al : List Addr} {h h' : Heap} {W : List Addr} (L : LR env al r h) (hI : env.locals ∉ W) (hs : ∀ b (o : Obj), b ∉ W → h.get? b = Option.some o → h'.get? b = Option.some o) : LR env al r h' := by
  obtain ⟨m, ⟨o, es, ep, ho, q⟩, hv⟩ := L.vals
  exact ⟨L.nodup, L.kind, L.nodbg, L.off, m, ⟨o, es, ep, hs _ _ hI ho, q⟩, hv⟩

/-- turns with a count -/
inductive LoopE (B : Nat → AV → LV → List AO → LV → List AO → Prop) : Nat → List AV → LV → List AO → LV → List AO → Prop
  | nil {k : Nat} {p : LV} {K : List AO} : LoopE B k [] p K p K
  | next {k : Nat} {v : AV} {vs : List AV} {p p₁ p₂ : LV} {K K₁ K₂ : List AO} : B k v p K p₁ K₁ → LoopE B (k + 1) vs p₁ K₁ p₂ K₂ → LoopE B k (v :: vs) p K p₂ K₂
structure TurnE (G : Gd) (d : Nat) (env : Env) (xi xv : Str) (body : List Stmt) (Ok : List AO → Prop) (k : Nat) (v : AV) (r : LV) (H : List AO) (r' : LV) (H' : List AO) : Prop where
  go : ∃ r₁, Puts [xi, xv] [.int k, v] r r₁ ∧ Ex G d env body r₁ H .next r' H' ∧ Ok H'

theorem Ex1.forEnum {xi xv f : Str} {pi pv pt pf pc : Pos} {n : Nat} {e : Expr} {body : List Stmt} {pos : Pos} {i : Nat} {xs : List AV} (hE : EnvOK G env) (hf : Ev G d env (.Name f pf) r H (.ext (.type "enumerate")) H) (h1 : Ev G d env e r H (.ref i) H₁) (hx : H₁[i]? = some (.list xs)) (he : isStarred e = false)
    (h2 : LoopE (TurnE G d env xi xv body fun K => K[i]? = some (.list xs)) 0 xs r H₁ r' H')
    (hs : ∀ x, foldedSetIterable (.Call (.Name f pf) [e] [] pc) env x = pure x := by intro _; rfl) : Ex1 G d env (.For (.Tuple [.Name xi pi, .Name xv pv] n pt) (.Call (.Name f pf) [e] [] pc) body [] pos) r H .next r' H' := .mk fun A s al Q hA R L k => by
  refine wpAny_For ?_ hs
  have hev : Evs G d env [e] r H [.ref i] H₁ := Evs.cons h1 Evs.nil he
  show wpAny _ A (eval (.Name f pf) env >>= fun fv => callWith pc fv [] (backTo pc (starEach [e] env)) (backToKw pc (keywordEach [] env))) _ _ s
  refine wpAny_bind (hf.run hA R L fun v s₁ e₁ R₁ L₁ V₁ S₁ => ?_)
  cases V₁
  have hall := backTo_all (pos := pc) (starEach_all (es := [e]) (env := env) (by simp [he]))
  refine callWith_of (P := fun h => ∃ k, (k = Keeper.frame ∨ k = Keeper.machine ∨ k = Keeper.boundFrame) ∧ Looks (model G.prog G.w) h (keeperOf (.type "enumerate")) k) (by rw [any_of_all hall]; rfl) (fun _ h => h) ?_
  refine evalArgs_all hall (hev.run hA R₁ L₁ fun vs s₂ e₂ R₂ L₂ V₂ S₂ => ⟨(Cal.type (G := G) (T := "enumerate") _ _ _ R₂ rfl), ?_⟩)
  obtain ⟨v, rfl, hv⟩ := vrs1 V₂
  obtain ⟨a, vs, nn, rfl, hi, hm, ho, hl, q, hlen⟩ := R₂.isList hx hv
  refine call_enumerate_list hl fun h' hen hit hsz hk => wpAny_pyIter_enum hen ?_
  have S12 : Step al (e₁ ++ e₂) s s₂ := S₁.trans S₂
  have nz : s₂.heap.get? s₂.heap.objs.size = none := get_size _
  have nz1 : s₂.heap.get? (s₂.heap.objs.size + 1) = none := by
    cases e : s₂.heap.get? (s₂.heap.objs.size + 1) with
    | none => rfl
    | some o => exact absurd (Heap.lt_size e) (Nat.not_lt.mpr (Nat.le_succ _))
  generalize hIt : s₂.heap.objs.size = it at hen hit hsz nz nz1 ⊢
  generalize hEn : it + 1 = en at hen nz1 ⊢
  have hei : en ≠ it := by (first | lia | omega)
  let W := [en, it]
  have hW : ∀ b, b ∈ W → s₂.heap.get? b = none := fun b hb => by
    simp only [W, List.mem_cons, List.not_mem_nil, or_false] at hb
    rcases hb with rfl | rfl
    · exact nz1
    · exact nz
  have hWA : ∀ b ∈ W, b ∉ (al ++ e₁) ++ e₂ := fun b hb hm => by
    obtain ⟨j, hj⟩ := List.getElem?_of_mem hm
    have hlt : j < H₁.length := by rw [← R₂.len]; exact (List.getElem?_eq_some_iff.mp hj).1
    obtain ⟨o, ho, _⟩ := R₂.obj j b H₁[j] hj (by simp [hlt])
    rw [hW b hb] at ho; cases ho
  have hW0 : ∀ b ∈ W, G.h₀.get? b = none := fun b hb => none_of R₂ (hW b hb)
  have hWL : env.locals ∉ W := fun hm => by have := L₂.some; rw [hW _ hm] at this; cases this
  have hWs : ∀ b ∈ W, s.heap.get? b = none := fun b hb => by
    cases e : s.heap.get? b with
    | none => rfl
    | some o => have := S12.dom b (by rw [e]; rfl); rw [hW b hb] at this; cases this
  have hkeep : ∀ b o, s₂.heap.get? b = some o → h'.get? b = some o := hk
  refine codeAny_forLoop_any (fun n s' => ∃ ext r₂ H₂ k old, Rel G.bs (al ++ ext) H₂ s'.heap ∧ LR env (al ++ ext) r₂ s'.heap ∧ IsEnum s'.heap en it ((k : Nat) : Int) old ∧ s'.heap.IsListIter it a k ∧ (∀ b ∈ W, b ∉ al ++ ext) ∧
      LoopE (TurnE G d env xi xv body fun K => K[i]? = some (.list xs)) k (xs.drop k) r₂ H₂ r' H' ∧ StepL env.locals al ext s s' ∧ H₂[i]? = some (.list xs) ∧ (al ++ ext)[i]? = some a ∧ n = xs.length + 1 - k ∧ k ≤ xs.length) ?_ (xs.length + 1)
    ⟨e₁ ++ e₂, r, H₁, 0, .none, by simpa only [List.append_assoc] using R₂.keeps hkeep, by
      have := L₂.step (ext := []) (s' := { s₂ with heap := h' }) (Step.of_keep (tk := s₂.toks) hkeep)
      simpa only [List.append_assoc, List.append_nil] using this, hen, hit, by simpa only [List.append_assoc] using hWA, by simpa using h2, by
      have := S12.trans (Step.of_keep (al := al ++ (e₁ ++ e₂)) (s := s₂) (h' := h') (tk := s₂.toks) hkeep)
      simpa using this.toL, hx, by simpa only [List.append_assoc] using hi, rfl, Nat.zero_le _⟩
  rintro n s' ⟨ext, r₂, H₂, k', old, R', L', hen', hit', hWA', lp, S', hx', hi', rfl, hle⟩
  obtain ⟨a', vs', nn', e, _, hm', ho', hl', q', hlen'⟩ := R'.isList hx' (v := .ref a) ⟨a, hi', rfl⟩
  cases e
  by_cases hk' : k' < xs.length
  · have hxk : xs[k']? = some xs[k'] := by simp [hk']
    obtain ⟨x, hxv, qx⟩ := paired_get q' hxk
    have hxv' : vs'[k']? = some x := by simpa using hxv
    have hdr : xs.drop k' = xs[k'] :: xs.drop (k' + 1) := List.drop_eq_getElem_cons hk'
    rw [hdr] at lp
    cases lp with
    | @next _ _ _ _ p₁ _ _ K₁ _ b lp' =>
      obtain ⟨r₃, puts, ex, ok⟩ := b
      refine wpAny_pyNext_enum_item hen' hit' hl' hxv' hei fun h₁ ho₁ hit₁ hT₁ hsz₁ hk₁ => ?_
      refine wpAny_letOwnedTupleGo_enum ho₁ fun h₂ he₂ hs₂ => ?_
      replace hs₂ : Heap.SameBut en h₁ h₂ := hs₂
      have hTe : s'.heap.objs.size ≠ en := Nat.ne_of_gt (Heap.lt_size hen')
      have hT₂ : h₂.IsTuple s'.heap.objs.size #[.int (k' : Int) s'.toks, x] := ⟨_, (hs₂.2 _ hTe).trans hT₁, rfl, _, rfl⟩
      have hit₂ : h₂.IsListIter it a (k' + 1) := hit₁.at fun o e => (hs₂.2 it hei.symm).trans e
      have hNL : NameL [.Name xi pi, .Name xv pv] [xi, xv] := .cons (.cons .nil)
      have hn2 : (assignEach [.Name xi pi, .Name xv pv] env).length = (#[Value.int (k' : Int) s'.toks, x] : Array Value).size := hNL.length
      have hst2 : (assignEach [.Name xi pi, .Name xv pv] env).findIdx? (·.1) = none := hNL.star
      refine wpAny_assign_Tuple hA.handled hT₂ hn2 hst2 fun h₃ he₃ => ?_
      replace he₃ : Heap.ExtBut h₂.objs.size h₂ h₃ := he₃
      have up : ∀ b o, h₂.get? b = some o → h₃.get? b = some o := ext_keep he₃
      have hkW : ∀ b o, b ∉ W → s'.heap.get? b = some o → h₃.get? b = some o := fun b o hb e => by
        have hbe : b ≠ en := fun x => hb (x ▸ List.mem_cons_self)
        have hbi : b ≠ it := fun x => hb (x ▸ List.mem_cons_of_mem _ List.mem_cons_self)
        exact up b o ((hs₂.2 b hbe).trans (hk₁ b o hbe hbi e))
      have R₃ := R'.off (h' := h₃) hWA' hW0 hkW
      have L₃ := L'.offW (h' := h₃) hWL hkW
      have hlen3 : ∀ b, (s'.heap.get? b).isSome = true → (h₃.get? b).isSome = true := fun b e => by
        obtain ⟨o, ho⟩ := Option.isSome_iff_exists.mp e
        by_cases hb : b ∈ W
        · simp only [W, List.mem_cons, List.not_mem_nil, or_false] at hb
          rcases hb with rfl | rfl
          · rw [up _ _ he₂]; rfl
          · obtain ⟨o', ho', _⟩ := hit₂
            rw [up _ _ ho']; rfl
        · rw [hkW b o hb ho]; rfl
      have S₃ : StepL env.locals al ext s { s' with heap := h₃, toks := s'.toks + 1 } := by
        refine ⟨fun b o hb hL e => hkW b o (fun hm => by rw [hWs b hm] at e; cases e) (S'.keep b o hb hL e), fun b e => hlen3 b (S'.dom b e), S'.new, S'.gens, S'.os⟩
      have hVs : VRs (al ++ ext) [.int (k' : Int), xs[k']] [Value.int (k' : Int) s'.toks, x] := .cons ⟨_, rfl⟩ (.cons qx .nil)
      refine wp_names (s := { s' with heap := h₃, toks := s'.toks + 1 }) (vs := [Value.int (k' : Int) s'.toks, x]) hE hNL puts hVs R₃ L₃ fun s₄ R₄ L₄ S₄ => ?_
      have kk : ∀ {U : Flow → Shared → Prop} {P : Value → Shared → Prop}, (∀ fl s₅ e₅, Rel G.bs ((al ++ ext) ++ e₅) K₁ s₅.heap → LR env ((al ++ ext) ++ e₅) p₁ s₅.heap → FR ((al ++ ext) ++ e₅) .next fl → StepL env.locals (al ++ ext) e₅ s₄ s₅ → U fl s₅) → wpAny (model G.prog G.w) A (execs body env) U P s₄ :=
        fun hU => wpAny_mono (ex.go A s₄ _ _ hA R₄ L₄ hU) (fun _ _ h => h) fun _ _ h => h.elim
      refine kk fun fl s₅ e₅ R₅ L₅ F₅ S₅ => ?_
      cases F₅
      have T : StepL env.locals (al ++ ext) e₅ { s' with heap := h₃, toks := s'.toks + 1 } s₅ := by simpa using S₄.trans (by simpa using S₅)
      have hen3 : h₃.get? en = some _ := up _ _ he₂
      have enL : en ≠ env.locals := fun x => hWL (x ▸ List.mem_cons_self)
      have itL : it ≠ env.locals := fun x => hWL (x ▸ List.mem_cons_of_mem _ List.mem_cons_self)
      have enA : en ∉ al ++ ext := hWA' en List.mem_cons_self
      have itA : it ∉ al ++ ext := hWA' it (List.mem_cons_of_mem _ List.mem_cons_self)
      have hen5 : IsEnum s₅.heap en it (((k' + 1 : Nat)) : Int) x := by
        have := T.keep en _ enA enL hen3
        have e1 : ((k' + 1 : Nat) : Int) = (k' : Int) + 1 := by (first | lia | omega)
        rw [e1]; exact this
      have hit5 : s₅.heap.IsListIter it a (k' + 1) := (hit₂.at fun o e => up _ _ e).at fun o e => T.keep it _ itA itL e
      refine ⟨xs.length + 1 - (k' + 1), by (first | lia | omega), ext ++ e₅, p₁, K₁, k' + 1, x, by simpa only [List.append_assoc] using R₅, by simpa only [List.append_assoc] using L₅, hen5, hit5, fun b hb hm => ?_, lp', S₃.trans T, ok, by rw [← List.append_assoc]; exact get_app hi', rfl, hk'⟩
      rw [← List.append_assoc] at hm
      rcases List.mem_append.mp hm with hm | hm
      · exact hWA' b hb hm
      · have q := T.new b hm
        simp only [W, List.mem_cons, List.not_mem_nil, or_false] at hb
        rcases hb with rfl | rfl
        · rw [show ({ s' with heap := h₃, toks := s'.toks + 1 } : Shared).heap.get? b = h₃.get? b from rfl, hen3] at q; cases q
        · obtain ⟨o', ho', _⟩ := hit₂
          rw [show ({ s' with heap := h₃, toks := s'.toks + 1 } : Shared).heap.get? b = h₃.get? b from rfl, up _ _ ho'] at q; cases q
  · have hnil : xs.drop k' = [] := List.drop_eq_nil_of_le (by (first | lia | omega))
    rw [hnil] at lp
    cases lp
    refine wpAny_pyNext_enum_end hA.handled hen' hit' hl' (by rw [Array.getElem?_eq_none_iff, hlen']; (first | lia | omega)) fun h₁ he => wpAny_execs_nil ?_
    have hit0 : it ∈ W := List.mem_cons_of_mem _ List.mem_cons_self
    exact k _ _ ext (R'.other (hWA' it hit0) (hW0 it hit0) he) (L'.other (fun x => hWL (x ▸ hit0)) he) rfl (S'.iter (s' := { s' with heap := h₁ }) he (hWs it hit0) rfl rfl)
end
end Mine

namespace Mine
open PySem PySem.W

theorem get_last {H : List AO} {x : AO} : (H ++ [x])[H.length]? = some x := by simp
theorem get_set {H : List AO} {i : Nat} {x y : AO} (h : H[i]? = some x) : (H.set i y)[i]? = some y := by
  have := (List.getElem?_eq_some_iff.mp h).1
  simp [this]

/-! ## a frame's own ground: what stands fast while a frame runs -/
def Gd.over (G : Gd) (h : Heap) (al : List Addr) (L : Addr) : Gd := { G with h₀ := hideAll h (L :: al), pre := al }

section
variable {G : Gd} {d : Nat} {env : Env} {r : LV} {H H' : List AO} {h h' : Heap} {al al' : List Addr} {L : Addr}

theorem over_of {b : Addr} {o : Obj} (e : h.get? b = some o) (ha : b ∉ al) (hL : b ≠ L) : (G.over h al L).h₀.get? b = some o :=
  hideAll_get _ e (by simp [hL, ha])
theorem over_to {b : Addr} {o : Obj} (e : (G.over h al L).h₀.get? b = some o) : h.get? b = some o := of_hideAll _ e
theorem over_L : (G.over h al L).h₀.get? L = none := hideAll_none _ (by simp)
theorem over_base (R : Rel G.bs al H h) (hL : G.h₀.get? L = none) : ∀ b o, G.h₀.get? b = some o → (G.over h al L).h₀.get? b = some o := fun b o e =>
  over_of (R.base b o e) (fun hm => by have q : G.h₀.get? b = none := R.apart b hm; rw [q] at e; cases e) (fun x => by subst x; rw [hL] at e; cases e)
theorem Rel.over (R : Rel G.bs al H h) : Rel (G.over h al L).bs al H h where
  pre := List.prefix_refl _
  base b o e := over_to (G := G) (al := al) (L := L) e
  apart a ha := hideAll_none _ (by simp [ha])
  nodup := R.nodup
  len := R.len
  obj := R.obj
theorem Rel.back (R0 : Rel G.bs al H h) (hL : G.h₀.get? L = none) (R : Rel (G.over h al L).bs al' H' h') : Rel G.bs al' H' h' where
  pre := R0.pre.trans R.pre
  base b o e := R.base b o (over_base R0 hL b o e)
  apart a ha := by
    cases e : G.bs.get? a with
    | none => rfl
    | some o =>
      have q : (G.over h al L).h₀.get? a = none := R.apart a ha
      rw [over_base R0 hL a o e] at q; cases q
  nodup := R.nodup
  len := R.len
  obj := R.obj
theorem Gd.Ok.over (hG : G.Ok) (R : Rel G.bs al H h) (hL : G.h₀.get? L = none) : (G.over h al L).Ok :=
  ⟨hG.g.keeps (over_base R hL), hG.b.keeps (over_base R hL), hG.nolimit.keeps (over_base R hL)⟩
theorem pre_get {pre al : List Addr} (hp : pre <+: al) {i : Nat} {a : Addr} (h : pre[i]? = some a) : al[i]? = some a := by
  obtain ⟨t, rfl⟩ := hp
  exact get_app h

/-- a name that lives in a cell -/
theorem Ev.cellv {x : Str} {pos : Pos} {c : Addr} {v : Value} {a : AV} (hE : EnvOK G env) (hk : env.kindOf x = some .cell ∨ env.kindOf x = some .free) (hc : env.cells.lookup x = some c) (hv : G.h₀.IsCell c (some v)) (ha : ∀ al, G.pre <+: al → VR al a v)
    (hd : (x == ("__debug__" : Str)) = false := by decide) (hn : (x == ("__classdict__" : Str)) = false := by decide) : Ev G d env (.Name x pos) r H a H := .mk fun A s al Q hA R L k => by
  have hv' : s.heap.IsCell c (some v) := hv.keeps R.base
  rcases hk with hk | hk
  · exact wpAny_Name (wpAny_loadName_cell hE.kind hk hc hv' (fin00 k R (ha _ R.pre))) hd
  · exact wpAny_Name (wpAny_loadName_free hE.kind hk hc hv' (fin00 k R (ha _ R.pre)) hn) hd

/-! ## a def inside a def: the table of its code -/
def tabE : AO := .obj fun al o => o = tabObj #[]
def tabC (pos : Pos) (j : Nat) : AO := .obj fun al o => ∃ c', al[j]? = some c' ∧ o = tabObj #[rawInt pos.line, rawInt pos.col, .ref c']
def codA (qual : Str) : AO := .obj fun al o => ∃ vs t, o.data = .fields vs ∧ vs[1]? = some (.str qual t)
def TabOK (k : Nat) (pos : Pos) (qual : Str) (H : List AO) : Prop := (2 ≤ H.length ∧ H[k]? = some tabE) ∨ ∃ j, 2 ≤ j ∧ j ≠ k ∧ H[k]? = some (tabC pos j) ∧ H[j]? = some (codA qual)
inductive Tab (k : Nat) (pos : Pos) (qual : Str) : Nat → List AO → List AO → Prop
  | new {H : List AO} : 2 ≤ H.length → H[k]? = some tabE → Tab k pos qual H.length H (H.set k (tabC pos H.length) ++ [codA qual])
  | old {j : Nat} {H : List AO} : 2 ≤ j → j ≠ k → H[k]? = some (tabC pos j) → H[j]? = some (codA qual) → Tab k pos qual j H H
/-- all stays but what lies at k -/
def GrowX (k : Nat) (H H' : List AO) : Prop := ∀ (i : Nat) (x : AO), i ≠ k → H[i]? = some x → H'[i]? = some x

theorem TabOK.tab {k : Nat} {pos : Pos} {qual : Str} {H : List AO} (T : TabOK k pos qual H) : ∃ j H₁, Tab k pos qual j H H₁ := by
  rcases T with ⟨h2, T⟩ | ⟨j, h2, a, b, c⟩
  · exact ⟨_, _, .new h2 T⟩
  · exact ⟨_, _, .old h2 a b c⟩
theorem Tab.facts {k j : Nat} {pos : Pos} {qual : Str} {H H₁ : List AO} (T : Tab k pos qual j H H₁) : (2 ≤ j ∧ j ≠ k) ∧ H₁[k]? = some (tabC pos j) ∧ H₁[j]? = some (codA qual) ∧ GrowX k H H₁ := by
  cases T with
  | new h2 T =>
    have hkH : k < H.length := (List.getElem?_eq_some_iff.mp T).1
    refine ⟨⟨h2, Nat.ne_of_gt hkH⟩, ?_, ?_, fun i x hi e => ?_⟩
    · rw [List.getElem?_append_left (by simpa using hkH)]; exact get_set T
    · have : (H.set k (tabC pos H.length)).length = H.length := by simp
      rw [← this]; simp
    · have := (List.getElem?_eq_some_iff.mp e).1
      rw [List.getElem?_append_left (by simpa using this), List.getElem?_set_ne (Ne.symm hi)]; exact e
  | old h2 a b c => exact ⟨⟨h2, a⟩, b, c, fun _ _ _ e => e⟩

/-- the builtins module, as a def wants it -/
structure BMod (G : Gd) : Prop where
  go : ∃ bm o, G.mg "__builtins__" = some (.ref bm) ∧ bm ≠ builtinsNs ∧ bm ≠ mainGlobals ∧ G.h₀.get? bm = some o ∧ o.cls = .type "module" ∧ o.dict = some builtinsNs ∧ o.data = .plain

theorem makes {A : Around} {s : Shared} {E : Value → Shared → Prop} {Q : Value → Shared → Prop} {k jj : Nat} {H₁ : List AO} {c P : Addr} {name qual : Str} {params : Arguments} {body : List Stmt} {scope : Scope} {pos : Pos} {clos : List (Str × Addr)} (hG : G.Ok) (hB : BMod G)
    (R : Rel G.bs al H s.heap) (hP : al[k]? = some P) (T : Tab k pos qual jj H H₁) (hge : env.globals = mainGlobals) (hcode : env.code = .ref c) (C : CodeHd G.h₀ c P) (hcl : closureFor scope env = pure clos)
    (K : ∀ (f : Addr) (cv ctv doc : Value) (h' : Heap) (tk : Tok) (ext : List Addr), Rel G.bs (al ++ ext) H₁ h' → (∃ c' : Addr, (al ++ ext)[jj]? = some c' ∧ cv = .ref c') →
      h'.get? f = some { cls := .type "function", data := .func (fnX name qual params body scope clos .none .none doc ((G.mg "__name__").getD .none) none cv ctv) } → f ∉ al ++ ext → s.heap.get? f = none → (∀ b o, b ∉ al → s.heap.get? b = some o → h'.get? b = some o) → (∀ b, (s.heap.get? b).isSome = true → (h'.get? b).isSome = true) → (∀ a ∈ ext, s.heap.get? a = none) →
      Q (.ref f) { s with heap := h', toks := tk }) :
    wpAny (model G.prog G.w) A (makeFunction name qual params (.stmts body) scope env [] [] [] pos pos.line) Q E s := by
  obtain ⟨bm, ob, b1, b2, b3, b4, b5, b6, b7⟩ := hB.go
  have hPm : P ∈ al := List.mem_of_getElem? hP
  have hP0 : G.h₀.get? P = none := R.apart P hPm
  have hbP : bm ≠ P := fun x => by rw [x, hP0] at b4; cases b4
  have hb : s.heap.BuiltinsAt G.mg P := ⟨bm, ob, b1, b2, b3, hbP, R.base _ _ b4, b5, b6, b7⟩
  have hCs : CodeHd s.heap c P := C.keeps R.base
  have hg := hG.g.keeps R.base
  have hgP : mainGlobals ≠ P := fun x => by
    obtain ⟨o, es, ep, e, _⟩ := hG.g
    rw [x, hP0] at e; cases e
  rcases T with ⟨h2, T⟩ | ⟨h2, hjk, T, Tj⟩
  · obtain ⟨o, ho, q⟩ := R.obj k P _ hP T
    have q' : o = tabObj #[] := q []
    subst q'
    refine makeFunction_K (ps := #[]) hcl hge hg hcode hCs ho trivial rfl hgP hb fun c' ctv doc h₁ tk hx hge' hlt hrec htb => ?_
    obtain ⟨c₂, oc, vs, t, e2, hoc, hd, hv⟩ := hrec
    cases e2
    have hk1 : ∀ b o, b ≠ P → s.heap.get? b = some o → h₁.get? b = some o := fun b o hb e => hx b o hb e
    have hcn : s.heap.get? c' = none := Heap.get?_none_of_le hge'
    have hcA : c' ∉ al := fun hm => Nat.lt_irrefl _ (Nat.lt_of_lt_of_le (R.lt hm) hge')
    have hc0 : G.h₀.get? c' = none := none_of R hcn
    have hfn : s.heap.get? h₁.objs.size = none := Heap.get?_none_of_le (Nat.le_of_lt (Nat.lt_of_le_of_lt hge' hlt))
    have hf1 : h₁.get? h₁.objs.size = none := get_size _
    have up : ∀ {o : Obj} b o', h₁.get? b = some o' → (h₁.push o).get? b = some o' := fun b o' e => Heap.get?_push_of_some _ e
    have hlen : al.length = H.length := R.len
    have hkH : k < H.length := (List.getElem?_eq_some_iff.mp T).1
    have hset : ∀ {i : Nat} {x : AO}, i ≠ k → H[i]? = some x → (H.set k (tabC pos H.length) ++ [codA qual])[i]? = some x := fun hi e => by
      have := (List.getElem?_eq_some_iff.mp e).1
      rw [List.getElem?_append_left (by simpa using this), List.getElem?_set_ne (Ne.symm hi)]; exact e
    have hkk : (H.set k (tabC pos H.length) ++ [codA qual])[k]? = some (tabC pos H.length) := by
      rw [List.getElem?_append_left (by simpa using hkH)]; exact get_set T
    have hjj : (H.set k (tabC pos H.length) ++ [codA qual])[H.length]? = some (codA qual) := by
      have : (H.set k (tabC pos H.length)).length = H.length := by simp
      rw [← this]; simp
    have hcc : (al ++ [c'])[H.length]? = some c' := by rw [← hlen]; simp
    have hbne : ∀ b o', G.bs.get? b = some o' → b ≠ P := fun b o' e x => by
      subst x
      rw [show G.bs.get? b = none from hP0] at e; cases e
    have RR : Rel G.bs (al ++ [c']) (H.set k (tabC pos H.length) ++ [codA qual]) (h₁.push (fnMade name qual params body scope clos doc ((G.mg "__name__").getD .none) c' ctv)) := by
      refine ⟨R.pre.trans (List.prefix_append _ _), fun b o' e => up b o' (hk1 b o' (hbne b o' e) (R.base b o' e)), fun a ha => ?_, ?_, by simp [hlen], fun i a x e1 e2 => ?_⟩
      · rcases List.mem_append.mp ha with ha | ha
        · exact R.apart a ha
        · rw [List.mem_singleton.mp ha]; exact hc0
      · rw [List.nodup_append]
        exact ⟨R.nodup, by simp, fun a ha b hb e => by rw [List.mem_singleton.mp hb] at e; subst e; exact hcA ha⟩
      · by_cases hi : i < al.length
        · rw [List.getElem?_append_left hi] at e1
          by_cases hik : i = k
          · subst hik
            rw [hP] at e1
            cases e1
            rw [hkk] at e2
            cases e2
            refine ⟨_, up _ _ htb, fun e => ⟨c', ?_, rfl⟩⟩
            exact get_app hcc
          · have hiH : i < H.length := by (first | lia | omega)
            rw [List.getElem?_append_left (by simpa using hiH), List.getElem?_set_ne (Ne.symm hik)] at e2
            obtain ⟨o', ho', q'⟩ := R.obj i a x e1 e2
            have haP : a ≠ P := fun x => by
              subst x
              have h1 : i < al.length := hi
              have h2 : k < al.length := by (first | lia | omega)
              rw [List.getElem?_eq_getElem h1] at e1
              rw [List.getElem?_eq_getElem h2] at hP
              have := (List.getElem_inj (h₀ := h1) (h₁ := h2) R.nodup).mp (by rw [Option.some.inj e1, Option.some.inj hP])
              exact hik this
            exact ⟨o', up _ _ (hk1 a o' haP ho'), q'.mono⟩
        · have hi' : i = H.length := by
            have := (List.getElem?_eq_some_iff.mp e1).1
            simp at this; (first | lia | omega)
          subst hi'
          rw [hcc] at e1
          cases e1
          rw [hjj] at e2
          cases e2
          exact ⟨oc, up _ _ hoc, fun e => ⟨vs, t, hd, hv⟩⟩
    have hfA : h₁.objs.size ∉ al ++ [c'] := fun hm => by
      rcases List.mem_append.mp hm with hm | hm
      · exact absurd (R.lt hm) (Nat.not_lt.mpr (Nat.le_of_lt (Nat.lt_of_le_of_lt hge' hlt)))
      · rw [List.mem_singleton.mp hm] at hlt; exact Nat.lt_irrefl _ hlt
    refine K _ _ _ _ _ _ [c'] RR ⟨c', hcc, rfl⟩ (Heap.get?_push_size _ rfl) hfA hfn
      (fun b o hb e => up b o (hk1 b o (fun x => hb (x ▸ hPm)) e)) (fun b e => ?_) (fun a ha => by rw [List.mem_singleton.mp ha]; exact hcn)
    obtain ⟨o, ho'⟩ := Option.isSome_iff_exists.mp e
    by_cases hb : b = P
    · subst hb; rw [up _ _ htb]; rfl
    · rw [up _ _ (hk1 b o hb ho')]; rfl
  · obtain ⟨o, ho, q⟩ := R.obj k P _ hP T
    obtain ⟨c', hc', q'⟩ := q []
    rw [List.append_nil] at hc'
    subst q'
    refine makeFunction_hit (ps := #[rawInt pos.line, rawInt pos.col, .ref c']) (cv := .ref c') hcl hge hg hcode hCs ho (by exact trivial) (by simp [codeAmong, rawInt]) hb fun ctv doc h₁ tk hk hsz => ?_
    have up : ∀ {o : Obj} b o', s.heap.get? b = some o' → (h₁.push o).get? b = some o' := fun b o' e => Heap.get?_push_of_some _ (hk b o' e)
    have hfn : s.heap.get? h₁.objs.size = none := Heap.get?_none_of_le hsz
    refine K _ _ _ _ _ _ [] (by rw [List.append_nil]; exact R.keeps up) ⟨c', by rw [List.append_nil]; exact hc', rfl⟩ (Heap.get?_push_size _ rfl) (fun hm => ?_) hfn (fun b o _ e => up b o e) (fun b e => dom_of_keep up b e) (fun a ha => by cases ha)
    rw [List.append_nil] at hm
    exact absurd (R.lt hm) (Nat.not_lt.mpr hsz)
end
end Mine

namespace Mine
open PySem PySem.W

section
variable {G : Gd} {d : Nat} {env : Env} {r r' : LV} {H H' : List AO}
theorem flt2 {x y : UInt64} {f : Value → Value → Sem Value} {z : AV} (hf : ∀ {A : Around} {s : Shared} {t u : Tok} {Q : Value → Shared → Prop}, AOK d A → (∀ v n, VR [] z v → Q v { s with toks := n }) → wpAny (model G.prog G.w) A (f (.float x t) (.float y u)) Q (fun _ _ => False) s) :
    Opr G d f (.flt x) (.flt y) H z H := by
  refine .mk fun A s al a b Q hA R ha hb k => ?_
  obtain ⟨t, rfl⟩ := ha
  obtain ⟨u, rfl⟩ := hb
  exact hf hA fun v n hv => fin0 k R (by have := hv.mono (e := al); simpa using this)
variable {x y : UInt64}
theorem Opr.addF : Opr G d (binaryOp .Add) (.flt x) (.flt y) H (.flt (Float64.add x y)) H := flt2 fun _ k => AutoFloatOps.add_0 (k _ _ ⟨_, rfl⟩)
theorem Opr.subF : Opr G d (binaryOp .Sub) (.flt x) (.flt y) H (.flt (Float64.sub x y)) H := flt2 fun _ k => AutoFloatOps.sub_0 (k _ _ ⟨_, rfl⟩)
theorem Opr.mulF : Opr G d (binaryOp .Mult) (.flt x) (.flt y) H (.flt (Float64.mul x y)) H := flt2 fun _ k => AutoFloatOps.mul_0 (k _ _ ⟨_, rfl⟩)
theorem Opr.divF (h : Float64.isZero y = false) : Opr G d (binaryOp .Div) (.flt x) (.flt y) H (.flt (Float64.div x y)) H := flt2 fun _ k => AutoFloatOps.truediv_1 (by rw [h]; decide) (k _ _ ⟨_, rfl⟩)
theorem Opr.modF (h : Float64.isZero y = false) : Opr G d (binaryOp .Mod) (.flt x) (.flt y) H (.flt (Float64.divmod x y).2) H := flt2 fun _ k => AutoFloatOps.mod_1 (by rw [h]; decide) (k _ _ ⟨_, rfl⟩)
theorem Opr.eqF : Opr G d (compareOp .Eq) (.flt x) (.flt y) H (.bool (Float64.cmp x y == some Ordering.eq)) H := .mk fun A s al a b Q hA R ha hb k => by
  obtain ⟨t, rfl⟩ := ha
  obtain ⟨u, rfl⟩ := hb
  exact AutoFloatOps.eq_0 (fin00 k R rfl)
theorem Opr.mulFI {n : Int} (h : Float64.isInf (Float64.ofInt n) = false) : Opr G d (binaryOp .Mult) (.flt x) (.int n) H (.flt (Float64.mul x (Float64.ofInt n))) H := .mk fun A s al a b Q hA R ha hb k => by
  obtain ⟨t, rfl⟩ := ha
  obtain ⟨u, rfl⟩ := hb
  exact AutoFloatOps.mul_fi_1 (by rw [h]; decide) (fin0 k R ⟨_, rfl⟩)
theorem Opr.divI {m n : Int} (h0 : n ≠ 0) (h : Float64.isInf (Float64.ofFrac (decide (m < 0) != decide (n < 0)) m.natAbs n.natAbs) = false) : Opr G d (binaryOp .Div) (.int m) (.int n) H (.flt (Float64.ofFrac (decide (m < 0) != decide (n < 0)) m.natAbs n.natAbs)) H := .mk fun A s al a b Q hA R ha hb k => by
  obtain ⟨t, rfl⟩ := ha
  obtain ⟨u, rfl⟩ := hb
  exact AutoIntOps.truediv_2 (by simpa using h0) (by rw [h]; decide) (fin0 k R ⟨_, rfl⟩)
theorem CallT.intF {sg : Bool} {m : Nat} {e : Int} (hd : Float64.decode x = .fin sg m e) : CallT G d (.ext (.type "int")) [.flt x] H (.int (Float64.truncOf sg m e)) H := .mk fun A s al fv vs Q hA R hf hvs k => by
  cases hf
  obtain ⟨v, rfl, ⟨t, rfl⟩⟩ := vrs1 hvs
  exact call_int_float hd (fin0 k R ⟨_, rfl⟩)
end
end Mine

namespace Mine
open PySem PySem.W

def fAt (a b c : UInt64) (i : Nat) : UInt64 := if i = 0 then a else if i = 1 then b else c
theorem fItems_at {a b c : UInt64} {t u x : Tok} (i : Nat) (v : Value) (h : (#[Value.float a t, Value.float b u, Value.float c x] : Array Value)[i]? = some v) : ∃ k, v = .float (fAt a b c i) k := by
  match i, h with
  | 0, h => simp at h; exact ⟨t, h.symm⟩
  | 1, h => simp at h; exact ⟨u, h.symm⟩
  | 2, h => simp at h; exact ⟨x, h.symm⟩
  | i + 3, h => simp at h
abbrev fItems (a b c : UInt64) (t u x : Tok) : Array Value := #[Value.float a t, Value.float b u, Value.float c x]
theorem cmp_gtF {prog : Program} {w : World} {A : Around} {a b c : UInt64} {t u x : Tok} : CmpOf prog w A .Gt (fun i v => (fItems a b c t u x)[i]? = some v) (fun i j => Float64.cmp (fAt a b c i) (fAt a b c j) == some Ordering.gt) := fun i j vi vj s Q E hi hj h => by
  obtain ⟨k, rfl⟩ := fItems_at i vi hi
  obtain ⟨l, rfl⟩ := fItems_at j vj hj
  exact AutoFloatOps.gt_0 h
theorem cmp_ltF {prog : Program} {w : World} {A : Around} {a b c : UInt64} {t u x : Tok} : CmpOf prog w A .Lt (fun i v => (fItems a b c t u x)[i]? = some v) (fun i j => Float64.cmp (fAt a b c i) (fAt a b c j) == some Ordering.lt) := fun i j vi vj s Q E hi hj h => by
  obtain ⟨k, rfl⟩ := fItems_at i vi hi
  obtain ⟨l, rfl⟩ := fItems_at j vj hj
  exact AutoFloatOps.lt_0 h
def fMax (a b c : UInt64) : UInt64 := fAt a b c (argBest (fun i j => Float64.cmp (fAt a b c i) (fAt a b c j) == some Ordering.gt) 2)
def fMin (a b c : UInt64) : UInt64 := fAt a b c (argBest (fun i j => Float64.cmp (fAt a b c i) (fAt a b c j) == some Ordering.lt) 2)

section
variable {G : Gd} {d : Nat} {H : List AO}
theorem CallT.maxF {a b c : UInt64} : CallT G d (.ext (.builtin "max")) [.flt a, .flt b, .flt c] H (.flt (fMax a b c)) H := .mk fun A s al fv vs Q hA R hf hvs k => by
  cases hf
  obtain ⟨v1, v2, v3, rfl, ⟨t, rfl⟩, ⟨u, rfl⟩, ⟨x, rfl⟩⟩ := vrs3 hvs
  have hT : (s.heap.push { cls := .type "tuple", data := .seq #[.float a t, .float b u, .float c x] }).IsTuple s.heap.objs.size (fItems a b c t u x) := ⟨_, Heap.get?_push_size _ rfl, rfl, 0, rfl⟩
  refine call_max_three (wpAny_pyIter_tuple hT ?_)
  have hsz : (s.heap.push { cls := .type "tuple", data := .seq #[.float a t, .float b u, .float c x] }).objs.size = s.heap.objs.size + 1 := Heap.size_push ..
  refine ⟨_, [_, s.heap.objs.size], [_], _, _, _, _, rfl, Walks.tuple (A := A.in1) hA.handled _ s.heap.objs.size (by rw [hsz]; exact Nat.ne_of_lt (Nat.lt_succ_self _)) (fItems a b c t u x),
    ⟨⟨_, Heap.get?_push_size _ rfl, rfl, rfl⟩, hT.push _⟩, fun d hd => ?_, by simp, cmp_gtF, fun v h' tk hP hk => ?_⟩
  · show d < ((s.heap.push _).push _).objs.size
    rw [Heap.size_push, hsz]
    rcases List.mem_cons.mp hd with rfl | hd
    · rw [hsz]; exact Nat.lt_succ_self _
    · rcases List.mem_cons.mp hd with rfl | hd
      · exact Nat.lt_succ_of_lt (Nat.lt_succ_self _)
      · cases hd
  · have hold : ∀ d o, s.heap.get? d = some o → h'.get? d = some o := fun d o e => by
      refine hk d o (fun hm => ?_) (Heap.get?_push_of_some _ (Heap.get?_push_of_some _ e))
      rcases List.mem_cons.mp hm with e1 | hm
      · have := Heap.lt_size e; rw [e1, hsz] at this; exact Nat.lt_irrefl _ (Nat.lt_of_succ_lt this)
      · cases hm
    obtain ⟨l, rfl⟩ := fItems_at _ v hP
    exact finG k R ⟨l, rfl⟩ hold
theorem CallT.minF {a b c : UInt64} : CallT G d (.ext (.builtin "min")) [.flt a, .flt b, .flt c] H (.flt (fMin a b c)) H := .mk fun A s al fv vs Q hA R hf hvs k => by
  cases hf
  obtain ⟨v1, v2, v3, rfl, ⟨t, rfl⟩, ⟨u, rfl⟩, ⟨x, rfl⟩⟩ := vrs3 hvs
  have hT : (s.heap.push { cls := .type "tuple", data := .seq #[.float a t, .float b u, .float c x] }).IsTuple s.heap.objs.size (fItems a b c t u x) := ⟨_, Heap.get?_push_size _ rfl, rfl, 0, rfl⟩
  refine call_min_three (wpAny_pyIter_tuple hT ?_)
  have hsz : (s.heap.push { cls := .type "tuple", data := .seq #[.float a t, .float b u, .float c x] }).objs.size = s.heap.objs.size + 1 := Heap.size_push ..
  refine ⟨_, [_, s.heap.objs.size], [_], _, _, _, _, rfl, Walks.tuple (A := A.in1) hA.handled _ s.heap.objs.size (by rw [hsz]; exact Nat.ne_of_lt (Nat.lt_succ_self _)) (fItems a b c t u x),
    ⟨⟨_, Heap.get?_push_size _ rfl, rfl, rfl⟩, hT.push _⟩, fun d hd => ?_, by simp, cmp_ltF, fun v h' tk hP hk => ?_⟩
  · show d < ((s.heap.push _).push _).objs.size
    rw [Heap.size_push, hsz]
    rcases List.mem_cons.mp hd with rfl | hd
    · rw [hsz]; exact Nat.lt_succ_self _
    · rcases List.mem_cons.mp hd with rfl | hd
      · exact Nat.lt_succ_of_lt (Nat.lt_succ_self _)
      · cases hd
  · have hold : ∀ d o, s.heap.get? d = some o → h'.get? d = some o := fun d o e => by
      refine hk d o (fun hm => ?_) (Heap.get?_push_of_some _ (Heap.get?_push_of_some _ e))
      rcases List.mem_cons.mp hm with e1 | hm
      · have := Heap.lt_size e; rw [e1, hsz] at this; exact Nat.lt_irrefl _ (Nat.lt_of_succ_lt this)
      · cases hm
    obtain ⟨l, rfl⟩ := fItems_at _ v hP
    exact finG k R ⟨l, rfl⟩ hold
end
end Mine

namespace Mine
open PySem PySem.W
section
variable {G : Gd} {d : Nat} {H : List AO}
theorem allInts_of {al : List Addr} : ∀ {ns : List Int} {vs : List Value}, VRs al (ns.map .int) vs → ∃ xs : List (Int × Tok), vs = xs.map (fun p => .int p.1 p.2) ∧ xs.map (·.1) = ns
  | [], _, h => by cases h; exact ⟨[], rfl, rfl⟩
  | n :: ns, _, h => by
    cases h with
    | cons h t =>
      obtain ⟨u, rfl⟩ := h
      obtain ⟨xs, h1, h2⟩ := allInts_of t
      exact ⟨(n, u) :: xs, by simp [h1], by simp [h2]⟩
theorem CallT.sum {i : Nat} {ns : List Int} (hx : H[i]? = some (.list (ns.map .int))) : CallT G d (.ext (.builtin "sum")) [.ref i] H (.int ns.sum) H := .mk fun A s al fv vs Q hA R hf hvs k => by
  cases hf
  obtain ⟨v, rfl, hv⟩ := vrs1 hvs
  obtain ⟨a, vs, n, rfl, hi, hm, ho, hl, q, hlen⟩ := R.isList hx hv
  obtain ⟨xs, h1, h2⟩ := allInts_of q
  have e : vs = intItems xs.toArray := by
    apply Array.ext'
    rw [h1]; simp [intItems]
  rw [e] at hl
  refine sum_intListG hA.handled hl fun h' tk t' hk => ?_
  have : preSum (numAt xs.toArray) xs.toArray.size = ns.sum := by
    rw [preSum_eq, List.take_of_length_le (by simp)]
    simp [h2]
  rw [this]
  exact finG k R ⟨t', rfl⟩ hk
theorem CallT.tuple {i : Nat} {xs : List AV} (hx : H[i]? = some (.list xs)) (hz : xs.length ≤ 1000000) : CallT G d (.ext (.type "tuple")) [.ref i] H (.ref H.length) (H ++ [.tup xs]) := .mk fun A s al fv vs Q hA R hf hvs k => by
  cases hf
  obtain ⟨v, rfl, hv⟩ := vrs1 hvs
  obtain ⟨a, vs, n, rfl, hi, hm, ho, hl, q, hlen⟩ := R.isList hx hv
  refine call_tuple_list hl (fun h' hk => ?_) (by rw [hlen]; exact Nat.le_trans hz (by decide))
  have R' := R.keeps hk
  have S' : Step al [] s { s with heap := h' } := Step.of_keep (tk := s.toks) hk
  refine finP (s := { s with heap := h' }) (n := s.toks) (x := .tup xs) (fun v s₂ e₂ R₂ V₂ S₂ => k v s₂ e₂ R₂ V₂ (by have := S'.trans (by simpa using S₂); simpa using this)) R' rfl (by exact ⟨vs, 0, rfl, q⟩)
end
end Mine

namespace Mine
open PySem PySem.W

/-! ## while -/
inductive WL (E : LV → List AO → Bool → List AO → Prop) (B : LV → List AO → AF → LV → List AO → Prop) : Nat → LV → List AO → LV → List AO → Prop
  | stop {n : Nat} {p : LV} {K K' : List AO} : E p K false K' → WL E B n p K p K'
  | next {n : Nat} {p p₁ p₂ : LV} {K K₁ K₂ K₃ : List AO} {f : AF} : E p K true K₁ → B p K₁ f p₁ K₂ → f = .next ∨ f = .cont → WL E B n p₁ K₂ p₂ K₃ → WL E B (n + 1) p K p₂ K₃

section
variable {G : Gd} {d : Nat} {env : Env} {r r' r₁ r₂ : LV} {H H' H₁ H₂ H₃ : List AO}

theorem Ex1.while {test : Expr} {body : List Stmt} {pos : Pos} {n : Nat} (h : WL (fun p K b K' => Et G d env test p K b K') (fun p K f p' K' => Ex G d env body p K f p' K') n r H r' H') :
    Ex1 G d env (.While test body [] pos) r H .next r' H' := .mk fun A s al Q hA R L k => by
  refine wpAny_While (codeAny_whileLoop (fun n s' => ∃ e p K, Rel G.bs (al ++ e) K s'.heap ∧ LR env (al ++ e) p s'.heap ∧ StepL env.locals al e s s' ∧ WL (fun p K b K' => Et G d env test p K b K') (fun p K f p' K' => Ex G d env body p K f p' K') n p K r' H') ?_ n
    ⟨[], r, H, by rw [List.append_nil]; exact R, by rw [List.append_nil]; exact L, StepL.refl, h⟩)
  rintro n s' ⟨e, p, K, R₁, L₁, S₁, wl⟩
  have fin : ∀ {α : Type} {m : Sem α} {P : Value → Shared → Prop} {W : α → Shared → Prop} {s : Shared}, wpAny (model G.prog G.w) A m W (fun _ _ => False) s → wpAny (model G.prog G.w) A m W P s :=
    fun hh => wpAny_mono hh (fun _ _ h => h) fun _ _ h => h.elim
  cases wl with
  | stop t =>
    refine fin (t.run hA R₁ L₁ fun s₂ e₂ R₂ L₂ S₂ => ?_)
    rw [if_neg Bool.false_ne_true]
    refine wpAny_execs_nil ?_
    exact k _ s₂ (e ++ e₂) (by simpa only [List.append_assoc] using R₂) (by simpa only [List.append_assoc] using L₂) rfl (S₁.trans S₂.toL)
  | next t b hf wl =>
    refine fin (t.run hA R₁ L₁ fun s₂ e₂ R₂ L₂ S₂ => ?_)
    rw [if_pos rfl]
    refine fin (b.go A s₂ _ _ hA R₂ L₂ fun fl s₃ e₃ R₃ L₃ F₃ S₃ => ?_)
    have fact : ∃ e p K, Rel G.bs (al ++ e) K s₃.heap ∧ LR env (al ++ e) p s₃.heap ∧ StepL env.locals al e s s₃ ∧ WL (fun p K b K' => Et G d env test p K b K') (fun p K f p' K' => Ex G d env body p K f p' K') _ p K r' H' :=
      ⟨e ++ (e₂ ++ e₃), _, _, by simpa only [List.append_assoc] using R₃, by simpa only [List.append_assoc] using L₃, S₁.trans (S₂.toL.trans S₃), wl⟩
    rcases hf with rfl | rfl
    · cases F₃; exact ⟨_, Nat.lt_succ_self _, fact⟩
    · cases F₃; exact ⟨_, Nat.lt_succ_self _, fact⟩
end

/-! ## sets of ints -/
theorem noBool_set : typeLookup (.type "set") "__bool__" = pure none := by rw [typeLookup_type, builtinLookup_eq_fast]; kernel_rfl
theorem wpAny_truthy_set {prog : Program} {w : World} {A : Around} {E : Value → Shared → Prop} {s : Shared} {a : Addr} {o : Obj} {es : Array (Int × Value)} {ep : Nat} {t : SetTable} {Q : Bool → Shared → Prop}
    (ho : s.heap.get? a = some o) (hex : o.ExactSet) (hd : o.data = .set es ep t) (hf : t.fits es.size = true) (hfit : (es.size : Int) < 2 ^ 63)
    (h : Q (decide (0 < es.size)) { s with toks := s.toks + 1 + 1 }) : wpAny (model prog w) A (truthy (.ref a)) Q E s := by
  have hT : s.TypeIs (.ref a) "set" := ⟨o, ho, hex.1⟩
  have hne : ((es.size : Int) != 0) = decide (0 < es.size) := by
    rcases Nat.eq_zero_or_pos es.size with e | e
    · rw [e]; rfl
    · rw [decide_eq_true e]; exact bne_iff_ne.mpr (by (first | lia | omega))
  have key : wpAny (model prog w) A (runValue (.builtin "len" ⟨[.ref a], []⟩)) (fun r s' => r = .int es.size (s.toks + 1) ∧ Q (decide (0 < es.size)) s') E s := by
    refine wpAny_runValue (codeAny_builtin entry_len ?_)
    rw [Around.under_plainId plain_len _]
    exact wpAny_mono (wpAny_len_body_set (Q := fun r s' => r = .int es.size (s.toks + 1) ∧ Q (decide (0 < es.size)) s') ho hex hd hf hfit ⟨rfl, h⟩)
      (fun fin s' h' => by obtain ⟨r, rfl, hq⟩ := h'; exact hq) fun _ _ e => e
  unfold truthy
  first
    | refine wpAny_bind (wpAny_callSpecial?_none (name := Str.ofString "__bool__") hT noBool_set ?_)
    | refine wpAny_bind (wpAny_pure (wpAny_bind (wpAny_callSpecial?_none (name := Str.ofString "__bool__") hT noBool_set ?_)))
  first
    | refine wpAny_bind (wpAny_specialOf (name := Str.ofString "__len__") hT F.slot_set_len.lookup ?_)
    | refine wpAny_bind (wpAny_pure (wpAny_bind (wpAny_specialOf (name := Str.ofString "__len__") hT F.slot_set_len.lookup ?_)))
  first
    | exact wpAny_bind (wpAny_mono key (fun r s' h' => by obtain ⟨rfl, hq⟩ := h'; exact wpAny_pure (hne ▸ hq)) fun _ _ e => e)
    | exact wpAny_bind (wpAny_pure (wpAny_bind (wpAny_mono key (fun r s' h' => by obtain ⟨rfl, hq⟩ := h'; exact wpAny_pure (hne ▸ hq)) fun _ _ e => e)))
theorem wpAny_choose1 {M : Model} {A : Around} {E : Value → Shared → Prop} {s : Shared} {src : Source} {Q : Nat → Shared → Prop} (h : ∀ dr, Q 0 { s with drawn := dr }) : wpAny M A (choose src 1) Q E s := fun Γ p hΓ => by
  unfold choose
  rw [Sem.wp_choose]
  refine ⟨by decide, ?_⟩
  rw [Nat.mod_one]
  exact h _
theorem arr1 {α : Type} {es : Array α} (h : es.size = 1) : ∃ e, es = #[e] := by
  obtain ⟨l⟩ := es
  obtain ⟨a, rfl⟩ := List.length_eq_one_iff.mp h
  exact ⟨a, rfl⟩
theorem popPlace1 {t : SetTable} (h : t.place.size = 1) : t.popPlace = some 0 := by
  unfold SetTable.popPlace
  rw [if_neg (by unfold Array.isEmpty; rw [h]; decide)]
  generalize SetTable.below t.place (t.finger % (t.mask + 1)) = i
  dsimp only
  rw [h]
  by_cases hi : i < 1
  · rw [if_pos hi]; congr 1; (first | lia | omega)
  · rw [if_neg hi]
theorem size_insertAt {α : Type} (xs : Array α) (p : Nat) (x : α) : (SetTable.insertAt xs p x).size = xs.size + 1 := by
  unfold SetTable.insertAt
  simp only [Array.size_append, Array.size_push, Array.size_extract]
  (first | lia | omega)
theorem fits_iff {t : SetTable} {n : Nat} : t.fits n = true ↔ t.place.size = n ∧ t.place.size + t.dummies.size ≤ t.mask := by
  unfold SetTable.fits SetTable.fill
  rw [Bool.and_eq_true, beq_iff_eq]
  exact ⟨fun h => ⟨h.1, of_decide_eq_true h.2⟩, fun h => ⟨h.1, decide_eq_true h.2⟩⟩
theorem popped0 {t : SetTable} (h1 : t.place.size = 1) : ∃ dm f, t.popped 0 = { t with place := SetTable.eraseAt t.place 0, dummies := dm, finger := f } ∧ dm.size = t.dummies.size + 1 := by
  have hj : t.place[0]? = some t.place[0] := by simp [h1]
  refine ⟨_, t.place.getD 0 0 + 1, ?_, size_insertAt t.dummies (SetTable.below t.dummies t.place[0]) t.place[0]⟩
  unfold SetTable.popped SetTable.drop
  rw [hj]
theorem popFits {t : SetTable} (h : t.fits 1 = true) : (t.popped 0).fits 0 = true := by
  obtain ⟨h1, h2⟩ := fits_iff.mp h
  obtain ⟨dm, f, e, hs⟩ := popped0 h1
  rw [e]
  have he : (SetTable.eraseAt t.place 0).size = 0 := by
    unfold SetTable.eraseAt
    simp only [Array.size_append, Array.size_extract]
    (first | lia | omega)
  exact fits_iff.mpr ⟨he, by show (SetTable.eraseAt t.place 0).size + dm.size ≤ t.mask; (first | lia | omega)⟩

section
variable {G : Gd} {d : Nat} {env : Env} {r r' r₁ r₂ : LV} {H H' H₁ H₂ H₃ : List AO}

def setS (G : Gd) (xs : List Int) : AO := .obj fun al o => Obj.SetObjOf (intKind G.prog G.w) o (fun k => decide (k ∈ xs)) xs.length
theorem Rel.isSet {h : Heap} {al : List Addr} (R : Rel G.bs al H h) {i : Nat} {xs : List Int} (hx : H[i]? = some (setS G xs)) {v : Value} (hv : VR al (.ref i) v) :
    ∃ a o, v = .ref a ∧ al[i]? = some a ∧ a ∈ al ∧ h.get? a = some o ∧ Obj.SetObjOf (intKind G.prog G.w) o (fun k => decide (k ∈ xs)) xs.length := by
  obtain ⟨a, hi, rfl⟩ := hv
  obtain ⟨o, ho, q⟩ := R.obj i a _ hi hx
  exact ⟨a, o, rfl, hi, List.mem_of_getElem? hi, ho, by have := q []; exact this⟩

theorem slot_set_pop' : Slot "set" "pop" "set.pop" := F.slot_set_pop
theorem entry_set_pop : entryFor table "set.pop" = some Builtin.«set.pop» := entryFor_of_fast (by kernel_rfl)
theorem args_set_pop (a : Value) : argsOk "set.pop" ⟨[a], []⟩ := by unfold argsOk; kernel_rfl
theorem meth_setpop : MethOK "set" "pop" "set.pop" := ⟨F.plainAttrs_set, F.slot_set_pop, F.type_set_pop⟩
theorem meth_setadd : MethOK "set" "add" "set.add" := ⟨F.plainAttrs_set, F.slot_set_add, F.type_set_add⟩
theorem IsT.set {i : Nat} {xs : List Int} (hx : H[i]? = some (setS G xs)) : IsT G (.ref i) H "set" := fun al v s R hv => by
  obtain ⟨a, o, rfl, hi, hm, ho, hs⟩ := R.isSet hx hv
  exact ⟨⟨o, ho, hs.1.1⟩, fun b e => by cases e; exact ⟨o, ho, hs.1.2.1⟩⟩

theorem CallT.set0 : CallT G d (.ext (.type "set")) [] H (.ref H.length) (H ++ [setS G []]) := .mk fun A s al fv vs Q hA R hf hvs k => by
  cases hf
  cases hvs
  refine call_set_0 fun led => ?_
  exact finP (n := s.toks) k R rfl (fun e => by
    have := PyProof.Rows.setObjOf_fresh (knd := intKind G.prog G.w) led
    simpa using this)

theorem CallT.setadd {i : Nat} {xs : List Int} {k : Int} (hx : H[i]? = some (setS G xs)) (hk : k ∉ xs) (hz : xs.length < 4000) : CallT G d (.ext (.builtin "set.add")) [.ref i, .int k] H .none (H.set i (setS G (xs ++ [k]))) := .mk fun A s al fv vs Q hA R hf hvs K => by
  cases hf
  obtain ⟨v, u, rfl, hv, hu⟩ := vrs2 hvs
  obtain ⟨a, o, rfl, hi, hm, ho, hs⟩ := R.isSet hx hv
  obtain ⟨t, rfl⟩ := hu
  refine call_set_add (knd := intKind G.prog G.w) (intKind_is G.prog G.w k t) rfl (hs.setOf ho (by unfold scanBound; (first | lia | omega))) (by unfold scanBound; (first | lia | omega)) fun h' hb hS' => ?_
  obtain ⟨o', ho', hs'⟩ := hS'.objOf
  have hS1 : Obj.SetObjOf (intKind G.prog G.w) o' (fun k' => decide (k' ∈ xs ++ [k])) (xs ++ [k]).length := by
    have e1 : (fun k' => decide (k' ∈ xs) || decide (k' = k)) = fun k' => decide (k' ∈ xs ++ [k]) := by
      funext k'; simp [List.mem_append]
    rw [e1, if_neg (by simpa using hk)] at hs'
    simpa using hs'
  exact K _ _ [] (by rw [List.append_nil]; exact R.update hi (fun b o' hb' e => (hb.2 b hb').trans e) ho' (fun e => hS1)) rfl (Step.same hb ho' hm)

theorem Opr.inSet {i : Nat} {xs : List Int} {k : Int} (hx : H[i]? = some (setS G xs)) (hz : xs.length < 4000) : Opr G d (compareOp .In) (.int k) (.ref i) H (.bool (decide (k ∈ xs))) H := .mk fun A s al x y Q hA R hv hw K => by
  obtain ⟨a, o, rfl, hi, hm, ho, hs⟩ := R.isSet hx hw
  obtain ⟨t, rfl⟩ := hv
  exact wpAny_inSet_of (knd := intKind G.prog G.w) (intKind_is G.prog G.w k t) rfl (hs.setOf ho (by unfold scanBound; (first | lia | omega))) (fin0 K R rfl)


theorem Tru.set {i : Nat} {xs : List Int} (hx : H[i]? = some (setS G xs)) (hz : xs.length < 4000) : Tru G (.ref i) H (!xs.isEmpty) := .mk fun A s al v Q R hv k => by
  obtain ⟨a, o, rfl, hi, hm, ho, hs⟩ := R.isSet hx hv
  obtain ⟨hex, es, ep, t, hd, hel, hmem, hn, hf⟩ := hs
  refine wpAny_truthy_set ho hex hd hf (by (first | lia | omega)) ?_
  have e : decide (0 < es.size) = !xs.isEmpty := by
    rw [hn]; cases xs <;> simp
  rw [e]; exact k _

theorem CallT.setpop {i : Nat} {x : Int} (hx : H[i]? = some (setS G [x])) : CallT G d (.ext (.builtin "set.pop")) [.ref i] H (.int x) (H.set i (setS G [])) := .mk fun A s al fv vs Q hA R hf hvs K => by
  cases hf
  obtain ⟨v, rfl, hv⟩ := vrs1 hvs
  obtain ⟨a, o, rfl, hi, hm, ho, hs⟩ := R.isSet hx hv
  obtain ⟨hex, es, ep, t, hd, hel, hmem, hn, hf⟩ := hs
  have hn1 : es.size = 1 := hn
  obtain ⟨e0, he0⟩ := arr1 hn1
  subst he0
  obtain ⟨h0, v0⟩ := e0
  obtain ⟨e1, he1, hk1⟩ := (hmem x).mp (by simp)
  have : e1 = (h0, v0) := by simpa using he1
  subst this
  obtain ⟨tk, rfl⟩ := Value.isInt_shape hk1
  have hp1 : t.place.size = 1 := by
    have := hf
    simp only [SetTable.fits, Bool.and_eq_true, beq_iff_eq] at this
    exact this.1
  refine wpAny_call_entry F.slot_set_pop ⟨o, ho, hex.1⟩ entry_set_pop ?_ (args_set_pop _)
  unfold Builtin.«set.pop»
  refine wpAny_bind (m := Builtin.Frozenset.noArgs "pop" _) (wpAny_of_eq (a := a) rfl ?_)
  have ho' : (s.heap.update a (Obj.putSet #[] (t.popped 0))).get? a = some { o with data := .set #[] (ep + 1) (t.popped 0) } := by
    have := Heap.get?_update_self (Obj.putSet #[] (t.popped 0)) ho (by rw [putSet_of _ _ hd]; rfl)
    rw [putSet_of _ _ hd] at this; exact this
  have fin : ∀ dr, Q (.int x tk) { s with heap := s.heap.update a (Obj.putSet #[] (t.popped 0)), drawn := dr } := fun dr => by
    refine K _ _ [] (by rw [List.append_nil]; exact R.update hi (fun b o' hb' e => (Heap.get?_update_other _ _ (Ne.symm hb')).trans e) ho' (fun e => (show Obj.SetObjOf (intKind G.prog G.w) _ (fun k => decide (k ∈ [])) 0 from ⟨hex, #[], ep + 1, t.popped 0, rfl, fun e he => by simp at he, fun k => by simp, rfl, popFits hf⟩))) ⟨tk, rfl⟩ ?_
    · have S := Step.same (al := al) (s := s) (tk := s.toks) (Heap.SameBut.update s.heap a (Obj.putSet #[] (t.popped 0))) ho' hm
      exact ⟨S.keep, S.dom, S.new, S.gens, S.os⟩
  refine wpAny_bind ?_
  unfold setPop
  refine wpAny_bind (wpAny_setState_of ho hd hf ?_)
  dsimp only
  rw [popPlace1 hp1]
  dsimp only
  have store : ∀ dr, wpAny (model G.prog G.w) A.in1 (storeSet a (SetTable.eraseAt #[(h0, Value.int x tk)] 0) (t.popped 0)) (fun _ s' => Q (.int x tk) s') (fun _ _ => False) { s with drawn := dr } := fun dr =>
    wpAny_storeSet_of (s := { s with drawn := dr }) ho hd (fin dr) (by show 0 ≤ sizeLine; exact Nat.zero_le _)
  have tail : ∀ dr (W : Option Value → Shared → Prop), (∀ s', Q (.int x tk) s' → W (some (.int x tk)) s') → wpAny (model G.prog G.w) A.in1 (storeSet a (SetTable.eraseAt #[(h0, Value.int x tk)] 0) (t.popped 0) >>= fun _ => pure (some (Value.int x tk))) W (fun _ _ => False) { s with drawn := dr } := fun dr W hW =>
    wpAny_bind (wpAny_mono (store dr) (fun _ s' h => wpAny_pure (hW _ h)) fun _ _ e => e)
  have get0 : (#[(h0, Value.int x tk)] : Array (Int × Value))[0]? = some (h0, Value.int x tk) := rfl
  refine wpAny_bind (wpAny_bind ?_)
  refine wpAny_askSetting (wpAny_pure ?_)
  refine wpAny_ite_split (fun _ => ?_) (fun _ => ?_)
  · refine wpAny_bind (wpAny_choose1 fun dr => ?_)
    rw [get0]
    exact tail dr _ fun s' h => wpAny_pure ⟨_, rfl, h⟩
  · refine wpAny_bind (wpAny_ite_split (fun hb => ?_) (fun _ => ?_))
    · simp at hb
    · refine wpAny_pure (wpAny_bind (wpAny_pure ?_))
      rw [get0]
      exact tail s.drawn _ fun s' h => wpAny_pure ⟨_, rfl, h⟩
end
end Mine

namespace Mine
open PySem PySem.W

section
variable {prog : Program} {w : World} {A : Around} {E : Value → Shared → Prop} {s : Shared}
def led0 (w : World) : Bool := !(w.params.followText "set-order")
abbrev fresh0 (w : World) : Obj := { cls := .type "set", dict := none, data := .set #[] 0 (.fresh 0 0 (led0 w)) }

theorem code_set_newL {Q₁ : Value → Shared → Prop} (h : Q₁ (.ref s.heap.objs.size) { s with heap := s.heap.push (fresh0 w) }) :
    codeAny (model prog w) A (.call (.builtin "set.__new__") ⟨[.type "set"], []⟩) (wants Q₁ E) s := by
  refine codeAny_of_tree ?_
  show wpAny _ A.in1 (do checkBuiltinCall "set.__new__" ⟨[.type "set"], []⟩; again (.builtin "set.__new__" ⟨[.type "set"], []⟩)) _ _ s
  refine wpAny_bind (wpAny_of_eq F.newCall_set_0 (wpAny_pure ⟨plainId_quiet F.plain_set_new _, codeAny_builtin F.entry_set_new ?_⟩))
  rw [Around.under_plainId F.plain_set_new _]
  unfold Builtin.«set.__new__» Builtin.Frozenset.newClass
  have hsub := sub_set_self
  obtain ⟨hp, g, d, tk, os⟩ := s
  dsimp only
  wp_walk
  refine wpAny_askSetting (wpAny_pure ?_)
  dsimp only
  simp only [newObj]
  refine wpAny_bind (wpAny_alloc (wpAny_pure ?_))
  exact wpAny_pure h

set_option maxHeartbeats 1000000 in
theorem call_set_L {Q : Value → Shared → Prop} (h : Q (.ref s.heap.objs.size) { s with heap := s.heap.push (fresh0 w) }) :
    wpAny (model prog w) A (call (.type "set") []) Q E s := by
  obtain ⟨c, tl, hmro⟩ := F.called_set.mro
  have hmade := F.called_set.made
  have hsub := F.called_set.sub
  refine wpAny_call (codeAny_of_tree ?_)
  show wpAny _ _ (callAny (.type "set") _) _ _ _
  refine wpAny_pure ⟨Code.quiet_builtin _ (by decide +kernel), codeAny_builtin F.entry_type_call ?_⟩
  rw [Around.under_plain (weight_type_call_type "set" [] []) rfl]
  have h1 := F.called_set.notType
  have h2 := F.called_set.canCreate
  have hct := F.typeCall_set_0
  repeat (any_goals (first | assumption | wp_step))
  refine codeAny_mono (code_set_newL (E := E) (Q₁ := fun obj s₁ => obj = .ref s.heap.objs.size ∧ s₁ = { s with heap := s.heap.push (fresh0 w) }) ⟨rfl, rfl⟩) fun r s₁ hr => ?_
  cases r with
  | error e => exact hr
  | ok fl =>
    cases fl with
    | ret obj =>
      obtain ⟨rfl, rfl⟩ := hr
      have hS : (s.heap.push (fresh0 w)).get? s.heap.objs.size = some (fresh0 w) := Heap.get?_push_size _ rfl
      have hT : Shared.TypeIs { s with heap := s.heap.push (fresh0 w) } (.ref s.heap.objs.size) "set" := ⟨_, hS, rfl⟩
      have hli := F.called_set.init.lookup
      have hbi := F.called_set.init.bind (.ref s.heap.objs.size)
      repeat (any_goals (first | assumption | wp_step))
      refine codeAny_mono (codeAny_call_builtin (R := wants (fun r s₂ => r = .none ∧ Q (.ref s.heap.objs.size) s₂) E) F.called_set.init.plain F.entry_set_init (check_set_init hT ?_)) fun r₂ s₂ hr₂ => ?_
      · unfold Builtin.«set.__init__» noKeywords
        wp_walk
        exact ⟨rfl, h⟩
      · cases r₂ with
        | error e => exact hr₂
        | ok fl₂ =>
          cases fl₂ with
          | ret r =>
            obtain ⟨rfl, hq⟩ := hr₂
            repeat (any_goals (first | assumption | wp_step))
          | _ => exact hr₂.elim
    | _ => exact hr.elim
end

/-! ## a set of one small int, laid once -/
abbrev tab1 (k : Nat) (led : Bool) : SetTable := { mask := 7, place := #[k], dummies := #[], finger := 0, led := led, moves := 0, plain := true }
abbrev one1 (w : World) (k : Nat) (tk : Tok) (ep : Nat) : Obj := { cls := .type "set", dict := none, data := .set #[((k : Int), .int (k : Int) tk)] ep (tab1 k (led0 w)) }
def setF (G : Gd) : AO := .obj fun al o => o = fresh0 G.w
def set1 (G : Gd) (k : Nat) : AO := .obj fun al o => ∃ tk ep, o = one1 G.w k tk ep

theorem lay1 (k : Nat) (hk : k = 1 ∨ k = 2 ∨ k = 3 ∨ k = 4) (led : Bool) (tk : Tok) : layNew (.fresh 0 0 led) #[] (hashInt (k : Int)) (.int (k : Int) tk) = (#[((k : Int), .int (k : Int) tk)], tab1 k led, false, false) := by
  rcases hk with rfl | rfl | rfl | rfl <;> cases led <;> rfl

section
variable {G : Gd} {d : Nat} {env : Env} {r r' r₁ r₂ : LV} {H H' H₁ H₂ H₃ : List AO}
theorem IsT.setF {i : Nat} (hx : H[i]? = some (setF G)) : IsT G (.ref i) H "set" := fun al v s R hv => by
  obtain ⟨a, hi, rfl⟩ := hv
  obtain ⟨o, ho, q⟩ := R.obj i a _ hi hx
  have := q []
  subst this
  exact ⟨⟨_, ho, rfl⟩, fun b e => by cases e; exact ⟨_, ho, rfl⟩⟩
theorem CallT.setL : CallT G d (.ext (.type "set")) [] H (.ref H.length) (H ++ [setF G]) := .mk fun A s al fv vs Q hA R hf hvs k => by
  cases hf
  cases hvs
  exact call_set_L (finP (n := s.toks) k R rfl (fun e => rfl))

theorem CallT.setadd1 {i k : Nat} (hx : H[i]? = some (setF G)) (hk : k = 1 ∨ k = 2 ∨ k = 3 ∨ k = 4) : CallT G d (.ext (.builtin "set.add")) [.ref i, .int (k : Int)] H .none (H.set i (set1 G k)) := .mk fun A s al fv vs Q hA R hf hvs K => by
  cases hf
  obtain ⟨v, u, rfl, hv, hu⟩ := vrs2 hvs
  obtain ⟨a, hi, rfl⟩ := hv
  obtain ⟨tk, rfl⟩ := hu
  obtain ⟨o, ho, q⟩ := R.obj i a _ hi hx
  have := q []
  subst this
  have hm := List.mem_of_getElem? hi
  refine wpAny_call_entry F.slot_set_add ⟨_, ho, rfl⟩ F.entry_set_add ?_ (F.args_set_add_2 _ _)
  unfold Builtin.«set.add» Builtin.Frozenset.oneOther
  simp only [List.isEmpty_nil, bind_assoc]
  unfold Builtin.Frozenset.addrOf setAdd
  refine wpAny_bind (wpAny_pure ?_)
  try dsimp only
  refine wpAny_bind (wpAny_pure ?_)
  try dsimp only
  refine wpAny_bind ?_
  refine wpAny_holding ?_
  have hkey : (intKind G.prog G.w).is (k : Int) (.int (k : Int) tk) = true := intKind_is G.prog G.w k tk
  refine wpAny_bind ((intKind G.prog G.w).pyHash hkey ?_)
  unfold setAddHashed setAddHashedIn
  refine wpAny_holding (wpAny_bind (wpAny_setState_of (s := { s with toks := s.toks + 1 }) ho rfl rfl ?_))
  dsimp only
  rw [if_pos (byScan_of (knd := intKind G.prog G.w) rfl (by decide) (fun e he => by simp at he))]
  unfold setAddByScan
  refine wpAny_bind ?_
  refine wpAny_bind (wpAny_rule ?_)
  refine wpAny_bind (wpAny_setScan_of (knd := intKind G.prog G.w) (s := { s with toks := s.toks + 1 }) hkey ho rfl rfl (fun e he => by simp at he) ?_)
  dsimp only [List.findIdx?_nil]
  rw [show (intKind G.prog G.w).hash (k : Int) = hashInt (k : Int) from rfl, lay1 k hk]
  dsimp only
  refine wpAny_bind (wpAny_pure ?_)
  refine wpAny_bind (wpAny_pure ?_)
  rw [if_pos rfl]
  refine wpAny_bind (wpAny_storeSet_of (s := { s with toks := s.toks + 1 }) ho rfl ?_ (by show 1 ≤ sizeLine; rw [sizeLine_eq]; decide))
  have htf : (!false && (tab1 k (led0 G.w)).tooFull) = false := rfl
  rw [if_neg (by rw [htf]; exact Bool.false_ne_true)]
  have ho' : (s.heap.update a (Obj.putSet #[((k : Int), Value.int (k : Int) tk)] (tab1 k (led0 G.w)))).get? a = some (one1 G.w k tk 1) := by
    have e := putSet_of (o := fresh0 G.w) (ep := 0) #[((k : Int), Value.int (k : Int) tk)] (tab1 k (led0 G.w)) rfl
    have := Heap.get?_update_self (Obj.putSet #[((k : Int), Value.int (k : Int) tk)] (tab1 k (led0 G.w))) ho (by rw [e]; rfl)
    rw [e] at this; exact this
  have fin : Q .none { s with heap := s.heap.update a (Obj.putSet #[((k : Int), Value.int (k : Int) tk)] (tab1 k (led0 G.w))), toks := s.toks + 1 } := by
    refine K _ _ [] (by rw [List.append_nil]; exact R.update hi (fun b o' hb' e => (Heap.get?_update_other _ _ (Ne.symm hb')).trans e) ho' (fun e => ⟨tk, 1, rfl⟩)) rfl ?_
    exact Step.same (Heap.SameBut.update s.heap a (Obj.putSet #[((k : Int), Value.int (k : Int) tk)] (tab1 k (led0 G.w)))) ho' hm
  exact wpAny_pure (wpAny_pure (wpAny_pure ⟨_, rfl, fin⟩))
end
end Mine

namespace Mine
open PySem PySem.W

section
variable {G : Gd} {d : Nat} {env : Env} {r r' r₁ r₂ : LV} {H H' H₁ H₂ H₃ : List AO}

theorem Ev.setD {e : Expr} {pos : Pos} {k : Int} {nm : Str} (hc : G.h₀.CodeRec env.code nm) (h1 : Ev G d env e r H (.int k) H₁) (hp : [e].all kdsPlain = true := by rfl) :
    Ev G d env (.Set [e] 0 pos) r H (.ref H₁.length) (H₁ ++ [setS G [k]]) := .mk fun A s al Q hA R L K => by
  rw [arm_eval_Set]
  refine wpAny_bind (wpAny_standAt ?_)
  have main : ∀ {P : Bool → Shared → Prop} {E : Value → Shared → Prop}, (∀ b, P b s) → wpAny (model G.prog G.w) A (inMainModule env) P E s := by
    intro P E h
    obtain ⟨c, o, vs, t, hcd, ho, hd, _⟩ := hc
    unfold inMainModule
    try dsimp only
    rw [hcd]
    split
    · exact wpAny_pure (h _)
    · refine wpAny_bind (wpAny_fieldsOf (R.base _ _ ho) hd ?_)
      split
      · exact wpAny_bind (wpAny_askSetting (wpAny_pure (h _)))
      · exact wpAny_pure (h _)
  refine wpAny_bind (main fun b => ?_)
  rw [kds_star [e] hp, List.map_map]
  refine kds_core (ts := (evalEach [e] env).map fun t => do let v ← t; standAt pos; pure v) rfl ?_ ?_ ?_ fun led => ?_
  · refine List.findIdx?_eq_none_iff.mpr fun x hx => ?_
    obtain ⟨t, _, rfl⟩ := List.mem_map.mp hx
    rfl
  · rw [List.length_map, kds_len]; show 1 ≤ 30; decide
  · rw [List.map_map]; try rfl
  · refine kds_all pos [e] _ _ ?_
    have hk : ∀ b o, s.heap.get? b = some o → (s.heap.push { cls := .type "set", dict := none, data := .set #[] 0 (.fresh 0 0 led) }).get? b = some o := fun b o e => Heap.get?_push_of_some _ e
    have S0 : Step al [] s { s with heap := s.heap.push { cls := .type "set", dict := none, data := .set #[] 0 (.fresh 0 0 led) } } := Step.pushG
    refine h1.run hA (s := { s with heap := s.heap.push { cls := .type "set", dict := none, data := .set #[] 0 (.fresh 0 0 led) } }) (R.keeps hk) (by simpa using L.step S0) fun v s₁ e₁ R₁ L₁ V₁ S₁ => ?_
    have hD : s.heap.objs.size ∉ al := size_notIn R
    have ho : s₁.heap.get? s.heap.objs.size = some { cls := .type "set", dict := none, data := .set #[] 0 (.fresh 0 0 led) } := S₁.keep _ _ hD (Heap.get?_push_size _ rfl)
    obtain ⟨t, rfl⟩ := V₁
    show wpAny _ _ (setAdd s.heap.objs.size (.int k t)) _ _ _
    have hS : s₁.heap.SetOf (intKind G.prog G.w) s.heap.objs.size (fun _ => false) 0 := (PyProof.Rows.setObjOf_fresh led).setOf ho (by decide)
    unfold setAdd
    refine wpAny_holding (wpAny_bind ((intKind G.prog G.w).pyHash (intKind_is G.prog G.w k t) ?_))
    refine wpAny_setAddHashed_of (knd := intKind G.prog G.w) (s := { s₁ with toks := s₁.toks + 1 }) (intKind_is G.prog G.w k t) rfl hS (by decide) fun h' hs hS' => ?_
    obtain ⟨o', ho', hs'⟩ := hS'.objOf
    replace hs : Heap.SameBut s.heap.objs.size s₁.heap h' := hs
    refine kds_fill_nil rfl ?_
    have hD1 : s.heap.objs.size ∉ al ++ e₁ := fun hm => by
      rcases List.mem_append.mp hm with hm | hm
      · exact hD hm
      · have := S₁.new _ hm
        rw [show ({ s with heap := s.heap.push { cls := .type "set", dict := none, data := .set #[] 0 (.fresh 0 0 led) } } : Shared).heap.get? s.heap.objs.size = _ from Heap.get?_push_size _ rfl] at this; cases this
    have hD0 : G.h₀.get? s.heap.objs.size = none := none_of R (get_size _)
    have hq : OR (al ++ e₁) o' (setS G [k]) := fun e => by
      have e1 : (fun k' => (false || decide (k' = k))) = fun k' => decide (k' ∈ [k]) := by
        funext k'; simp
      rw [e1] at hs'
      exact hs'
    have R₂ := (R₁.other (h' := h') hD1 hD0 hs.extBut).adopt hD1 hD0 ho' hq
    have hlen1 : H₁.length = (al ++ e₁).length := R₁.len.symm
    have S : Step al e₁ s s₁ := by have := S0.trans (by simpa using S₁); simpa using this
    refine K _ _ (e₁ ++ [s.heap.objs.size]) (by simpa only [List.append_assoc] using R₂) ⟨_, by rw [hlen1, ← List.append_assoc]; simp, rfl⟩ ?_
    refine ⟨fun b o hb e => (hs.2 b (fun x => by subst x; rw [get_size] at e; cases e)).trans (S.keep b o hb e), fun b e => ?_, fun a ha => ?_, S.gens, S.os⟩
    · show (h'.get? b).isSome = true
      rw [hs.2 b (fun x => by subst x; rw [get_size] at e; cases e)]; exact S.dom b e
    · rcases List.mem_append.mp ha with ha | ha
      · exact S.new a ha
      · rw [List.mem_singleton.mp ha]; exact get_size _

theorem Tru.set1 {i k : Nat} (hx : H[i]? = some (set1 G k)) : Tru G (.ref i) H true := .mk fun A s al v Q R hv K => by
  obtain ⟨a, hi, rfl⟩ := hv
  obtain ⟨o, ho, q⟩ := R.obj i a _ hi hx
  obtain ⟨tk, ep, rfl⟩ := q []
  exact wpAny_truthy_set ho ⟨rfl, rfl, rfl⟩ rfl rfl (by show ((1 : Nat) : Int) < 2 ^ 63; decide) (K _)

/-! ## a list's iterator that the program holds -/
def itL (j i : Nat) : AO := .obj fun al o => ∃ a, al[j]? = some a ∧ o = { cls := .type "list_iterator", data := .fields #[.ref a, .int (i : Int) 0] }
def itE : AO := .obj fun al o => True

theorem CallT.iterL {j : Nat} {xs : List AV} (hx : H[j]? = some (.list xs)) : CallT G d (.ext (.builtin "iter")) [.ref j] H (.ref H.length) (H ++ [itL j 0]) := .mk fun A s al fv vs Q hA R hf hvs K => by
  cases hf
  obtain ⟨v, rfl, hv⟩ := vrs1 hvs
  obtain ⟨a, ys, n, rfl, hi, hm, ho, hl, q, hlen⟩ := R.isList hx hv
  refine PySem.Calls.call_function_entry (by decide +kernel) (by decide +kernel) kdk_entry_iter (kdk_args_iter _) ?_
  unfold Builtin.«iter»
  refine wpAny_bind (m := someArgs "iter" 1 2 _) (wpAny_of_eq (a := [Value.ref a]) (by first | rfl | kernel_rfl!) ?_)
  show wpAny _ _ (pyIter (.ref a) >>= _) _ _ _
  refine wpAny_bind (wpAny_pyIter_list hl ?_)
  exact wpAny_pure ⟨_, rfl, finP (n := s.toks) K R rfl (fun e => ⟨a, get_app hi, rfl⟩)⟩

theorem Rel.isItL {h : Heap} {al : List Addr} (R : Rel G.bs al H h) {i j k : Nat} {xs : List AV} (hi : H[i]? = some (itL j k)) (hx : H[j]? = some (.list xs)) {v : Value} (hv : VR al (.ref i) v) :
    ∃ I a vs o, v = .ref I ∧ al[i]? = some I ∧ I ∈ al ∧ h.get? I = some o ∧ al[j]? = some a ∧ h.IsListIter I a k ∧ h.IsList a vs ∧ VRs al xs vs.toList ∧ vs.size = xs.length := by
  obtain ⟨I, hI, rfl⟩ := hv
  obtain ⟨o, ho, q⟩ := R.obj i I _ hI hi
  obtain ⟨a, ha, e⟩ := q []
  rw [List.append_nil] at ha
  obtain ⟨a', vs, n, e', ha', hm, ho', hl, q', hlen⟩ := R.isList hx (v := .ref a) ⟨a, ha, rfl⟩
  cases e'
  exact ⟨I, a, vs, o, rfl, hI, List.mem_of_getElem? hI, ho, ha, ⟨o, ho, by rw [e], by rw [e]⟩, hl, q', hlen⟩

theorem CallT.nextL {i j k : Nat} {xs : List AV} {x : AV} (hi : H[i]? = some (itL j k)) (hj : H[j]? = some (.list xs)) (hx : xs[k]? = some x) : CallT G d (.ext (.builtin "next")) [.ref i] H x (H.set i (itL j (k + 1))) := .mk fun A s al fv vs Q hA R hf hvs K => by
  cases hf
  obtain ⟨v, rfl, hv⟩ := vrs1 hvs
  obtain ⟨I, a, ys, o, rfl, hI, hm, ho, ha, hit, hl, q, hlen⟩ := R.isItL hi hj hv
  obtain ⟨y, hy, qy⟩ := paired_get q hx
  refine PySem.Calls.call_function_entry (by decide +kernel) (by decide +kernel) kdk_entry_next (kdk_args_next _) ?_
  unfold Builtin.«next»
  refine wpAny_bind (m := someArgs "next" 1 2 _) (wpAny_of_eq (a := [Value.ref I]) (by first | rfl | kernel_rfl!) ?_)
  dsimp only
  refine wpAny_bind (wpAny_specialOf (name := Str.ofString "__next__") hit.typeIs slot_listiter_next.lookup ?_)
  refine wpAny_ite_split (fun hab => absurd hab (by decide)) (fun _ => ?_)
  obtain ⟨o, ho, hc, hd⟩ := id hit
  obtain ⟨ol, hol, _, nl, hdl⟩ := hl
  have hyk : ys[k]? = some y := by simpa using hy
  refine wpAny_bind (wpAny_callSpecial?_slot (name := Str.ofString "__next__") hit.typeIs slot_listiter_next
    (wpAny_call_entry slot_listiter_next hit.typeIs entry_listiter_next ?_ (args_listiter_next _)))
  show wpAny _ _ (field (.ref I) 0 >>= _) _ _ s
  refine wpAny_bind (wpAny_field ho hd (x := .ref a) rfl ?_)
  show wpAny _ _ (if (Value.ref a == Value.none) = true then _ else _) _ _ s
  rw [if_neg (show ¬ ((Value.ref a == Value.none) = true) from Bool.false_ne_true)]
  show wpAny _ _ (field (.ref I) 1 >>= _) _ _ s
  refine wpAny_bind (wpAny_field ho hd (x := .int k 0) rfl ?_)
  show wpAny _ _ (seqItems? (.ref a) >>= _) _ _ s
  refine wpAny_bind (wpAny_seqItems hol hdl ?_)
  simp only [Int.toNat_natCast, hyk]
  have ho0 : o = { cls := .type "list_iterator", data := .fields #[.ref a, .int (k : Int) 0] } := by
    obtain ⟨o2, ho2, q2⟩ := R.obj i I _ hI hi
    rw [ho] at ho2; cases ho2
    obtain ⟨a2, ha2, e2⟩ := q2 []
    rw [List.append_nil, ha] at ha2; cases ha2
    exact e2
  subst ho0
  refine wpAny_bind (wpAny_setField ho hd (by simp) (wpAny_pure ⟨y, rfl, wpAny_pure ⟨_, rfl, ?_⟩⟩))
  have ho' := Heap.get?_update_self (Obj.mapFields (·.setIfInBounds 1 (rawInt ((k : Int) + 1)))) ho (Obj.isFreed_of_fields (Obj.data_mapFields hd _))
  have hk : ∀ b o', b ≠ I → s.heap.get? b = some o' → (s.heap.update I (Obj.mapFields (·.setIfInBounds 1 (rawInt ((k : Int) + 1))))).get? b = some o' := fun b o' hb e => (Heap.get?_update_other _ _ (Ne.symm hb)).trans e
  refine K _ _ [] (by rw [List.append_nil]; exact R.update hI hk ho' (fun e => by exact ⟨a, get_app ha, by simp [Obj.mapFields, rawInt]⟩)) (by rw [List.append_nil]; exact qy) (Step.same (Heap.SameBut.update ..) ho' hm)

theorem pyNext_list_end' {A : Around} {E : Value → Shared → Prop} {s : Shared} {it l : Addr} {i : Nat} {items} {Q : Option Value → Shared → Prop} (hh : A.handled = none)
    (hit : s.heap.IsListIter it l i) (hl : s.heap.IsList l items) (hx : items[i]? = none)
    (hQ : ∀ h' o', Heap.ExtBut it s.heap h' → h'.get? it = some o' → Q none { s with heap := h' }) : wpAny (model G.prog G.w) A (pyNext (.ref it)) Q E s := by
  obtain ⟨o, ho, hc, hd⟩ := id hit
  obtain ⟨ol, hol, _, nl, hdl⟩ := hl
  unfold pyNext
  refine wpAny_bind (wpAny_attempt (wpAny_callSpecial?_slot (name := Str.ofString "__next__") hit.typeIs slot_listiter_next
    (wpAny_call_entry slot_listiter_next hit.typeIs entry_listiter_next ?_ (args_listiter_next _))))
  show wpAny _ _ (field (.ref it) 0 >>= _) _ _ s
  refine wpAny_bind (wpAny_field ho hd (x := .ref l) rfl ?_)
  show wpAny _ _ (if (Value.ref l == Value.none) = true then _ else _) _ _ s
  rw [if_neg (show ¬ ((Value.ref l == Value.none) = true) from Bool.false_ne_true)]
  show wpAny _ _ (field (.ref it) 1 >>= _) _ _ s
  refine wpAny_bind (wpAny_field ho hd (x := .int i 0) rfl ?_)
  show wpAny _ _ (seqItems? (.ref l) >>= _) _ _ s
  refine wpAny_bind (wpAny_seqItems hol hdl ?_)
  simp only [Int.toNat_natCast, hx]
  refine wpAny_bind (wpAny_rule (wpAny_bind (wpAny_setField ho hd (by simp) ?_)))
  show wpAny _ _ (newExc (.type "StopIteration") [] >>= _) _ _ _
  refine wpAny_bind ?_
  simp only [newExc, newTuple]
  refine wpAny_bind (wpAny_newObj_type ?_ (by size_fits))
  refine wpAny_bind (m := firstArgMember _ _) (wpAny_of_eq (a := Value.none) (by first | rfl | (simp only [firstArgMember]; rfl)) ?_)
  refine wpAny_newObj_type ?_ (by size_fits)
  simp only [raiseNew]
  refine wpAny_bind (wpAny_handled ?_)
  rw [show A.in1.handled = none from hh]
  refine wpAny_bind (wpAny_pure (wpAny_throw ?_))
  refine wpAny_bind (wpAny_isInstance (T := "StopIteration") (b := true) ⟨_, Heap.get?_push_size _ rfl, rfl⟩ isSubtype_stop ?_)
  exact wpAny_pure (hQ _ _ (((Heap.SameBut.update ..).extBut.push _).push _) (Heap.get?_push_of_some _ (Heap.get?_push_of_some _ (Heap.get?_update_self _ ho (Obj.isFreed_of_fields (Obj.data_mapFields hd _))))))

theorem Ex1.forDone {target iter : Expr} {body : List Stmt} {pos : Pos} {i j k : Nat} {xs : List AV} (hE : EnvOK G env) (h1 : Ev G d env iter r H (.ref i) H₁) (hi : H₁[i]? = some (itL j k)) (hj : H₁[j]? = some (.list xs)) (hk : xs.length ≤ k)
    (ht : ∀ it v, letOwnedTupleGo target it v = pure () := by intro _ _; rfl) (hs : ∀ x, foldedSetIterable iter env x = pure x := by intro _; rfl) : Ex1 G d env (.For target iter body [] pos) r H .next r (H₁.set i itE) := .mk fun A s al Q hA R L K => by
  refine wpAny_For (h1.run (Q := fun v s₁ => wpAny (model G.prog G.w) A (pyIter v) _ _ s₁) hA R L fun v s₁ e₁ R₁ L₁ V₁ S₁ => ?_) hs
  obtain ⟨I, a, ys, o, rfl, hI, hm, ho, ha, hit, hl, q, hlen⟩ := R₁.isItL hi hj V₁
  refine wpAny_pyIter_listiter hit ?_
  refine codeAny_forLoop (fun n s' => s' = s₁) ?_ 0 rfl (ht _)
  rintro n s' rfl
  refine pyNext_list_end' hA.handled hit hl (by rw [Array.getElem?_eq_none_iff, hlen]; exact hk) fun h' o' he ho' => ?_
  refine wpAny_execs_nil ?_
  have hk2 : ∀ b o2, b ≠ I → s'.heap.get? b = some o2 → h'.get? b = some o2 := fun b o2 hb e => he b o2 hb e
  have R₂ : Rel G.bs (al ++ e₁) (H₁.set i itE) h' := R₁.update hI hk2 ho' (fun _ => trivial)
  have hIL : I ≠ env.locals := fun x => by subst x; exact L₁.off hm
  refine K _ _ e₁ R₂ (L₁.other hIL he) rfl ?_
  have S₂ : Step (al ++ e₁) [] s' { s' with heap := h' } := ⟨fun b o2 hb e => hk2 b o2 (fun x => hb (x ▸ hm)) e, fun b e => by
    by_cases hb : b = I
    · subst hb; show (h'.get? b).isSome = true; rw [ho']; rfl
    · obtain ⟨o2, ho2⟩ := Option.isSome_iff_exists.mp e
      show (h'.get? b).isSome = true
      rw [hk2 b o2 hb ho2]; rfl, (fun _ h => by cases h), rfl, rfl⟩
  have := S₁.trans S₂
  rw [List.append_nil] at this
  exact this.toL
end
end Mine

namespace Mine
open PySem PySem.W

theorem entry_set_iter : entryFor table "set.__iter__" = some Builtin.«frozenset.__iter__» :=
  entryFor_alias (id' := "frozenset.__iter__") (by kernel_rfl) rfl (by decide +kernel) (by kernel_rfl)
theorem slot_si_next : Slot "set_iterator" "__next__" "set_iterator.__next__" :=
  .of (owner := "set_iterator") (n := "__next__") (by rw [typeLookup_type, builtinLookup_eq_fast]; kernel_rfl) (by decide +kernel) (by decide +kernel) (by decide +kernel)
    (by first | exact .inl (by decide +kernel) | exact .inr (by decide +kernel)) (by rw [isSubtype_type]; kernel_rfl)
theorem entry_si_next : entryFor table "set_iterator.__next__" = some Builtin.«set_iterator.__next__» := entryFor_of_fast (by kernel_rfl)
theorem slot_si_iter : Slot "set_iterator" "__iter__" "set_iterator.__iter__" :=
  .of (owner := "set_iterator") (n := "__iter__") (by rw [typeLookup_type, builtinLookup_eq_fast]; kernel_rfl) (by decide +kernel) (by decide +kernel) (by decide +kernel)
    (by first | exact .inl (by decide +kernel) | exact .inr (by decide +kernel)) (by rw [isSubtype_type]; kernel_rfl)
theorem entry_si_iter : entryFor table "set_iterator.__iter__" = some Builtin.«dict_keyiterator.__iter__» :=
  entryFor_alias (id' := "dict_keyiterator.__iter__") (by kernel_rfl) rfl (by decide +kernel) (by kernel_rfl)
theorem args_si_iter (a : Value) : argsOk "set_iterator.__iter__" ⟨[a], []⟩ := by unfold argsOk; kernel_rfl
theorem args_si_next (a : Value) : argsOk "set_iterator.__next__" ⟨[a], []⟩ := by unfold argsOk; kernel_rfl

theorem pick1 {α : Type} (next : Nat → Nat) (x : α) : pickOrder next #[x] = #[x] := by
  unfold pickOrder pickOrder.go
  simp [Nat.mod_one, pickOrder.go]

section
variable {prog : Program} {w : World} {A : Around} {E : Value → Shared → Prop} {s : Shared}

def IsSI (h : Heap) (I a : Addr) (slot i ep : Nat) : Prop := ∃ o, h.get? I = some o ∧ o.cls = .type "set_iterator" ∧ o.data = .fields #[rawInt slot, rawInt i, .ref a, rawInt 1, rawInt ep]
theorem IsSI.typeIs {s : Shared} {I a : Addr} {slot i ep : Nat} (h : IsSI s.heap I a slot i ep) : s.TypeIs (.ref I) "set_iterator" := let ⟨o, ho, hc, _⟩ := h; ⟨o, ho, hc⟩

theorem wpAny_byText {Q : Bool → Shared → Prop} (h : Q (w.params.followText "set-order") s) : wpAny (model prog w) A setsByText Q E s := by
  unfold setsByText
  exact wpAny_bind (wpAny_askSetting (wpAny_pure h))
theorem setNext1 {a : Addr} {k ep slot : Nat} {tk : Tok} {Q : Option (Value × Nat) → Shared → Prop} (ho : s.heap.get? a = some (one1 w k tk ep)) (hs : w.params.followText "set-order" = false → slot = k + 1) (h : Q none s) :
    wpAny (model prog w) A (setNext a slot 1 ep) Q E s := by
  unfold setNext
  refine wpAny_bind (wpAny_setState_of ho rfl rfl ?_)
  dsimp only
  refine wpAny_bind (wpAny_byText ?_)
  refine wpAny_ite_split (fun hb => ?_) (fun hb => ?_)
  · rw [if_neg (by simp)]
    refine wpAny_bind ?_
    unfold setWalk
    refine wpAny_bind (wpAny_setState_of ho rfl rfl ?_)
    dsimp only
    refine wpAny_bind (wpAny_byText ?_)
    rw [if_pos hb]
    refine wpAny_bind (wpAny_askSetting (wpAny_pure (wpAny_pure ?_)))
    rw [pick1]
    exact h
  · have hf : w.params.followText "set-order" = false := by simpa using hb
    have hl : led0 w = true := by
      unfold led0
      rw [hf]; rfl
    rw [hs hf]
    have hbel : SetTable.below #[k] (k + 1) = 1 := by
      unfold SetTable.below SetTable.below.go SetTable.below.go
      simp
    refine wpAny_ite_split (fun hb => absurd (show false = true from hb) Bool.false_ne_true) (fun _ => ?_)
    refine wpAny_bind (wpAny_ite_split (fun hb => ?_) (fun _ => wpAny_pure ?_))
    · rw [hl] at hb; simp at hb
    · rw [hbel]
      exact wpAny_pure h
theorem setNext0' {a : Addr} {k ep : Nat} {tk : Tok} {Q : Option (Value × Nat) → Shared → Prop} (ho : s.heap.get? a = some (one1 w k tk ep)) (h : ∀ n, (w.params.followText "set-order" = false → n = k + 1) → Q (some (.int k tk, n)) s) :
    wpAny (model prog w) A (setNext a 0 0 ep) Q E s := by
  unfold setNext
  refine wpAny_bind (wpAny_setState_of ho rfl rfl ?_)
  dsimp only
  refine wpAny_bind (wpAny_byText ?_)
  refine wpAny_ite_split (fun hb => ?_) (fun hb => ?_)
  · rw [if_neg (by simp)]
    refine wpAny_bind ?_
    unfold setWalk
    refine wpAny_bind (wpAny_setState_of ho rfl rfl ?_)
    dsimp only
    refine wpAny_bind (wpAny_byText ?_)
    rw [if_pos hb]
    refine wpAny_bind (wpAny_askSetting (wpAny_pure (wpAny_pure ?_)))
    rw [pick1]
    exact h _ (fun x => by rw [x] at hb; cases hb)
  · have hl : led0 w = true := by
      unfold led0
      have : w.params.followText "set-order" = false := by simpa using hb
      rw [this]; rfl
    refine wpAny_ite_split (fun hb => absurd (show false = true from hb) Bool.false_ne_true) (fun _ => ?_)
    refine wpAny_bind (wpAny_ite_split (fun hb => ?_) (fun _ => wpAny_pure ?_))
    · rw [hl] at hb; simp at hb
    · exact wpAny_pure (h _ (fun _ => rfl))

theorem Walks.setOne (hh : A.handled = none) (I a : Addr) (hne : a ≠ I) (k ep : Nat) (tk : Tok) :
    Walks prog w A I [I, a] [I] 1 (fun _ v => v = .int k tk) (fun i h => (∃ slot, IsSI h I a slot i ep ∧ (i = 0 → slot = 0) ∧ (i = 1 → w.params.followText "set-order" = false → slot = k + 1)) ∧ h.get? a = some (one1 w k tk ep)) where
  sub := fun b hb => by simp at hb; simp [hb]
  frame := fun _ _ _ st hk => ⟨let ⟨slot, ⟨o, ho, r⟩, q⟩ := st.1; ⟨slot, ⟨o, hk I (by simp) o ho, r⟩, q⟩, hk a (by simp) _ st.2⟩
  item := fun i s Q E hi st hQ => by
    obtain ⟨⟨slot, hit, h0, _⟩, hs⟩ := st
    obtain rfl : i = 0 := by (first | lia | omega)
    obtain rfl := h0 rfl
    obtain ⟨o, ho, hc, hd⟩ := id hit
    unfold pyNext
    refine wpAny_bind (wpAny_attempt (wpAny_callSpecial?_slot (name := Str.ofString "__next__") hit.typeIs slot_si_next
      (wpAny_call_entry slot_si_next hit.typeIs entry_si_next ?_ (args_si_next _))))
    unfold Builtin.«set_iterator.__next__»
    refine wpAny_bind (wpAny_pure ?_)
    refine wpAny_bind (wpAny_fieldsOf ho hd ?_)
    dsimp only [rawInt]
    refine wpAny_bind (wpAny_setEntries_of hs rfl rfl ?_)
    refine wpAny_ite_split (fun hb => by simp at hb) (fun _ => ?_)
    refine wpAny_bind (setNext0' hs fun n hn => ?_)
    dsimp only
    refine wpAny_bind (wpAny_setField ho hd (by simp) ?_)
    have ho1 := Heap.get?_update_self (Obj.mapFields (·.setIfInBounds 0 (Value.int (n : Int) 0))) ho (Obj.isFreed_of_fields (Obj.data_mapFields hd _))
    have hd1 := Obj.data_mapFields hd (·.setIfInBounds 0 (Value.int (n : Int) 0))
    refine wpAny_bind (wpAny_setField ho1 hd1 (by simp) ?_)
    have ho2 := Heap.get?_update_self (Obj.mapFields (·.setIfInBounds 1 (Value.int (((0 : Nat) : Int) + 1) 0))) ho1 (Obj.isFreed_of_fields (Obj.data_mapFields hd1 _))
    have hd2 := Obj.data_mapFields hd1 (·.setIfInBounds 1 (Value.int (((0 : Nat) : Int) + 1) 0))
    have hk : ∀ b o2, b ≠ I → s.heap.get? b = some o2 → ((s.heap.update I (Obj.mapFields (·.setIfInBounds 0 (Value.int (n : Int) 0)))).update I (Obj.mapFields (·.setIfInBounds 1 (Value.int (((0 : Nat) : Int) + 1) 0)))).get? b = some o2 := fun b o2 hb e =>
      (Heap.get?_update_other _ _ (Ne.symm hb)).trans ((Heap.get?_update_other _ _ (Ne.symm hb)).trans e)
    refine wpAny_pure ⟨_, rfl, wpAny_pure (hQ _ _ s.toks rfl ⟨⟨n, ⟨_, ho2, ?_, ?_⟩, fun x => by (first | lia | omega), fun _ => hn⟩, hk a _ hne hs⟩ fun b o2 hb e => hk b o2 (fun x => hb (by simp [x])) e)⟩
    · exact (Obj.cls_mapFields ..).trans ((Obj.cls_mapFields ..).trans hc)
    · rw [hd2]; simp [rawInt]
  done := fun s Q E st hQ => by
    obtain ⟨⟨slot, hit, _, h1⟩, hs⟩ := st
    have hsl := h1 rfl
    obtain ⟨o, ho, hc, hd⟩ := id hit
    unfold pyNext
    refine wpAny_bind (wpAny_attempt (wpAny_callSpecial?_slot (name := Str.ofString "__next__") hit.typeIs slot_si_next
      (wpAny_call_entry slot_si_next hit.typeIs entry_si_next ?_ (args_si_next _))))
    unfold Builtin.«set_iterator.__next__»
    refine wpAny_bind (wpAny_pure ?_)
    refine wpAny_bind (wpAny_fieldsOf ho hd ?_)
    dsimp only [rawInt]
    refine wpAny_bind (wpAny_setEntries_of hs rfl rfl ?_)
    refine wpAny_ite_split (fun hb => by simp at hb) (fun _ => ?_)
    refine wpAny_bind (setNext1 hs hsl ?_)
    dsimp only
    refine wpAny_bind (wpAny_setField ho hd (by simp) ?_)
    show wpAny _ _ (newExc (.type "StopIteration") [] >>= _) _ _ _
    refine wpAny_bind ?_
    simp only [newExc, newTuple]
    refine wpAny_bind (wpAny_newObj_type ?_ (by size_fits))
    refine wpAny_bind (m := firstArgMember _ _) (wpAny_of_eq (a := Value.none) (by first | rfl | (simp only [firstArgMember]; rfl)) ?_)
    refine wpAny_newObj_type ?_ (by size_fits)
    simp only [raiseNew]
    refine wpAny_bind (wpAny_handled ?_)
    rw [show A.in1.handled = none from hh]
    refine wpAny_bind (wpAny_pure (wpAny_throw ?_))
    refine wpAny_bind (wpAny_isInstance (T := "StopIteration") (b := true) ⟨_, Heap.get?_push_size _ rfl, rfl⟩ isSubtype_stop ?_)
    exact wpAny_pure (hQ _ _ fun b o2 hb e => (((Heap.SameBut.update ..).extBut.push _).push _) b o2 (fun x => hb (by simp [x])) e)
  self := fun _ _ _ _ st hQ => by
    obtain ⟨⟨slot, hit, _, _⟩, _⟩ := st
    refine wpAny_pyIter_slot hit.typeIs slot_si_iter (wpAny_call_entry slot_si_iter hit.typeIs entry_si_iter ?_ (args_si_iter _))
    show wpAny _ _ (ret (.ref I)) _ _ _
    exact wpAny_pure ⟨_, rfl, "set_iterator", _, hit.typeIs, slot_si_next.lookup, hQ⟩

theorem pyIter_one {a : Addr} {k ep : Nat} {tk : Tok} {Q : Value → Shared → Prop} (hs : s.heap.get? a = some (one1 w k tk ep))
    (h : Q (.ref s.heap.objs.size) { s with heap := s.heap.push { cls := .type "set_iterator", data := .fields #[rawInt 0, rawInt 0, .ref a, rawInt 1, rawInt ep] } }) : wpAny (model prog w) A (pyIter (.ref a)) Q E s := by
  have hT : s.TypeIs (.ref a) "set" := ⟨_, hs, rfl⟩
  refine wpAny_pyIter_slot hT F.slot_set_iter (wpAny_call_entry F.slot_set_iter hT entry_set_iter ?_ (F.args_set_iter_1 _))
  unfold Builtin.«frozenset.__iter__» Builtin.Frozenset.slot0 Builtin.Frozenset.addrOf Builtin.Frozenset.sizeOf
  refine wpAny_bind (wpAny_bind (wpAny_pure ?_))
  try dsimp only
  refine wpAny_pure ?_
  refine wpAny_bind (wpAny_bind (wpAny_setEntries_of hs rfl rfl (wpAny_pure ?_)))
  refine wpAny_bind (wpAny_bind ?_)
  refine wpAny_setState_of hs rfl rfl ?_
  dsimp only
  refine wpAny_bind (wpAny_byText (wpAny_pure ?_))
  refine wpAny_ite_split (fun hb => ?_) (fun _ => ?_)
  · refine absurd (show false = true from ?_) Bool.false_ne_true
    rw [← hb]; exact (Bool.and_false _).symm
  · refine wpAny_bind (wpAny_pure ?_)
    refine wpAny_bind (wpAny_setEpoch_of hs rfl rfl ?_)
    exact wpAny_bind (wpAny_newObj_type (wpAny_pure ⟨_, rfl, "set_iterator", _, ⟨_, Heap.get?_push_size _ rfl, rfl⟩, slot_si_next.lookup, h⟩))
end
end Mine

namespace Mine
open PySem PySem.W

section
variable {prog : Program} {w : World} {A : Around} {E : Value → Shared → Prop} {s : Shared}

theorem collect_one {a : Addr} {k ep : Nat} {tk : Tok} {Q : List Value → Shared → Prop} (hh : A.handled = none) (hs : s.heap.get? a = some (one1 w k tk ep))
    (hQ : ∀ s', (∀ b o, s.heap.get? b = some o → s'.heap.get? b = some o) → s'.gens = s.gens → s'.drawn = s.drawn → s'.os = s.os → Q [.int k tk] s') : wpAny (model prog w) A (collect (.ref a)) Q E s := by
  have hlt : a < s.heap.objs.size := Heap.lt_size hs
  unfold collect
  refine wpAny_bind (wpAny_runValue (codeAny_builtin F.entry_proto_collect ?_))
  rw [Around.under_plainId F.plain_proto_collect _]
  show wpAny _ A.in1 (newList [] >>= fun l => again (.builtin "list.__iadd__" ⟨[l, .ref a], []⟩)) _ _ s
  refine wpAny_bind (wpAny_newObj_type ?_)
  refine wpAny_pure ⟨plainId_quiet F.plain_list_iadd _, codeAny_builtin F.entry_list_iadd ?_⟩
  rw [Around.under_plainId F.plain_list_iadd _]
  generalize hh1 : s.heap.push { cls := .type "list", data := .seq ([] : List Value).toArray } = h₁
  have hS₁ : h₁.get? s.heap.objs.size = some { cls := .type "list", data := .seq ([] : List Value).toArray } := by rw [← hh1]; exact Heap.get?_push_size _ rfl
  have hk1 : ∀ b o, s.heap.get? b = some o → h₁.get? b = some o := fun b o e => by rw [← hh1]; exact Heap.get?_push_of_some _ e
  have hsz1 : h₁.objs.size = s.heap.objs.size + 1 := by rw [← hh1]; exact PyProof.Rows.size_push' _ _
  have hs₁ := hk1 _ _ hs
  have hT : Shared.TypeIs { s with heap := h₁ } (.ref a) "set" := ⟨_, hs₁, rfl⟩
  have h1 : Builtin.List.listSameRef (.ref s.heap.objs.size) (.ref a) = false := by
    have : s.heap.objs.size ≠ a := Nat.ne_of_gt hlt
    simp [Builtin.List.listSameRef, this]
  show wpAny _ A.in1 (Builtin.List.listExtendWith (.ref s.heap.objs.size) (.ref a) (.ref s.heap.objs.size)) _ _ _
  unfold Builtin.List.listExtendWith
  refine wpAny_bind (wpAny_typeOf hT ?_)
  have h2 : (Value.type "set" == Value.type "list") = false := by decide
  have h3 : (Value.type "set" == Value.type "tuple") = false := by decide
  simp only [h1, h2, h3, Bool.or_false, Bool.false_eq_true, if_false]
  refine wpAny_bind (pyIter_one (s := { s with heap := h₁ }) hs₁ ?_)
  generalize hI : h₁.objs.size = I
  generalize hh2 : Heap.push h₁ { cls := .type "set_iterator", data := .fields #[rawInt 0, rawInt 0, .ref a, rawInt 1, rawInt ep] } = h₂
  have hk2 : ∀ b o, h₁.get? b = some o → h₂.get? b = some o := fun b o e => by rw [← hh2]; exact Heap.get?_push_of_some _ e
  have hI2 : h₂.get? I = some { cls := .type "set_iterator", data := .fields #[rawInt 0, rawInt 0, .ref a, rawInt 1, rawInt ep] } := by rw [← hh2, ← hI]; exact Heap.get?_push_size _ rfl
  have hIS : I ≠ s.heap.objs.size := by rw [← hI, hsz1]; exact Nat.succ_ne_self _
  have haI : a ≠ I := by rw [← hI, hsz1]; exact Nat.ne_of_lt (Nat.lt_succ_of_lt hlt)
  have haS : a ≠ s.heap.objs.size := Nat.ne_of_lt hlt
  refine wpAny_bind (wpAny_holding ?_)
  have hT2 : Shared.TypeIs { s with heap := h₂ } (.ref a) "set" := ⟨_, hk2 _ _ hs₁, rfl⟩
  unfold Builtin.List.listLengthHint
  refine wpAny_bind (wpAny_specialOf (name := Str.ofString "__len__") hT2 F.slot_set_len.lookup ?_)
  (generalize hid : ("set.__len__" : String) = id0; (fail_if_success (clear hid id0)); wp_delta; rw [show splitId id0 = some ("set", "__len__") from by subst hid; decide +kernel]; subst hid)
  refine wpAny_bind (wpAny_isInstance (b := true) hT2 (by rw [isSubtype_type]; kernel_rfl) ?_)
  refine wpAny_bind (wpAny_typeOf hT2 ?_)
  refine wpAny_pure ?_
  show wpAny _ A.in1 (rule "list.extend.makes-room" >>= fun _ => Builtin.List.listTouch (.ref s.heap.objs.size) >>= fun _ =>
    again (.builtin "list.extend.loop" ⟨[.ref s.heap.objs.size, .ref I, .ref s.heap.objs.size], []⟩)) _ _ _
  refine wpAny_bind (wpAny_rule ?_)
  refine wpAny_bind ?_
  show wpAny _ A.in1 (updateSeq s.heap.objs.size (·.push .none) >>= fun _ => updateSeq s.heap.objs.size (·.pop)) _ _ _
  have hS2 := hk2 _ _ hS₁
  refine wpAny_bind (wpAny_updateSeq hS2 rfl ?_)
  have hS3 := Heap.get?_update_self (Obj.mapSeq (·.push Value.none)) hS2 rfl
  refine wpAny_updateSeq hS3 rfl ?_
  have hS4 := Heap.get?_update_self (Obj.mapSeq (·.pop)) hS3 rfl
  have oth : ∀ b o, b ≠ s.heap.objs.size → h₂.get? b = some o → ((h₂.update s.heap.objs.size (Obj.mapSeq (·.push Value.none))).update s.heap.objs.size (Obj.mapSeq (·.pop))).get? b = some o :=
    fun b o hb e => (Heap.get?_update_other _ _ (Ne.symm hb)).trans ((Heap.get?_update_other _ _ (Ne.symm hb)).trans e)
  have W := (Walks.setOne (prog := prog) (w := w) (A := A.in1) hh I a haI k ep tk).toS
  have hSf : s.heap.objs.size ∉ [I, a] := fun hm => by
    rcases List.mem_cons.mp hm with hm | hm
    · exact hIS hm.symm
    · exact haS (List.mem_singleton.mp hm).symm
  have S2 : ∀ b o, s.heap.get? b = some o → ((h₂.update s.heap.objs.size (Obj.mapSeq (·.push Value.none))).update s.heap.objs.size (Obj.mapSeq (·.pop))).get? b = some o := fun b o e =>
    oth b o (Nat.ne_of_lt (Heap.lt_size e)) (hk2 _ _ (hk1 _ _ e))
  refine wpAny_pure ⟨plainId_quiet F.plain_extend_loop _, codeAny_extend_loopS W (by rw [sizeLine_eq]; decide) _ hSf _ 1 0 _ _ _ rfl (Nat.zero_le _)
    ⟨⟨0, ⟨_, oth _ _ hIS hI2, rfl, rfl⟩, fun _ => rfl, fun x => by (first | lia | omega)⟩, oth _ _ haS (hk2 _ _ hs₁)⟩ hS4 (ItemsOf.nil _) fun s' acc' c' hm hS' hacc => ?_⟩
  show wpAny _ A (load s.heap.objs.size >>= _) _ _ s'
  refine wpAny_bind (wpAny_load hS' ?_)
  refine wpAny_pure ?_
  have ea : acc'.toList = [.int k tk] := by
    obtain ⟨h1, h2⟩ := hacc
    obtain ⟨x, rfl⟩ := arr1 h1
    rw [h2 0 x rfl]
  rw [ea]
  refine hQ s' (fun b o e => hm.heap b o (fun hb => ?_) (S2 b o e)) hm.gens hm.drawn hm.os
  have hb' := Heap.lt_size e
  rcases List.mem_cons.mp hb with hb | hb
  · rw [hb] at hb'; exact Nat.lt_irrefl _ hb'
  · rw [List.mem_singleton.mp hb, ← hI, hsz1] at hb'; exact Nat.lt_irrefl _ (Nat.lt_of_succ_lt hb')

set_option maxHeartbeats 2000000 in
theorem sorted_one {a : Addr} {k ep : Nat} {tk : Tok} {Q : Value → Shared → Prop} (hh : A.handled = none) (hs : s.heap.get? a = some (one1 w k tk ep))
    (hQ : ∀ s' D n t, (∀ b o, s.heap.get? b = some o → s'.heap.get? b = some o) → s.heap.get? D = none → s'.heap.get? D = some (PyProof.Rows.seqObj "list" #[.int k t] n) → s'.gens = s.gens → s'.os = s.os → Q (.ref D) s') : wpAny (model prog w) A (call (.builtin "sorted") [.ref a]) Q E s := by
  refine Calls.call_function_entry PyProof.Rows.kind_sorted PyProof.Rows.plain_sorted PyProof.Rows.entry_sorted (PyProof.Rows.args_sorted1 _) ?_
  unfold Builtin.«sorted»
  refine wpAny_bind (m := checkCount "sorted" 1 1 _) (wpAny_pure ?_)
  refine wpAny_bind (collect_one (A := A.in1) hh hs fun s₁ k1 g1 d1 o1 => ?_)
  refine wpAny_bind (wpAny_newList ?_)
  have hoL : (s₁.heap.push (PyProof.Rows.seqObj "list" [Value.int k tk].toArray 0)).get? s₁.heap.objs.size = some (PyProof.Rows.seqObj "list" [Value.int k tk].toArray 0) := Heap.get?_push_size _ rfl
  show wpAny _ _ _ _ _ { s₁ with heap := s₁.heap.push (PyProof.Rows.seqObj "list" [Value.int k tk].toArray 0) }
  have hI : PyProof.Rows.IntsAre [Value.int k tk] [(k : Int)] := by
    constructor
    constructor
  refine wpAny_bind (wpAny_holding (wpAny_call_entry PyProof.Rows.slot_list_sort ⟨_, hoL, rfl⟩ PyProof.Rows.entry_list_sort (PyProof.Rows.list_sort_tree hoL hI (by show 1 < 64; decide) fun out ns' a1 a2 a3 => ⟨_, rfl, ?_⟩) (PyProof.Rows.args_list_sort _)))
  refine wpAny_pure ⟨_, rfl, ?_⟩
  have en : ns' = [(k : Int)] := List.perm_singleton.mp a2
  subst en
  obtain ⟨t', eo⟩ : ∃ t', out.toList = [Value.int k t'] := by
    generalize out.toList = l at a1
    cases a1 with
    | cons n t h => cases h; exact ⟨t, rfl⟩
  have hout : out = #[Value.int (k : Int) t'] := by
    obtain ⟨l⟩ := out
    simp at eo
    rw [eo]
  obtain ⟨e, he⟩ := PyProof.Rows.sortedHeap_at (out := out) hoL
  rw [hout] at he
  have hD : s.heap.get? s₁.heap.objs.size = none := by
    cases q : s.heap.get? s₁.heap.objs.size with
    | none => rfl
    | some o => exact absurd (Heap.lt_size (k1 _ _ q)) (Nat.lt_irrefl _)
  refine hQ _ s₁.heap.objs.size e t' (fun b o q => ?_) hD (by rw [hout]; exact he) g1 o1
  have hb := Heap.lt_size (k1 _ _ q)
  show (PyProof.Rows.sortedHeap _ _ _ _).get? b = some o
  rw [PyProof.Rows.sortedHeap_old (Nat.ne_of_lt hb) (by rw [PyProof.Rows.size_push']; exact Nat.lt_succ_of_lt hb)]
  exact Heap.get?_push_of_some _ (k1 _ _ q)
end

section
variable {G : Gd} {d : Nat} {H : List AO}
theorem CallT.sorted1 {i k : Nat} (hx : H[i]? = some (set1 G k)) : CallT G d (.ext (.builtin "sorted")) [.ref i] H (.ref H.length) (H ++ [.list [.int (k : Int)]]) := .mk fun A s al fv vs Q hA R hf hvs K => by
  cases hf
  obtain ⟨v, rfl, hv⟩ := vrs1 hvs
  obtain ⟨a, hi, rfl⟩ := hv
  obtain ⟨o, ho, q⟩ := R.obj i a _ hi hx
  obtain ⟨tk, ep, rfl⟩ := q []
  refine sorted_one hA.handled ho fun s' D n t kp hD hD' hg ho' => ?_
  have hDa : D ∉ al := fun hm => by
    obtain ⟨j, hj⟩ := List.getElem?_of_mem hm
    have hlt : j < H.length := by rw [← R.len]; exact (List.getElem?_eq_some_iff.mp hj).1
    obtain ⟨o, ho, _⟩ := R.obj j D H[j] hj (by simp [hlt])
    rw [hD] at ho; cases ho
  have R' := (R.keeps kp).adopt (x := .list [.int (k : Int)]) hDa (none_of R hD) hD' (by exact ⟨#[.int k t], n, rfl, .cons ⟨t, rfl⟩ .nil⟩)
  refine K _ s' [D] R' ⟨D, ?_, rfl⟩ ⟨fun b o _ e => kp b o e, dom_of_keep kp, fun a ha => by rw [List.mem_singleton.mp ha]; exact hD, hg, ho'⟩
  rw [← R.len]; simp
end
end Mine

namespace Mine
open PySem PySem.W

/-- a call as code -/
structure CodeT (G : Gd) (d : Nat) (f : AV) (as : List AV) (H : List AO) (a : AV) (H' : List AO) : Prop where
  go : ∀ (A : Around) (s : Shared) (al : List Addr) (fv : Value) (vs : List Value) (R : Result → Shared → Prop), AOK d A → Rel G.bs al H s.heap → VR al f fv → VRs al as vs →
    (∀ v s' ext, Rel G.bs (al ++ ext) H' s'.heap → VR (al ++ ext) a v → Step al ext s s' → R (.ok (.ret v)) s') →
    codeAny (model G.prog G.w) A (.call fv ⟨vs, []⟩) R s

def dictAt (D : List (Str × AV)) (al : List Addr) (es : List DictEntry) : Prop := Paired (fun (p : Str × AV) (e : DictEntry) => (∃ t, e.key = .str p.1 t) ∧ VR al p.2 e.val) D es
def attrA (D : List (Str × AV)) : AO := .obj fun al o => ∃ es n, o = { cls := .type "dict", data := .dict es n } ∧ dictAt D al es.toList
def instA (C : Addr) (j : Nat) : AO := .obj fun al o => ∃ a, al[j]? = some a ∧ o = instObj C a

structure Klass (G : Gd) (K : Frag) (C : Addr) : Prop where
  inK : K.In G.h₀
  makes : makesIn K C = true
  hga : findIn K (.ref C) "__getattribute__" = some (some (.builtin "object.__getattribute__"))
  hgt : findIn K (.ref C) "__getattr__" = some none
  hsa : findIn K (.ref C) "__setattr__" = some (some (.builtin "object.__setattr__"))
  plain : plainOver K C = true
  hasd : (clsIn K C).any (·.hasDict) = true

def AV.easy : AV → Bool
  | .unset | .ext _ => false
  | _ => true
theorem VR.handed {al : List Addr} {a : AV} {v : Value} (h : VR al a v) (e : a.easy = true) : handedIn v = true := by
  cases a with
  | unset => cases e
  | ext _ => cases e
  | none => cases h; rfl
  | bool b => cases h; rfl
  | int i => obtain ⟨t, rfl⟩ := h; rfl
  | str i => obtain ⟨t, rfl⟩ := h; rfl
  | flt i => obtain ⟨t, rfl⟩ := h; rfl
  | ref i => obtain ⟨t, _, rfl⟩ := h; rfl

theorem dictAt_mono {D : List (Str × AV)} {al e : List Addr} {es : List DictEntry} (h : dictAt D al es) : dictAt D (al ++ e) es := paired_imp (fun _ _ h => ⟨h.1, h.2.mono⟩) h
theorem dictAt_find {name : Str} {al : List Addr} : ∀ {D : List (Str × AV)} {es : List DictEntry}, dictAt D al es →
    (D.lookup name = none → es.find? (·.key.isStr name) = none) ∧ (∀ a, D.lookup name = some a → ∃ e, es.find? (·.key.isStr name) = some e ∧ VR al a e.val)
  | _, _, .nil => ⟨fun _ => rfl, fun a h => by cases h⟩
  | p :: D, e :: es, .cons ⟨⟨t, hk⟩, hv⟩ rest => by
    obtain ⟨r1, r2⟩ := dictAt_find (name := name) rest
    have ek : e.key.isStr name = (p.1 == name) := by rw [hk]; rfl
    by_cases h : p.1 = name
    · have e1 : e.key.isStr name = true := by rw [ek]; simpa using h
      have e2 : (name == p.1) = true := by simpa using h.symm
      have l : (p :: D).lookup name = some p.2 := by obtain ⟨x, y⟩ := p; simp only [List.lookup, e2]
      have f : (e :: es).find? (·.key.isStr name) = some e := by simp [List.find?, e1]
      rw [l, f]
      exact ⟨(fun q => by cases q), (fun a q => by cases q; exact ⟨e, rfl, hv⟩)⟩
    · have e1 : e.key.isStr name = false := by rw [ek]; simpa using h
      have e2 : (name == p.1) = false := by simpa using Ne.symm h
      have l : (p :: D).lookup name = D.lookup name := by obtain ⟨x, y⟩ := p; simp only [List.lookup, e2]
      have f : (e :: es).find? (·.key.isStr name) = es.find? (·.key.isStr name) := by simp [List.find?, e1]
      rw [l, f]
      exact ⟨r1, r2⟩
theorem dictAt_any {al : List Addr} : ∀ {D : List (Str × AV)} {es : List DictEntry}, dictAt D al es → es.any (·.refKey) = false
  | _, _, .nil => rfl
  | p :: D, e :: es, .cons ⟨⟨t, hk⟩, _⟩ rest => by
    have : e.refKey = false := by unfold DictEntry.refKey; rw [hk]
    simp [this, dictAt_any rest]
theorem dictAt_len {al : List Addr} {D : List (Str × AV)} {es : List DictEntry} (h : dictAt D al es) : D.length = es.length := Paired.length h

section
variable {G : Gd} {d : Nat} {env : Env} {r r' r₁ r₂ : LV} {H H' H₁ H₂ H₃ : List AO}

theorem CodeT.defX {a : Addr} {fd : FuncData} {body : List Stmt} {ns : List Str} {as : List AV} {ps ls : LV} {f : AF} (hG : G.Ok) (F : FnI G a fd body ns) (hcode : ∀ al h, Rel G.bs al H h → h.CodeRec fd.code fd.qualname) (hb : Binds G fd as ps) (hn : (ps ++ ls).map (·.1) = ns) (hu : ∀ p ∈ ls, p.2 = .unset)
    (h : ∀ L, EnvOK G (callEnv fd L a) → ∃ rE, Ex G d (callEnv fd L a) body (ps ++ ls) H f rE H') : CodeT G (d + 1) (.ext (.ref a)) as H f.val H' := .mk fun A s al fv vs Q hA R hf hvs k => by
  cases hf
  obtain ⟨o, ho, hd⟩ := F.obj
  obtain ⟨bs, hbs, P⟩ := hb s al vs R.base hvs
  have nd : ((ps ++ ls).map (·.1)).Nodup := hn ▸ F.nodup
  have ndp : (ps.map (·.1)).Nodup := by
    rw [List.map_append] at nd; exact (List.nodup_append.mp nd).1
  have hin : ∀ p ∈ ps ++ ls, p.1 ∈ ns := fun p hp => hn ▸ List.mem_map_of_mem hp
  have hL0 : G.h₀.get? s.heap.objs.size = none := by
    cases e : G.h₀.get? s.heap.objs.size with
    | none => rfl
    | some o => have := R.base _ _ e; rw [get_size] at this; cases this
  refine codeAny_call_def hA.room (R.base _ _ ho) hd (hG.nolimit.keeps R.base) (hcode _ _ R) F.body hbs F.nocell ?_ (fun h₁ hns hk => ?_) F.co F.gen F.kind
  · intro x hx
    have : x.1 ∈ bs.map (·.1) := List.mem_map_of_mem hx
    rw [pairP_names P] at this
    obtain ⟨p, hp, e⟩ := List.mem_map.mp this
    rw [← e]
    exact F.kinds _ (hin p (List.mem_append_left _ hp))
  · have hE : EnvOK G (callEnv fd s.heap.objs.size a) := ⟨F.kind, F.globals, F.builtins, hL0⟩
    have L₀ : LR (callEnv fd s.heap.objs.size a) al (ps ++ ls) h₁ := by
      refine ⟨nd, fun p hp => F.kinds _ (hin p hp), fun p hp => F.nodbg _ (hin p hp), size_notIn R, _, hns, fun p hp hk => ?_⟩
      rcases List.mem_append.mp hp with hp | hp
      · exact pairP_get P ndp p hp
      · rw [hu p hp] at hk; cases hk
    obtain ⟨rE, hEx⟩ := h _ hE
    refine wpAny_mono (hEx.go (A.deeper (callEnv fd s.heap.objs.size a)) { s with heap := h₁, toks := s.toks + bs.length } al (fun fl s' => Q (.ok (.ret (match fl with | .ret v => v | _ => .none))) s') (hA.deeper _) (R.keeps hk) L₀ fun fl s' ext R' L' F' S' => ?_) (fun fl s' q => ?_) fun _ _ e => e.elim
    · have S : Step al ext s s' := by
        refine ⟨fun b o hb e => S'.keep b o hb (fun x => ?_) (hk b o e), fun b e => S'.dom b (dom_of_keep hk b e), fun b hb => ?_, S'.gens, S'.os⟩
        · rw [x] at e
          have : s.heap.get? s.heap.objs.size = some o := e
          rw [get_size] at this; cases this
        · cases e : s.heap.get? b with
          | none => rfl
          | some o => have := S'.new b hb; rw [show ({ s with heap := h₁, toks := s.toks + bs.length } : Shared).heap.get? b = h₁.get? b from rfl, hk b o e] at this; cases this
      refine k _ s' ext R' ?_ S
      cases f with
      | next => cases F'; rfl
      | brk => cases F'; rfl
      | cont => cases F'; rfl
      | ret a => obtain ⟨v, rfl, q⟩ := F'; exact q
    · exact q
theorem CodeT.def {a : Addr} {fd : FuncData} {body : List Stmt} {ns : List Str} {as : List AV} {ps ls : LV} {f : AF} (hG : G.Ok) (F : FnInfo G a fd body ns) (hb : Binds G fd as ps) (hn : (ps ++ ls).map (·.1) = ns) (hu : ∀ p ∈ ls, p.2 = .unset)
    (h : ∀ L, EnvOK G (callEnv fd L a) → ∃ rE, Ex G d (callEnv fd L a) body (ps ++ ls) H f rE H') : CodeT G (d + 1) (.ext (.ref a)) as H f.val H' :=
  CodeT.defX hG F.toFnI (fun _ _ R => F.code.keeps R.base) hb hn hu h

theorem AOK.under_make {A : Around} {C : Addr} {rest : List Value} (h : AOK (d + 1) A) : AOK d (A.under (.builtin "type.__call__" ⟨.ref C :: rest, []⟩)) :=
  ⟨h.handled, by
    have := h.depth
    show A.depth + (Code.builtin "type.__call__" ⟨.ref C :: rest, []⟩).weight + 4 * d < _
    have e : (Code.builtin "type.__call__" ⟨.ref C :: rest, []⟩).weight = 1 := rfl
    rw [e]; (first | lia | omega), by
    have := h.units
    show A.units + (Code.builtin "type.__call__" ⟨.ref C :: rest, []⟩).cUnits + 16 * d < _
    have e : (Code.builtin "type.__call__" ⟨.ref C :: rest, []⟩).cUnits = 1 := rfl
    (first | lia | omega)⟩

theorem Klass.cal {K : Frag} {C : Addr} (Y : Klass G K C) : Cal G (.ext (.ref C)) H := fun al fv h R hv => by
  cases hv
  have X : K.In h := fun a o e => R.base _ _ (Y.inK a o e)
  have M := makes_of (M := model G.prog G.w) X Y.makes
  obtain ⟨⟨oc, od, cd, sl, hC, e1, e2, e4⟩, made, base, self, top, call, typ⟩ := M
  refine ⟨.machine, .inr (.inl rfl), fun A Q E s k q => ?_⟩
  unfold keeperOf
  refine wpAny_bind (wpAny_load (k _ _ hC) ?_)
  dsimp only
  refine wpAny_bind (call A _ E s k ?_)
  exact wpAny_pure q

theorem CallT.make {K : Frag} {C : Addr} {fi : Addr} {as : List AV} (Y : Klass G K C) (hi : findIn K (.ref C) "__init__" = some (some (.ref fi))) (ht : typeIn K (.ref fi) = some (.type "function"))
    (h : CodeT G d (.ext (.ref fi)) (.ref (H.length + 1) :: as) (H ++ [attrA []] ++ [instA C H.length]) .none H') : CallT G (d + 1) (.ext (.ref C)) as H (.ref (H.length + 1)) H' := .mk fun A s al fv vs Q hA R hf hvs k => by
  cases hf
  have X : K.In s.heap := fun a o e => R.base _ _ (Y.inK a o e)
  obtain ⟨hh, g, dr, t, os⟩ := s
  refine wpAny_call (make_core (makes_of X Y.makes) (looks_findIn X hi) (fun self => bind_fn X self ht) (.inl rfl) ?_)
  have R1 := R.push (o := emptyDict) (x := attrA []) rfl (by exact fun e => ⟨#[], 0, rfl, .nil⟩)
  have hz : hh.objs.size = hh.objs.size := rfl
  have R2 := R1.push (o := instObj C hh.objs.size) (x := instA C H.length) rfl (by
    intro e
    refine ⟨hh.objs.size, ?_, rfl⟩
    rw [← R.len]; simp)
  have hs2 : (hh.push emptyDict).objs.size = hh.objs.size + 1 := Heap.size_push ..
  rw [hs2] at R2
  have hA' : AOK d (A.under (.builtin "type.__call__" ⟨.ref C :: vs, []⟩)) := hA.under_make
  refine h.go _ _ (al ++ [hh.objs.size] ++ [hh.objs.size + 1]) _ _ _ hA' R2 rfl (.cons ⟨hh.objs.size + 1, ?_, rfl⟩ (by simpa only [List.append_assoc] using VRs.mono (e := [hh.objs.size] ++ [hh.objs.size + 1]) hvs)) fun v s' ext R' V' S' => ?_
  · rw [← R.len]; simp
  · cases V'
    refine ⟨rfl, ?_⟩
    refine k _ s' ([hh.objs.size] ++ [hh.objs.size + 1] ++ ext) (by simpa only [List.append_assoc] using R') ⟨hh.objs.size + 1, ?_, rfl⟩ ?_
    · rw [← R.len]; simp
    · have S1 := Step.push (al := al) (s := ⟨hh, g, dr, t, os⟩) (o := emptyDict) (tk := t)
      have S2 := Step.push (al := al ++ [hh.objs.size]) (s := ⟨hh.push emptyDict, g, dr, t, os⟩) (o := instObj C hh.objs.size) (tk := t)
      rw [show (⟨hh.push emptyDict, g, dr, t, os⟩ : Shared).heap.objs.size = hh.objs.size + 1 from hs2] at S2
      have := (S1.trans S2).trans (by simpa only [List.append_assoc] using S')
      exact this
end
end Mine

namespace Mine
open PySem PySem.W

section
variable {G : Gd} {d : Nat} {env : Env} {r r' r₁ r₂ : LV} {H H' H₁ H₂ H₃ : List AO}

theorem Klass.cd {K : Frag} {C : Addr} (Y : Klass G K C) : ∃ cd, clsIn K C = some cd ∧ cd.hasDict = true := any_some Y.hasd
theorem Rel.isInst {h : Heap} {al : List Addr} (R : Rel G.bs al H h) {i j : Nat} {C : Addr} {D : List (Str × AV)} (hi : H[i]? = some (instA C j)) (hj : H[j]? = some (attrA D)) {v : Value} (hv : VR al (.ref i) v) :
    ∃ x dx es n, v = .ref x ∧ x ∈ al ∧ al[j]? = some dx ∧ dx ∈ al ∧ h.get? x = some (instObj C dx) ∧ h.get? dx = some { cls := .type "dict", data := .dict es n } ∧ dictAt D al es.toList ∧ InstAt h x (instObj C dx) C (some { cls := .type "dict", data := .dict es n }) := by
  obtain ⟨x, hx, rfl⟩ := hv
  obtain ⟨o, ho, q⟩ := R.obj i x _ hx hi
  obtain ⟨dx, hdx, rfl⟩ := q []
  rw [List.append_nil] at hdx
  obtain ⟨o2, ho2, q2⟩ := R.obj j dx _ hdx hj
  obtain ⟨es, n, rfl, hd⟩ := q2 []
  rw [List.append_nil] at hd
  exact ⟨x, dx, es, n, rfl, List.mem_of_getElem? hx, hdx, List.mem_of_getElem? hdx, ho, ho2, hd, ho, rfl, rfl, ho2⟩

theorem Ev.attr {K : Frag} {C : Addr} {x name : Str} {px pos : Pos} {i j : Nat} {D : List (Str × AV)} {a : AV} (Y : Klass G K C) (h1 : Ev G d env (.Name x px) r H (.ref i) H₁) (hi : H₁[i]? = some (instA C j)) (hj : H₁[j]? = some (attrA D))
    (hv : D.lookup name = some a) (hn : findIn K (.ref C) name = some none) (he : a.easy = true := by rfl) : Ev G d env (.Attribute (.Name x px) name pos) r H a H₁ := .mk fun A s al Q hA R L k => by
  refine PyProof.Rows.Attribute_Name_ (h1.run hA R L fun v s₁ e₁ R₁ L₁ V₁ S₁ => ?_)
  obtain ⟨x, dx, es, n, rfl, hx, hdx, hm, ho, ho2, hd, I⟩ := R₁.isInst hi hj V₁
  have X : K.In s₁.heap := fun a o e => R₁.base _ _ (Y.inK a o e)
  obtain ⟨e, hf, hva⟩ := (dictAt_find hd).2 a hv
  obtain ⟨cd, hcd, hhd⟩ := Y.cd
  have hl : lookIn name { cls := .type "dict", data := .dict es n } = some (some e.val) := by
    unfold lookIn; dsimp only; rw [hf]
  have hfo : findObj K C (some { cls := .type "dict", data := .dict es n }) name = some (.value e.val) := by
    unfold findObj ownOf
    rw [hcd, hn]
    simp only [Option.bind_some]
    rw [if_pos hhd, hl]
    rfl
  refine get_value X I Y.hga hfo (hva.handed he) ?_
  have S2 := Step.toks (al := al ++ e₁) (s := s₁) (tk := s₁.toks + 1)
  exact k _ { s₁ with toks := s₁.toks + 1 } e₁ R₁ hva (by have := S₁.trans S2; simpa using this)

theorem Ex1.setAttr {K : Frag} {C : Addr} {x name : Str} {px apos pos : Pos} {e : Expr} {i j : Nat} {D : List (Str × AV)} {a : AV} (Y : Klass G K C) (h1 : Ev G d env e r H a H₁) (h2 : Ev G d env (.Name x px) r H₁ (.ref i) H₁) (hi : H₁[i]? = some (instA C j)) (hj : H₁[j]? = some (attrA D))
    (hv : D.lookup name = none) (hn : findIn K (.ref C) name = some none) (hz : D.length ≤ 100) (hs : swapsWith e (some (.Attribute (.Name x px) name apos)) pos.line env = pure false := by rfl) :
    Ex1 G d env (.Assign [.Attribute (.Name x px) name apos] e pos) r H .next r (H₁.set j (attrA (D ++ [(name, a)]))) := .mk fun A s al Q hA R L k => by
  refine plainObj_wpAny_Assign_Attribute (h1.run hA R L fun v s₁ e₁ R₁ L₁ V₁ S₁ => h2.run hA R₁ L₁ fun ov s₂ e₂ R₂ L₂ V₂ S₂ => ?_) hs
  obtain ⟨x, dx, es, n, rfl, hx, hdx, hm, ho, ho2, hd, I⟩ := R₂.isInst hi hj V₂
  have X : K.In s₂.heap := fun a o e => R₂.base _ _ (Y.inK a o e)
  have hf := (dictAt_find hd).1 hv
  obtain ⟨cd, hcd, hhd⟩ := Y.cd
  refine set_plain X I Y.hsa ?_
  refine osa_open (K := K) (od := some { cls := .type "dict", data := .dict es n }) (r := none) (s := { s₂ with toks := s₂.toks + 1 }) X I Y.plain (by unfold takerIn; rw [hn]; rfl) fun b => ?_
  have put : Obj.putName name (PyData.keyHash G.w.params name) (.str name (s₂.toks + 1)) v { cls := .type "dict", data := .dict es n } = { cls := .type "dict", data := .dict (es.push ⟨PyData.keyHash G.w.params name, .str name (s₂.toks + 1), v⟩) (n + 1) } := by
    have hi : es.findIdx? (fun e => e.key.isStr name) = none := by
      rw [Array.findIdx?_eq_none_iff]
      intro e he
      have := List.find?_eq_none.mp hf e (by simpa using he)
      simpa using this
    rw [Obj.putName_eq]
    unfold Obj.putNameByArray
    dsimp only
    rw [hi]
  have D' := Heap.get?_update_self (Obj.putName name (PyData.keyHash G.w.params name) (.str name (s₂.toks + 1)) v) ho2 (by rw [put]; rfl)
  rw [put] at D'
  refine wpAny_bind (wpAny_pure (wpAny_bind (wpAny_bind (wpAny_loadPart ho (wpAny_bind (Looks.here (s := { s₂ with toks := s₂.toks + 1 }) (looks_clsIn X hcd) ?_))))))
  rw [hhd]
  refine wpAny_pure (a := some dx) (wpAny_bind (wpAny_pure (wpAny_bind ?_)))
  unfold nsSet
  refine wpAny_bind (wpAny_bind (wpAny_askSetting (wpAny_pure (wpAny_bind (wpAny_mkText (wpAny_bind (wpAny_loadPart ho2 ?_)))))))
  dsimp only
  have c : (!es.any (·.key.isStr name) && es.any (·.refKey)) = false := by
    have : es.any (·.refKey) = false := by rw [← Array.any_toList]; exact dictAt_any hd
    rw [this, Bool.and_false]
  rw [aRefKeyMayBeTheName_at, c]
  refine wpAny_updatePart ho2 ?_
  have hlen := dictAt_len hd
  refine wpAny_bind (wpAny_lookBehind D' (pastItsLine_dict (by rw [Array.size_push, sizeLine_eq]; have : es.size = es.toList.length := by simp
                                                               (first | lia | omega))) ?_)
  refine wpAny_pure ?_
  have hk2 : ∀ b o, b ≠ dx → s₂.heap.get? b = some o → (s₂.heap.update dx (Obj.putName name (PyData.keyHash G.w.params name) (.str name (s₂.toks + 1)) v)).get? b = some o := fun b o hb e => (Heap.get?_update_other _ _ (Ne.symm hb)).trans e
  have V1 : VR (al ++ e₁ ++ e₂) a v := V₁.mono
  have R₃ : Rel G.bs (al ++ e₁ ++ e₂) (H₁.set j (attrA (D ++ [(name, a)]))) (s₂.heap.update dx (Obj.putName name (PyData.keyHash G.w.params name) (.str name (s₂.toks + 1)) v)) := R₂.update hdx hk2 D' (fun e => by
    refine ⟨_, _, rfl, ?_⟩
    rw [Array.toList_push]
    exact paired_app (dictAt_mono hd) (.cons ⟨⟨_, rfl⟩, V1.mono⟩ .nil))
  have S3 : Step (al ++ e₁ ++ e₂) [] s₂ { s₂ with heap := s₂.heap.update dx (Obj.putName name (PyData.keyHash G.w.params name) (.str name (s₂.toks + 1)) v), toks := s₂.toks + 1 + 1 } :=
    Step.same (Heap.SameBut.update ..) D' hm
  have S : Step al (e₁ ++ (e₂ ++ [])) s { s₂ with heap := s₂.heap.update dx (Obj.putName name (PyData.keyHash G.w.params name) (.str name (s₂.toks + 1)) v), toks := s₂.toks + 1 + 1 } := S₁.trans (S₂.trans (by simpa only [List.append_assoc] using S3))
  rw [List.append_nil] at S
  exact k _ _ (e₁ ++ e₂) (by have := R₃; rw [List.append_assoc] at this; exact this) (L.step S) rfl S.toL

theorem Ev.clsAttr {K : Frag} {C : Addr} {x name : Str} {px pos : Pos} {y : Str} (Y : Klass G K C) (h1 : Ev G d env (.Name x px) r H (.ext (.ref C)) H₁) (hr : readsIn K C (.type "type") = true)
    (hf : ∃ t, findCls K (.ref C) (.type "type") name = some (.val (.str y t))) : Ev G d env (.Attribute (.Name x px) name pos) r H (.str y) H₁ := .mk fun A s al Q hA R L k => by
  refine PyProof.Rows.Attribute_Name_ (h1.run hA R L fun v s₁ e₁ R₁ L₁ V₁ S₁ => ?_)
  cases V₁
  have X : K.In s₁.heap := fun a o e => R₁.base _ _ (Y.inK a o e)
  obtain ⟨t, hf⟩ := hf
  refine cls_value X hr hf rfl ?_
  have S2 := Step.toks (al := al ++ e₁) (s := s₁) (tk := s₁.toks + 1)
  exact k _ { s₁ with toks := s₁.toks + 1 } e₁ R₁ ⟨t, rfl⟩ (by have := S₁.trans S2; simpa using this)

theorem Ev.methFn {K : Frag} {C f : Addr} {o : Expr} {name : Str} {apos pos : Pos} {args : List Expr} {i j : Nat} {D : List (Str × AV)} {c : AV} {as : List AV} (Y : Klass G K C) (h1 : Ev G d env o r H (.ref i) H₁) (hi : H₁[i]? = some (instA C j)) (hj : H₁[j]? = some (attrA D))
    (hf : findIn K (.ref C) name = some (some (.ref f))) (ht : typeIn K (.ref f) = some (.type "function")) (hv : D.lookup name = none) (hcal : ∀ H, Cal G (.ext (.ref f)) H) (h2 : Evs G d env args r H₁ as H₂) (h3 : CallT G d (.ext (.ref f)) (.ref i :: as) H₂ c H₃)
    (hs : (args.all fun e => !isStarred e) = true := by rfl) (hn : args.length < 30 := by decide) (hp : (apos.endLine == pos.line) = true := by rfl)
    (hb : attributeBase o name env (eval o env) = eval o env := by rfl) : Ev G d env (.Call (.Attribute o name apos) args [] pos) r H c H₃ := .mk fun A s al Q hA R L k => by
  have hall := backTo_all (pos := pos) (starEach_all (env := env) hs)
  rw [arm_eval_Call, hb]
  refine wpAny_bind (h1.run hA R L fun v s₁ e₁ R₁ L₁ V₁ S₁ => ?_)
  obtain ⟨x, dx, es, n, rfl, hx, hdx, hm, ho, ho2, hd, I⟩ := R₁.isInst hi hj V₁
  have X : K.In s₁.heap := fun a o e => R₁.base _ _ (Y.inK a o e)
  have hl : lookIn name { cls := .type "dict", data := .dict es n } = some none := by
    have hf := (dictAt_find hd).1 hv
    unfold lookIn; dsimp only; rw [hf, dictAt_any hd]; rfl
  refine wpAny_bind (wpAny_standAt ?_)
  have hfew : methodCallForm (args.length + ([] : List Keyword).length) (backTo pos (starEach args env)) (backToKw pos (keywordEach [] env)) = true := by
    show (_ && _ && _) = true
    rw [hall]
    show (true && true && decide (args.length + 0 + 0 < 30)) = true
    simp only [Nat.add_zero, Bool.true_and, decide_eq_true_eq]; exact hn
  have hpos : methodCallPos true o env apos pos = pure pos := by unfold methodCallPos; simp [hp]
  unfold methodCall
  rw [hfew]
  refine wpAny_bind (wpAny_holding (method_fn X I Y.hga Y.hgt hf ht (by unfold shadowIn; dsimp only; rw [hl]; rfl) ?_))
  refine wpAny_bind (wpAny_of_eq hpos ?_)
  refine callWith_of (P := fun h => ∃ k, (k = Keeper.frame ∨ k = Keeper.machine ∨ k = Keeper.boundFrame) ∧ Looks (model G.prog G.w) h (keeperOf (.ref f)) k) (by rw [any_of_all hall]; rfl) (fun _ h => h) ?_
  refine evalArgs_all hall (h2.run hA R₁ L₁ fun vs s₂ e₂ R₂ _ V₂ S₂ => ⟨hcal _ _ _ _ R₂ rfl, ?_⟩)
  have V₁' : VR (al ++ e₁ ++ e₂) (.ref i) (.ref x) := VR.mono (e := e₂) V₁
  exact h3.go A s₂ _ (.ref f) (.ref x :: vs) Q hA R₂ rfl (.cons V₁' V₂) fun z s₃ e₃ R₃ V₃ S₃ => k z s₃ (e₁ ++ (e₂ ++ e₃)) (by simpa only [List.append_assoc] using R₃) (by simpa only [List.append_assoc] using V₃) (S₁.trans (S₂.trans (by simpa only [List.append_assoc] using S₃)))
end
end Mine

namespace Mine
open PySem PySem.W

def tops : List Stmt := PySem.Challenge.pw_tl0064_01.main.body
def inClass (k : Nat) : Stmt := match (tops[13]? : Option Stmt) with
  | some (.ClassDef _ _ _ b _ _ _ _ _ _ _) => b.getD k (.Pass default)
  | _ => .Pass default
def top (k : Nat) : Stmt := if k < 100 then tops.getD k (.Pass default) else inClass (k - 100)
def fbody (k : Nat) : List Stmt := match top k with
  | .FunctionDef _ _ b _ _ _ _ _ _ _ => b
  | _ => []
def fscope (k : Nat) : Scope := match top k with
  | .FunctionDef _ _ _ _ _ _ sc _ _ _ => sc
  | _ => { kind := .function, names := [], isGenerator := false, isCoroutine := false }
def fargs (k : Nat) : Arguments := match top k with
  | .FunctionDef _ a _ _ _ _ _ _ _ _ => a
  | _ => { posonlyargs := [], args := [], vararg := none, kwonlyargs := [], kw_defaults := [], kwarg := none, defaults := [] }
def mkFd (k : Nat) (nm qn : Str) (dV pm cd : Value) : FuncData :=
  { name := nm, qualname := qn, params := fargs k, body := .stmts (fbody k), scope := fscope k, globals := 3, closure := [], defaults := dV, kwdefaults := .none, pyModule := pm, code := cd }

theorem at0 {x : Str} {a : AV} {r : LV} : At ((x, a) :: r) x a := .here
theorem at1 {p0 : Str × AV} {x : Str} {a : AV} {r : LV} : At (p0 :: (x, a) :: r) x a := .there .here
theorem at2 {p0 p1 : Str × AV} {x : Str} {a : AV} {r : LV} : At (p0 :: p1 :: (x, a) :: r) x a := .there at1
theorem at3 {p0 p1 p2 : Str × AV} {x : Str} {a : AV} {r : LV} : At (p0 :: p1 :: p2 :: (x, a) :: r) x a := .there at2
theorem at4 {p0 p1 p2 p3 : Str × AV} {x : Str} {a : AV} {r : LV} : At (p0 :: p1 :: p2 :: p3 :: (x, a) :: r) x a := .there at3
theorem at5 {p0 p1 p2 p3 p4 : Str × AV} {x : Str} {a : AV} {r : LV} : At (p0 :: p1 :: p2 :: p3 :: p4 :: (x, a) :: r) x a := .there at4
theorem at6 {p0 p1 p2 p3 p4 p5 : Str × AV} {x : Str} {a : AV} {r : LV} : At (p0 :: p1 :: p2 :: p3 :: p4 :: p5 :: (x, a) :: r) x a := .there at5
theorem at7 {p0 p1 p2 p3 p4 p5 p6 : Str × AV} {x : Str} {a : AV} {r : LV} : At (p0 :: p1 :: p2 :: p3 :: p4 :: p5 :: p6 :: (x, a) :: r) x a := .there at6
theorem at8 {p0 p1 p2 p3 p4 p5 p6 p7 : Str × AV} {x : Str} {a : AV} {r : LV} : At (p0 :: p1 :: p2 :: p3 :: p4 :: p5 :: p6 :: p7 :: (x, a) :: r) x a := .there at7
theorem at9 {p0 p1 p2 p3 p4 p5 p6 p7 p8 : Str × AV} {x : Str} {a : AV} {r : LV} : At (p0 :: p1 :: p2 :: p3 :: p4 :: p5 :: p6 :: p7 :: p8 :: (x, a) :: r) x a := .there at8
theorem at10 {p0 p1 p2 p3 p4 p5 p6 p7 p8 p9 : Str × AV} {x : Str} {a : AV} {r : LV} : At (p0 :: p1 :: p2 :: p3 :: p4 :: p5 :: p6 :: p7 :: p8 :: p9 :: (x, a) :: r) x a := .there at9
theorem at11 {p0 p1 p2 p3 p4 p5 p6 p7 p8 p9 p10 : Str × AV} {x : Str} {a : AV} {r : LV} : At (p0 :: p1 :: p2 :: p3 :: p4 :: p5 :: p6 :: p7 :: p8 :: p9 :: p10 :: (x, a) :: r) x a := .there at10
theorem pt0 {x : Str} {a b : AV} {r : LV} : Put x a ((x, b) :: r) ((x, a) :: r) := .here
theorem pt1 {p0 : Str × AV} {x : Str} {a b : AV} {r : LV} : Put x a (p0 :: (x, b) :: r) (p0 :: (x, a) :: r) := .there .here
theorem pt2 {p0 p1 : Str × AV} {x : Str} {a b : AV} {r : LV} : Put x a (p0 :: p1 :: (x, b) :: r) (p0 :: p1 :: (x, a) :: r) := .there pt1
theorem pt3 {p0 p1 p2 : Str × AV} {x : Str} {a b : AV} {r : LV} : Put x a (p0 :: p1 :: p2 :: (x, b) :: r) (p0 :: p1 :: p2 :: (x, a) :: r) := .there pt2
theorem pt4 {p0 p1 p2 p3 : Str × AV} {x : Str} {a b : AV} {r : LV} : Put x a (p0 :: p1 :: p2 :: p3 :: (x, b) :: r) (p0 :: p1 :: p2 :: p3 :: (x, a) :: r) := .there pt3
theorem pt5 {p0 p1 p2 p3 p4 : Str × AV} {x : Str} {a b : AV} {r : LV} : Put x a (p0 :: p1 :: p2 :: p3 :: p4 :: (x, b) :: r) (p0 :: p1 :: p2 :: p3 :: p4 :: (x, a) :: r) := .there pt4
theorem pt6 {p0 p1 p2 p3 p4 p5 : Str × AV} {x : Str} {a b : AV} {r : LV} : Put x a (p0 :: p1 :: p2 :: p3 :: p4 :: p5 :: (x, b) :: r) (p0 :: p1 :: p2 :: p3 :: p4 :: p5 :: (x, a) :: r) := .there pt5
theorem pt7 {p0 p1 p2 p3 p4 p5 p6 : Str × AV} {x : Str} {a b : AV} {r : LV} : Put x a (p0 :: p1 :: p2 :: p3 :: p4 :: p5 :: p6 :: (x, b) :: r) (p0 :: p1 :: p2 :: p3 :: p4 :: p5 :: p6 :: (x, a) :: r) := .there pt6
theorem pt8 {p0 p1 p2 p3 p4 p5 p6 p7 : Str × AV} {x : Str} {a b : AV} {r : LV} : Put x a (p0 :: p1 :: p2 :: p3 :: p4 :: p5 :: p6 :: p7 :: (x, b) :: r) (p0 :: p1 :: p2 :: p3 :: p4 :: p5 :: p6 :: p7 :: (x, a) :: r) := .there pt7
theorem pt9 {p0 p1 p2 p3 p4 p5 p6 p7 p8 : Str × AV} {x : Str} {a b : AV} {r : LV} : Put x a (p0 :: p1 :: p2 :: p3 :: p4 :: p5 :: p6 :: p7 :: p8 :: (x, b) :: r) (p0 :: p1 :: p2 :: p3 :: p4 :: p5 :: p6 :: p7 :: p8 :: (x, a) :: r) := .there pt8
theorem pt10 {p0 p1 p2 p3 p4 p5 p6 p7 p8 p9 : Str × AV} {x : Str} {a b : AV} {r : LV} : Put x a (p0 :: p1 :: p2 :: p3 :: p4 :: p5 :: p6 :: p7 :: p8 :: p9 :: (x, b) :: r) (p0 :: p1 :: p2 :: p3 :: p4 :: p5 :: p6 :: p7 :: p8 :: p9 :: (x, a) :: r) := .there pt9
theorem pt11 {p0 p1 p2 p3 p4 p5 p6 p7 p8 p9 p10 : Str × AV} {x : Str} {a b : AV} {r : LV} : Put x a (p0 :: p1 :: p2 :: p3 :: p4 :: p5 :: p6 :: p7 :: p8 :: p9 :: p10 :: (x, b) :: r) (p0 :: p1 :: p2 :: p3 :: p4 :: p5 :: p6 :: p7 :: p8 :: p9 :: p10 :: (x, a) :: r) := .there pt10

end Mine

namespace Mine
open PySem PySem.W

/-! ## the abstract heap grows -/
def Grow (H H' : List AO) : Prop := ∀ (i : Nat) (x : AO), H[i]? = some x → H'[i]? = some x
theorem Grow.refl {H : List AO} : Grow H H := fun _ _ h => h
theorem Grow.push {H J : List AO} : Grow H (H ++ J) := fun i x h => by
  rw [List.getElem?_append_left (List.getElem?_eq_some_iff.mp h).1]; exact h
theorem Grow.trans {H₁ H₂ H₃ : List AO} (x : Grow H₁ H₂) (y : Grow H₂ H₃) : Grow H₁ H₃ := fun i o h => y i o (x i o h)
theorem Grow.get {H H' : List AO} (g : Grow H H') {i : Nat} {x : AO} (h : H[i]? = some x) : H'[i]? = some x := g i x h
theorem Grow.set {H H' : List AO} (g : Grow H H') {i : Nat} {x : AO} (h : H.length ≤ i) : Grow H (H'.set i x) := fun j y e => by
  have hj := (List.getElem?_eq_some_iff.mp e).1
  rw [List.getElem?_set_ne (by (first | lia | omega))]; exact g j y e
theorem Grow.len {H H' : List AO} (g : Grow H H') : H.length ≤ H'.length := by
  cases e : H.length with
  | zero => exact Nat.zero_le _
  | succ n =>
    have h : H[n]? = some H[n] := List.getElem?_eq_getElem (by (first | lia | omega))
    have := (List.getElem?_eq_some_iff.mp (g n _ h)).1
    (first | lia | omega)

/-- a list of ints; a list of lists of ints; … -/
def IL (H : List AO) (a : AV) (xs : List Int) : Prop := ∃ i, a = .ref i ∧ H[i]? = some (.list (xs.map .int))
def IL2 (H : List AO) (a : AV) (xs : List (List Int)) : Prop := ∃ i as, a = .ref i ∧ H[i]? = some (.list as) ∧ Paired (IL H) as xs
def IL3 (H : List AO) (a : AV) (xs : List (List (List Int))) : Prop := ∃ i as, a = .ref i ∧ H[i]? = some (.list as) ∧ Paired (IL2 H) as xs
theorem IL.grow {H H' : List AO} (g : Grow H H') {a : AV} {xs : List Int} : IL H a xs → IL H' a xs := fun ⟨i, e, h⟩ => ⟨i, e, g.get h⟩
theorem IL2.grow {H H' : List AO} (g : Grow H H') {a : AV} {xs : List (List Int)} : IL2 H a xs → IL2 H' a xs := fun ⟨i, as, e, h, p⟩ => ⟨i, as, e, g.get h, paired_imp (fun _ _ => IL.grow g) p⟩
theorem IL3.grow {H H' : List AO} (g : Grow H H') {a : AV} {xs : List (List (List Int))} : IL3 H a xs → IL3 H' a xs := fun ⟨i, as, e, h, p⟩ => ⟨i, as, e, g.get h, paired_imp (fun _ _ => IL2.grow g) p⟩
theorem paired_get' {α β : Type} {F : α → β → Prop} : ∀ {l : List α} {k : List β}, Paired F l k → ∀ {i : Nat} {b : β}, k[i]? = some b → ∃ a, l[i]? = some a ∧ F a b
  | _, _, .nil, i, a, h => by simp at h
  | _, _, .cons h t, 0, a, e => by simp at e; subst e; exact ⟨_, rfl, h⟩
  | _, _, .cons _ t, i + 1, a, e => by simpa using paired_get' t (by simpa using e)

/-! ## the program's statements by their places -/
def sN (k i : Nat) : Stmt := (fbody k).getD i (.Pass default)
def forB : Stmt → List Stmt
  | .For _ _ b _ _ => b
  | _ => []
def forT : Stmt → Expr
  | .For t _ _ _ _ => t
  | _ => .Constant .none 0 default
def nth (l : List Stmt) (i : Nat) : Stmt := l.getD i (.Pass default)

theorem fits64 {x : Int} (h : x.natAbs < 2 ^ 64) : Builtin.Int.intBits x ≤ 64 := intBits_le_iff.mpr h
theorem mulL {x y : Int} (h : x.natAbs < 2 ^ 64) : IntMulOk x y := .of_left (fits64 h)
theorem mulR {x y : Int} (h : y.natAbs < 2 ^ 64) : IntMulOk x y := .of_right (fits64 h)

end Mine

namespace Mine
open PySem PySem.W

/-- a def of the text lies at a -/
def Raw (G : Gd) (a : Addr) (k : Nat) (nm : Str) (dV : Value) : Prop :=
  ∃ pm cd, (∃ o, G.h₀.get? a = some o ∧ o.data = .func (mkFd k nm nm dV pm cd)) ∧ G.h₀.CodeRec cd nm

/-- a def that holds a def lies at a; its code's table is the kk-th place -/
def RawC (G : Gd) (a : Addr) (k : Nat) (nm : Str) (kk : Nat) : Prop :=
  ∃ pm c Pt, (∃ o, G.h₀.get? a = some o ∧ o.data = .func (mkFd k nm nm .none pm (.ref c))) ∧ G.h₀.CodeRec (.ref c) nm ∧ CodeHd G.h₀ c Pt ∧ G.pre[kk]? = some Pt

/-- what the text's head has laid -/
structure Prog (G : Gd) : Prop where
  ok : G.Ok
  bmod : BMod G
  g_rgb_to_hsv : G.mg "rgb_to_hsv" = some (.ref 28)
  f_rgb_to_hsv : Raw G 28 2 "rgb_to_hsv" .none
  g_div2n1n : G.mg "_div2n1n" = some (.ref 43)
  f_div2n1n : Raw G 43 6 "_div2n1n" .none
  g_div3n2n : G.mg "_div3n2n" = some (.ref 50)
  f_div3n2n : Raw G 50 7 "_div3n2n" .none
  g_int2digits : G.mg "_int2digits" = some (.ref 57)
  f_int2digits : RawC G 57 8 "_int2digits" 0
  g_digits2int : G.mg "_digits2int" = some (.ref 64)
  f_digits2int : RawC G 64 9 "_digits2int" 1
  g_divmod_pos : G.mg "_divmod_pos" = some (.ref 71)
  f_divmod_pos : Raw G 71 10 "_divmod_pos" .none
  g_int_divmod : G.mg "int_divmod" = some (.ref 78)
  f_int_divmod : Raw G 78 11 "int_divmod" .none
  g_ISEOF : G.mg "ISEOF" = some (.ref 154)
  f_ISEOF : Raw G 154 65 "ISEOF" .none
  g_law_cells : G.mg "_law_cells" = some (.ref 161)
  f_law_cells : Raw G 161 67 "_law_cells" .none
  g_law_word : G.mg "_law_word" = some (.ref 168)
  f_law_word : Raw G 168 68 "_law_word" .none
  g_law_map : G.mg "_law_map" = some (.ref 175)
  f_law_map : Raw G 175 69 "_law_map" .none
  g_law_counts : G.mg "_law_counts" = some (.ref 182)
  f_law_counts : Raw G 182 70 "_law_counts" .none
  g_law_lead : G.mg "_law_lead" = some (.ref 189)
  f_law_lead : Raw G 189 71 "_law_lead" .none
  g_law_told : G.mg "_law_told" = some (.ref 196)
  f_law_told : Raw G 196 72 "_law_told" .none
  g_law_seen : G.mg "_law_seen" = some (.ref 203)
  f_law_seen : Raw G 203 73 "_law_seen" .none
  g_law_paintings : G.mg "_law_paintings" = some (.ref 208)
  f_law_paintings : Raw G 208 74 "_law_paintings" .none
  g_law_places : G.mg "_law_places" = some (.ref 215)
  f_law_places : Raw G 215 75 "_law_places" .none
  g_law_fields : G.mg "_law_fields" = some (.ref 222)
  f_law_fields : Raw G 222 76 "_law_fields" .none
  g_compute_powers : G.mg "compute_powers" = some (.ref 36)
  f_compute_powers : Raw G 36 4 "compute_powers" (.ref 29)
  o_compute_powers : ∃ o, G.h₀.get? 29 = some o ∧ o = tupOf #[.bool false] 0
  g_DIV_LIMIT : ∃ t, G.mg "_DIV_LIMIT" = some (.int 4000 t)
  g_ENDMARKER : ∃ t, G.mg "ENDMARKER" = some (.int 0 t)
  n_max : G.mg "max" = none
  b_max : G.mb "max" = some (.builtin "max")
  n_min : G.mg "min" = none
  b_min : G.mb "min" = some (.builtin "min")
  n_len : G.mg "len" = none
  b_len : G.mb "len" = some (.builtin "len")
  n_range : G.mg "range" = none
  b_range : G.mb "range" = some (.type "range")
  n_enumerate : G.mg "enumerate" = none
  b_enumerate : G.mb "enumerate" = some (.type "enumerate")
  n_reversed : G.mg "reversed" = none
  b_reversed : G.mb "reversed" = some (.type "reversed")
  n_divmod : G.mg "divmod" = none
  b_divmod : G.mb "divmod" = some (.builtin "divmod")
  n_int : G.mg "int" = none
  b_int : G.mb "int" = some (.type "int")
  n_sum : G.mg "sum" = none
  b_sum : G.mb "sum" = some (.builtin "sum")
  n_set : G.mg "set" = none
  b_set : G.mb "set" = some (.type "set")
  n_iter : G.mg "iter" = none
  b_iter : G.mb "iter" = some (.builtin "iter")
  n_sorted : G.mg "sorted" = none
  b_sorted : G.mb "sorted" = some (.builtin "sorted")
  n_next : G.mg "next" = none
  b_next : G.mb "next" = some (.builtin "next")

section
variable {G : Gd} {d : Nat} {env : Env} {r : LV} {H : List AO}
theorem Prog.fn (P : Prog G) {a : Addr} {k : Nat} {nm : Str} {dV : Value} {ns : List Str} (h : Raw G a k nm dV) (nodup : ns.Nodup) (kinds : ∀ x ∈ ns, (fscope k).names.lookup x = some .local) (nodbg : ∀ x ∈ ns, (x == ("__debug__" : Str)) = false)
    (nocell : ∀ x ∈ (fscope k).names, x.2 ≠ .cell) (co : (fscope k).isCoroutine = false) (gen : (fscope k).isGenerator = false) (kind : (fscope k).kind = .function) : ∃ pm cd, FnInfo G a (mkFd k nm nm dV pm cd) (fbody k) ns :=
  let ⟨pm, cd, ho, hc⟩ := h
  ⟨pm, cd, ⟨ho, rfl, nodup, kinds, nodbg, nocell, co, gen, kind, rfl, rfl⟩, hc⟩
theorem Raw.cal {a : Addr} {k : Nat} {nm : Str} {dV : Value} (h : Raw G a k nm dV) : Cal G (.ext (.ref a)) H := by
  obtain ⟨pm, cd, ⟨o, ho, hd⟩, _⟩ := h
  exact Cal.fn ho hd
theorem Ev.fn {a : Addr} {x : Str} {pos : Pos} (P : Prog G) (hE : EnvOK G env) (hv : G.mg x = some (.ref a)) (hx : env.kindOf x = some .globalImplicit := by rfl) (hd : (x == ("__debug__" : Str)) = false := by decide) :
    Ev G d env (.Name x pos) r H (.ext (.ref a)) H := Ev.glob P.ok hE hv (fun _ => rfl) hx hd
theorem Ev.globInt {x : Str} {pos : Pos} {i : Int} (P : Prog G) (hE : EnvOK G env) (hv : ∃ t, G.mg x = some (.int i t)) (hx : env.kindOf x = some .globalImplicit := by rfl) (hd : (x == ("__debug__" : Str)) = false := by decide) :
    Ev G d env (.Name x pos) r H (.int i) H := let ⟨t, h⟩ := hv; Ev.glob P.ok hE h (fun _ => ⟨t, rfl⟩) hx hd
end

section
variable {G : Gd} {d : Nat} {H : List AO}

def ns70 : List Str := ["cell"]
theorem counts_spec (P : Prog G) (c : Int) :
    CallT G (d + 1) (.ext (.ref 182)) [.int c] H (.ref H.length) (H ++ [.list [.int (c.fmod 3), .int ((c.fdiv 3).fmod 3), .int ((c.fdiv 9).fmod 3)]]) := by
  obtain ⟨pm, cd, F⟩ := P.fn (ns := ns70) P.f_law_counts (by decide) (by decide) (by decide) (by decide) rfl rfl rfl
  refine CallT.def (ps := [(Str.ofString "cell", .int c)]) (ls := []) (f := .ret _) P.ok F (Binds.plain (names := ns70) rfl ?_) rfl (fun _ h => by cases h) fun L hE => ?_
  · exact len1 fun _ => rfl
  · refine ⟨_, Ex.one (Ex1.ret (Ev.list (Evs.cons (Ev.bin (Ev.loc hE at0) Ev.cInt (Opr.mod (by decide))) (Evs.cons (Ev.bin (Ev.bin (Ev.loc hE at0) Ev.cInt (Opr.div (by decide) (by decide))) Ev.cInt (Opr.mod (by decide)))
      (Evs.cons (Ev.bin (Ev.bin (Ev.loc hE at0) Ev.cInt (Opr.div (by decide) (by decide))) Ev.cInt (Opr.mod (by decide))) Evs.nil))) (by simp)))⟩
end
end Mine

namespace Mine
open PySem PySem.W

/-- all paintings of n + 1 spots, the first one's 0 -/
def paint : Nat → List (List Int)
  | 0 => [[0]]
  | n + 1 => (paint n).flatMap fun x => [x ++ [0], x ++ [1], x ++ [2]]

theorem paint_len : ∀ n, (paint n).length = 3 ^ n
  | 0 => rfl
  | n + 1 => by
    have h : ∀ l : List (List Int), (l.flatMap fun x => [x ++ [(0 : Int)], x ++ [1], x ++ [2]]).length = 3 * l.length := fun l => by
      induction l with
      | nil => rfl
      | cons x l ih => simp [ih]; (first | lia | omega)
    show (List.flatMap _ _).length = _
    rw [h, paint_len n, Nat.pow_succ]; (first | lia | omega)

section
variable {G : Gd} {d : Nat} {env : Env} {r p : LV} {H K : List AO}

def compE : Stmt → Expr
  | .Assign _ e _ => e
  | .Return (some e) _ => e
  | _ => .Constant .none 0 default
def compElt : Expr → Expr
  | .ListComp e _ _ _ => e
  | e => e
def compT (e : Expr) (i : Nat) : Expr := match e with
  | .ListComp _ cs _ _ => (cs.map fun c => match c with | ⟨t, _, _, _⟩ => t).getD i e
  | _ => e
def compI (e : Expr) (i : Nat) : Expr := match e with
  | .ListComp _ cs _ _ => (cs.map fun c => match c with | ⟨_, t, _, _⟩ => t).getD i e
  | _ => e
def compS : Expr → Scope
  | .ListComp _ _ s _ => s
  | _ => { kind := .function, names := [], isGenerator := false, isCoroutine := false }

def ce74 : Expr := compE (nth (forB (sN 74 1)) 0)

theorem Emit.innerE {D : Addr} {ce elt t₀ i₀ t₁ i₁ : Expr} {scope : Scope} {pos : Pos} {xs as : List AV} {Ok : List AO → Prop} {K₁ K' : List AO} {p' : LV} (hce : ce = .ListComp elt [⟨t₀, i₀, [], 0⟩, ⟨t₁, i₁, [], 0⟩] scope pos) (h1 : It G d env i₁ p K xs Ok K₁)
    (lp : CL (TurnC G d env D t₁ (eval elt env >>= fun x => call (.builtin "list.append") [.ref D, x] >>= fun _ => pure ()) Ok) xs p K₁ as p' K')
    (hs : ∀ x, foldedSetIterable i₁ env x = pure x := by intro _; rfl) (ht : ∀ it v, letOwnedTupleGo t₁ it v = pure () := by intro _ _; rfl) :
    Emit G d env D (eval i₁ env >>= fun x => standAt i₁.pos >>= fun _ => foldedSetIterable i₁ env x >>= fun x => (holding [x] (pyIter x)) >>= fun y => runOwn (.compStart ce 1 y (.ref D) env) env >>= fun _ => pure ()) p K as p' K' := by
  subst hce; exact Emit.inner h1 lp hs ht

/-- the paints behind one row -/
theorem paints_in (P : Prog G) {xs : List Int} (hx : xs.length ≤ 1000) : ∀ (vs : List Int) {a : AV} {K : List AO}, IL K a xs →
    ∃ as K', (∀ env D b, EnvOK G env → env.scope = compS ce74 → ∃ b', CL (TurnC G d env D (compT ce74 1) (eval (compElt ce74) env >>= fun x => call (.builtin "list.append") [.ref D, x] >>= fun _ => pure ()) fun _ => True) (vs.map .int) [(Str.ofString "row", a), (Str.ofString "paint", b)] K as [(Str.ofString "row", a), (Str.ofString "paint", b')] K') ∧
      Grow K K' ∧ Paired (IL K') as (vs.map fun v => xs ++ [v])
  | [], a, K, ha => ⟨[], K, fun _ _ _ _ _ => ⟨_, .nil⟩, .refl, .nil⟩
  | v :: vs, a, K, ha => by
    obtain ⟨i, rfl, hi⟩ := ha
    have g1 : Grow K (K ++ [AO.list [AV.int v]]) := .push
    have g2 : Grow K ((K ++ [AO.list [AV.int v]]) ++ [AO.list (xs.map AV.int ++ [AV.int v])]) := g1.trans .push
    obtain ⟨as, K', cl, g, q⟩ := paints_in P hx vs (IL.grow g2 ⟨i, rfl, hi⟩)
    refine ⟨[.ref (K ++ [AO.list [AV.int v]]).length] ++ as, K', fun env D b hE hS => ?_, g2.trans g, ?_⟩
    · obtain ⟨b', c⟩ := cl env D (.int v) hE hS
      exact ⟨b', CL.cons ⟨_, _, Asg.name hE pt1, Emit.one (Ev.bin (Ev.loc hE at0) (Ev.list (Evs.cons (Ev.loc hE at1) Evs.nil) (by simp)) (Opr.addL (g1.get hi) get_last (by simp; (first | lia | omega)))), trivial⟩ c⟩
    · exact .cons (IL.grow g ⟨_, rfl, by rw [get_last]; simp⟩) q

theorem rows_in (P : Prog G) {Ok : List AO → Prop} (hOk : ∀ K K', Grow K K' → Ok K → Ok K') : ∀ {js : List AV} {rows : List (List Int)} {K : List AO}, Ok K → Paired (IL K) js rows → (∀ x ∈ rows, x.length ≤ 1000) →
    ∃ as K', (∀ env D a b, EnvOK G env → env.scope = compS ce74 → ∃ p', CL (TurnC G d env D (compT ce74 0) (eval (compI ce74 1) env >>= fun x => standAt (compI ce74 1).pos >>= fun _ => foldedSetIterable (compI ce74 1) env x >>= fun x => (holding [x] (pyIter x)) >>= fun y => runOwn (.compStart ce74 1 y (.ref D) env) env >>= fun _ => pure ()) Ok) js [(Str.ofString "row", a), (Str.ofString "paint", b)] K as p' K') ∧
      Grow K K' ∧ Paired (IL K') as (rows.flatMap fun x => [x ++ [0], x ++ [1], x ++ [2]])
  | _, _, K, _, .nil, _ => ⟨[], K, fun _ _ _ _ _ _ => ⟨_, .nil⟩, .refl, .nil⟩
  | j :: js, x :: rows, K, ok, .cons h t, hz => by
    obtain ⟨as₁, K₁, cl₁, g₁, q₁⟩ := paints_in (d := d) P (hz x (by simp)) [0, 1, 2] h
    obtain ⟨as₂, K₂, cl₂, g₂, q₂⟩ := rows_in P hOk (hOk _ _ g₁ ok) (paired_imp (fun _ _ => IL.grow g₁) t) (fun x hx => hz x (List.mem_cons_of_mem _ hx))
    refine ⟨as₁ ++ as₂, K₂, fun env D a b hE hS => ?_, g₁.trans g₂, ?_⟩
    · obtain ⟨b', c₁⟩ := cl₁ env D b hE hS
      obtain ⟨p', c₂⟩ := cl₂ env D j b' hE hS
      exact ⟨p', CL.cons ⟨_, _, Asg.name hE pt0, Emit.innerE (t₀ := compT ce74 0) (i₀ := compI ce74 0) (scope := compS ce74) rfl (It.call (Ev.bltin P.ok hE P.n_range P.b_range (by unfold Env.kindOf; rw [hS]; rfl)) (Evs.cons Ev.cInt Evs.nil) Cal.type (CallIt.range1 (by decide) (by decide))) c₁, hOk _ _ g₁ ok⟩ c₂⟩
    · rw [List.flatMap_cons]
      exact paired_app (paired_imp (fun _ _ => IL.grow g₂) q₁) q₂

theorem paint_row : ∀ n, ∀ x ∈ paint n, x.length = n + 1
  | 0, x, h => by simp [paint] at h; subst h; rfl
  | n + 1, x, h => by
    simp only [paint, List.mem_flatMap] at h
    obtain ⟨y, hy, h⟩ := h
    have := paint_row n y hy
    simp at h
    rcases h with rfl | rfl | rfl <;> simp [this]

abbrev env74 (pm cd : Value) (L : Addr) : Env := callEnv (mkFd 74 "_law_paintings" "_law_paintings" .none pm cd) L 208
theorem spots_loop (P : Prog G) {pm cd : Value} {c : AV} : ∀ (xs : List AV) {k : Nat} {a b : AV} {K : List AO}, k + xs.length ≤ 8 → IL2 K a (paint k) →
    ∃ a' b' K', (∀ L, EnvOK G (env74 pm cd L) → Loop (Turn G d (env74 pm cd L) (forT (sN 74 1)) (forB (sN 74 1)) fun _ => True) xs [(Str.ofString "count", c), (Str.ofString "rows", a), (Str.ofString "spot", b)] K .next [(Str.ofString "count", c), (Str.ofString "rows", a'), (Str.ofString "spot", b')] K') ∧ Grow K K' ∧
      IL2 K' a' (paint (k + xs.length))
  | [], k, a, b, K, _, h => ⟨a, b, K, fun _ _ => .nil, .refl, h⟩
  | x :: xs, k, a, b, K, hk, h => by
    simp only [List.length_cons] at hk
    obtain ⟨i, js, rfl, hi, q⟩ := h
    have hS : ScopeOK (compS ce74) [(Str.ofString "row", .unset), (Str.ofString "paint", .unset)] := ⟨rfl, by decide, by decide, by decide, by decide, by decide, by decide, fun q h => by
      rcases List.mem_cons.mp h with rfl | h
      · rfl
      · rw [List.mem_singleton.mp h]⟩
    have hz : ∀ x ∈ paint k, x.length ≤ 1000 := fun x hx => by rw [paint_row k x hx]; (first | lia | omega)
    obtain ⟨as, K₁, cl, g₁, q₁⟩ : ∃ as K₁, (∀ env, EnvOK G env → CRun G d env (compS ce74) ce74 [(Str.ofString "row", .unset), (Str.ofString "paint", .unset)] js (fun K => K[i]? = some (.list js)) K as K₁) ∧ Grow K K₁ ∧ Paired (IL K₁) as (paint (k + 1)) := by
      obtain ⟨as, K₁, cl, g₁, q₁⟩ := rows_in (d := d) P (Ok := fun K => K[i]? = some (.list js)) (fun K K' g h => g.get h) hi q hz
      have hlen : as.length ≤ 1000000 := by
        have h1 := q₁.length
        rw [h1]
        show (paint (k + 1)).length ≤ _
        rw [paint_len]
        exact Nat.le_trans (Nat.pow_le_pow_right (by (first | lia | omega)) (show k + 1 ≤ 8 by (first | lia | omega))) (by decide)
      exact ⟨as, K₁, fun env hE => CRun.two (elt := compElt ce74) (t₀ := compT ce74 0) (i₀ := compI ce74 0) (t₁ := compT ce74 1) (i₁ := compI ce74 1) (scope := compS ce74) hlen (fun C D hE' => cl _ D _ _ hE' rfl), g₁, q₁⟩
    have g₂ : Grow K (K₁ ++ [.list as]) := g₁.trans .push
    have q₂ : IL2 (K₁ ++ [.list as]) (.ref K₁.length) (paint (k + 1)) := ⟨_, as, rfl, get_last, paired_imp (fun _ _ => IL.grow .push) q₁⟩
    obtain ⟨a', b', K', lp, g₃, q₃⟩ := spots_loop P (pm := pm) (cd := cd) (c := c) xs (k := k + 1) (b := x) (by (first | lia | omega)) q₂
    refine ⟨a', b', K', fun L hE => .next ⟨_, _, Asg.name hE pt2, Ex.one (Ex1.assignComp hS hE (It.list (Ev.loc hE at1) hi) (cl _ hE) pt1 rfl), trivial⟩ (lp L hE), g₂.trans g₃, by rw [List.length_cons, show k + (xs.length + 1) = k + 1 + xs.length by (first | lia | omega)]; exact q₃⟩

theorem IL2.known {K : List AO} {a : AV} {xs : List (List Int)} (h : IL2 K a xs) : a.known = true := by obtain ⟨i, _, rfl, _⟩ := h; rfl
def ns74 : List Str := ["count", "rows", "spot"]
theorem paintings_spec (P : Prog G) (n : Nat) (hn : n ≤ 8) : ∃ a H', CallT G (d + 1) (.ext (.ref 208)) [.int ((n + 1 : Nat) : Int)] H a H' ∧ Grow H H' ∧ IL2 H' a (paint n) := by
  obtain ⟨pm, cd, F⟩ := P.fn (ns := ns74) P.f_law_paintings (by decide) (by decide) (by decide) (by decide) rfl rfl rfl
  have hn' : (((n + 1 : Nat) : Int) - 1).toNat = n := by (first | lia | omega)
  have h0 : IL2 (H ++ [AO.list [AV.int 0]] ++ [AO.list [AV.ref H.length]]) (.ref (H ++ [AO.list [AV.int 0]]).length) (paint 0) :=
    ⟨_, _, rfl, get_last, .cons ⟨_, rfl, Grow.get .push get_last⟩ .nil⟩
  obtain ⟨a', b', K', lp, g, q⟩ := spots_loop (d := d) P (pm := pm) (cd := cd) (c := .int ((n + 1 : Nat) : Int)) (span 1 n) (k := 0) (b := .unset) (by rw [span_len]; (first | lia | omega)) h0
  rw [span_len, Nat.zero_add] at q
  refine ⟨a', K', CallT.def (ps := [(Str.ofString "count", .int ((n + 1 : Nat) : Int))]) (ls := [(Str.ofString "rows", .unset), (Str.ofString "spot", .unset)]) (f := .ret _) P.ok F (Binds.plain (names := ["count"]) rfl ?_) rfl (fun p h => ?_) fun L hE => ?_, (Grow.push.trans .push).trans g, q⟩
  · exact len1 fun _ => rfl
  · rcases List.mem_cons.mp h with rfl | h
    · rfl
    · rw [List.mem_singleton.mp h]
  · have lp := lp L hE
    refine ⟨_, Ex.cons (Ex1.assign hE (Ev.list (Evs.cons (Ev.list (Evs.cons Ev.cInt Evs.nil) (by simp)) Evs.nil) (by simp)) pt1) (Ex.cons (Ex1.forIt (It.call (Ev.bltin P.ok hE P.n_range P.b_range) (Evs.cons Ev.cInt (Evs.cons (Ev.loc hE at0) Evs.nil)) Cal.type (CallIt.range2 (by decide) (by decide) (by (first | lia | omega)) (by (first | lia | omega)))) (by rw [hn']; exact lp))
      (Ex.one (Ex1.ret (Ev.loc hE at1 q.known))))⟩
end
end Mine

namespace Mine
open PySem PySem.W

/-- what a tie's paints part by -/
def dif (row e : List Int) : Int := row.getD (e.getD 1 0).toNat 0 - row.getD (e.getD 0 0).toNat 0
def tri (c : List Int) (x : Int) : Int := c.getD (x.fmod 3).toNat 0
def placeW (row : List Int) (ends counts : List (List Int)) : Nat → Int
  | 0 => 1
  | t + 1 => placeW row ends counts t * tri (counts.getD t []) (dif row (ends.getD t []))
def places (rows : List (List Int)) (ends counts : List (List Int)) : Int := (rows.map fun row => placeW row ends counts ends.length).foldl (· + ·) 0

def EndsOK (n : Nat) (ends : List (List Int)) : Prop := ∀ e ∈ ends, ∃ a b : Nat, e = [(a : Int), (b : Int)] ∧ a < n ∧ b < n
def TriOK (counts : List (List Int)) : Prop := ∀ c ∈ counts, ∃ x y z : Int, c = [x, y, z] ∧ x.natAbs < 2 ^ 60 ∧ y.natAbs < 2 ^ 60 ∧ z.natAbs < 2 ^ 60

theorem fmod3 (x : Int) : x.fmod 3 = 0 ∨ x.fmod 3 = 1 ∨ x.fmod 3 = 2 := by
  have h : x.fmod 3 = x % 3 := Int.fmod_eq_emod_of_nonneg x (by decide)
  (first | lia | omega)

theorem span_succ (a : Int) (n : Nat) : span a (n + 1) = .int a :: span (a + 1) n := by
  simp only [span, List.range_succ_eq_map, List.map_cons, List.map_map]
  congr 1
  · simp
  · apply List.map_congr_left
    intro i _
    simp; (first | lia | omega)

section
variable {G : Gd} {d : Nat} {env : Env} {r p : LV} {H K : List AO}

theorem Sub.il {a : AV} {xs : List Int} {k v : Int} (h : IL H a xs) (h0 : 0 ≤ k) (hk : xs[k.toNat]? = some v) (hz : k < 2 ^ 63) : Sub G d a (.int k) H (.int v) H := by
  obtain ⟨i, rfl, hi⟩ := h
  exact Sub.list hi h0 (by simp [hk]) hz
theorem Sub.il2 {a : AV} {xs : List (List Int)} {k : Int} {v : List Int} (h : IL2 H a xs) (h0 : 0 ≤ k) (hk : xs[k.toNat]? = some v) (hz : k < 2 ^ 63) : ∃ b, IL H b v ∧ Sub G d a (.int k) H b H := by
  obtain ⟨i, as, rfl, hi, q⟩ := h
  obtain ⟨b, hb, ib⟩ := paired_get' q hk
  exact ⟨b, ib, Sub.list hi h0 hb hz⟩
theorem Sub.il3 {a : AV} {xs : List (List (List Int))} {k : Int} {v : List (List Int)} (h : IL3 H a xs) (h0 : 0 ≤ k) (hk : xs[k.toNat]? = some v) (hz : k < 2 ^ 63) : ∃ b, IL2 H b v ∧ Sub G d a (.int k) H b H := by
  obtain ⟨i, as, rfl, hi, q⟩ := h
  obtain ⟨b, hb, ib⟩ := paired_get' q hk
  exact ⟨b, ib, Sub.list hi h0 hb hz⟩
theorem IL.known {a : AV} {xs : List Int} (h : IL H a xs) : a.known = true := by obtain ⟨i, rfl, _⟩ := h; rfl
theorem IL3.known {a : AV} {xs : List (List (List Int))} (h : IL3 H a xs) : a.known = true := by obtain ⟨i, _, rfl, _⟩ := h; rfl

abbrev env75 (pm cd : Value) (L : Addr) : Env := callEnv (mkFd 75 "_law_places" "_law_places" .none pm cd) L 215
abbrev lv75 (count ends counts total row weight tie : AV) : LV := [("count", count), ("ends", ends), ("counts", counts), ("total", total), ("row", row), ("weight", weight), ("tie", tie)]
def for75 : Stmt := sN 75 1
def tie75 : Stmt := nth (forB for75) 1

theorem getD_of {α : Type} {l : List α} {i : Nat} {x y : α} (h : l[i]? = some x) : l.getD i y = x := by simp [List.getD, h]

theorem ties75 (P : Prog G) {pm cd : Value} {L : Addr} (hE : EnvOK G (env75 pm cd L)) {c e k t a : AV} {row : List Int} {ends counts : List (List Int)} (he : IL2 K e ends) (hk : IL2 K k counts) (ha : IL K a row) (hes : EndsOK row.length ends) (hks : TriOK counts) (hl : ends.length ≤ counts.length) (hz : ends.length < 1000) (hz' : row.length < 1000) :
    ∀ (n m : Nat) (x : AV), m + n = ends.length →
      ∃ x', Loop (Turn G d (env75 pm cd L) (forT tie75) (forB tie75) fun _ => True) (span (m : Int) n) (lv75 c e k t a (.int (placeW row ends counts m)) x) K .next (lv75 c e k t a (.int (placeW row ends counts ends.length)) x') K
  | 0, m, x, h => ⟨x, by rw [show m = ends.length by (first | lia | omega)]; exact .nil⟩
  | n + 1, m, x, h => by
    obtain ⟨x', lp⟩ := ties75 P hE he hk ha hes hks hl hz hz' n (m + 1) (.int m) (by (first | lia | omega)) (c := c) (t := t)
    rw [span_succ m n, show ((m : Int) + 1) = ((m + 1 : Nat) : Int) by (first | lia | omega)]
    have hm : m < ends.length := by (first | lia | omega)
    obtain ⟨p, q, hpq, hp, hq⟩ := hes ends[m] (List.getElem_mem hm)
    have hme : ends[m]? = some [(p : Int), (q : Int)] := by rw [List.getElem?_eq_getElem hm, hpq]
    have hmk : m < counts.length := by (first | lia | omega)
    obtain ⟨y0, y1, y2, hy, b0, b1, b2⟩ := hks counts[m] (List.getElem_mem hmk)
    have hmc : counts[m]? = some [y0, y1, y2] := by rw [List.getElem?_eq_getElem hmk, hy]
    obtain ⟨be, ibe, sbe⟩ := Sub.il2 (G := G) (d := d) he (k := m) (by (first | lia | omega)) (by simpa using hme) (by (first | lia | omega))
    obtain ⟨bk, ibk, sbk⟩ := Sub.il2 (G := G) (d := d) hk (k := m) (by (first | lia | omega)) (by simpa using hmc) (by (first | lia | omega))
    have hrp : row[p]? = some (row.getD p 0) := by simp [List.getD, hp]
    have hrq : row[q]? = some (row.getD q 0) := by simp [List.getD, hq]
    generalize hu : row.getD p 0 = u at hrp
    generalize hv : row.getD q 0 = v at hrq
    have hd : dif row (ends.getD m []) = v - u := by rw [getD_of hme]; simp [dif, ← hu, ← hv]
    obtain ⟨w, hw, hw', hwb⟩ : ∃ w, [y0, y1, y2][((v - u).fmod 3).toNat]? = some w ∧ tri (counts.getD m []) (v - u) = w ∧ w.natAbs < 2 ^ 64 := by
      rw [getD_of hmc]
      unfold tri
      rcases fmod3 (v - u) with h | h | h <;> rw [h] <;> refine ⟨_, rfl, rfl, ?_⟩ <;> (first | lia | omega)
    have hfm : 0 ≤ (v - u).fmod 3 ∧ (v - u).fmod 3 < 3 := by rcases fmod3 (v - u) with h | h | h <;> rw [h] <;> decide
    refine ⟨x', .next (p₁ := lv75 c e k t a (.int (placeW row ends counts (m + 1))) (.int m)) ⟨_, _, Asg.name hE pt6, Ex.one (Ex1.aug hE at5 (Ev.sub (Ev.sub (Ev.loc hE at2 hk.known) (Ev.loc hE at6) sbk) (Ev.bin (Ev.bin
      (Ev.sub (Ev.loc hE at4 ha.known) (Ev.sub (Ev.sub (Ev.loc hE at1 he.known) (Ev.loc hE at6) sbe) Ev.cInt (Sub.il ibe (by decide) (by rfl) (by decide))) (Sub.il ha (by (first | lia | omega)) (by simpa using hrq) (by (first | lia | omega))))
      (Ev.sub (Ev.loc hE at4 ha.known) (Ev.sub (Ev.sub (Ev.loc hE at1 he.known) (Ev.loc hE at6) sbe) Ev.cInt (Sub.il ibe (by decide) (by rfl) (by decide))) (Sub.il ha (by (first | lia | omega)) (by simpa using hrp) (by (first | lia | omega)))) Opr.sub) Ev.cInt (Opr.mod (by decide)))
      (Sub.il ibk hfm.1 hw (by (first | lia | omega)))) (Opr.imul (mulR hwb)) ?_), trivial⟩ lp⟩
    show Put _ _ _ (lv75 c e k t a (.int (placeW row ends counts m * _)) (.int m))
    rw [hd, hw']
    exact pt5

theorem Ev.lenIL2 (P : Prog G) (hE : EnvOK G env) {x : Expr} {a : AV} {xs : List (List Int)} {pos px : Pos} {H₁ : List AO} (h : Ev G d env x r H a H₁) (hx : IL2 H₁ a xs) (hz : xs.length < 2 ^ 62) (hk : env.kindOf "len" = some .globalImplicit) (hs : isStarred x = false := by rfl) :
    Ev G d env (.Call (.Name "len" px) [x] [] pos) r H (.int (xs.length : Nat)) H₁ := by
  obtain ⟨i, as, rfl, hi, q⟩ := hx
  have e : as.length = xs.length := q.length
  rw [← e]
  exact Ev.call (Ev.bltin P.ok hE P.n_len P.b_len hk) (Evs.cons h Evs.nil hs) Cal.bltin (CallT.len hi (by (first | lia | omega))) (by simp [hs])

theorem rows75 (P : Prog G) {pm cd : Value} {L : Addr} (hE : EnvOK G (env75 pm cd L)) {c e k : AV} {ends counts : List (List Int)} (he : IL2 K e ends) (hk : IL2 K k counts) (hks : TriOK counts) (hl : ends.length ≤ counts.length) (hz : ends.length < 1000) {N : Nat} (hN : N < 1000) (hes : EndsOK N ends) {Ok : List AO → Prop} (hok : Ok K) :
    ∀ {js : List AV} {rows : List (List Int)} (t : Int) (a w x : AV), Paired (IL K) js rows → (∀ row ∈ rows, row.length = N) →
      ∃ a' w' x', Loop (Turn G d (env75 pm cd L) (forT for75) (forB for75) Ok) js (lv75 c e k (.int t) a w x) K .next (lv75 c e k (.int ((rows.map fun row => placeW row ends counts ends.length).foldl (· + ·) t)) a' w' x') K
  | _, _, t, a, w, x, .nil, _ => ⟨a, w, x, .nil⟩
  | j :: js, row :: rows, t, a, w, x, .cons h q, hr => by
    have hlr : row.length = N := hr row (by simp)
    obtain ⟨x₁, lp₁⟩ := ties75 (d := d) P hE he hk h (hlr ▸ hes) hks hl hz (by (first | lia | omega)) (c := c) (t := .int t) ends.length 0 x (by (first | lia | omega))
    obtain ⟨a', w', x', lp⟩ := rows75 P hE he hk hks hl hz hN hes hok (c := c) (t + placeW row ends counts ends.length) j (.int (placeW row ends counts ends.length)) x₁ q (fun r h => hr r (List.mem_cons_of_mem _ h))
    refine ⟨a', w', x', .next (p₁ := lv75 c e k (.int (t + placeW row ends counts ends.length)) j (.int (placeW row ends counts ends.length)) x₁) ⟨_, _, Asg.name hE pt4, Ex.cons (Ex1.assign hE Ev.cInt pt5) (Ex.cons (Ex1.forIt (It.call (Ev.bltin P.ok hE P.n_range P.b_range) (Evs.cons (Ev.lenIL2 P hE (Ev.loc hE at1 he.known) he (by (first | lia | omega)) rfl) Evs.nil) Cal.type (CallIt.range1 (by (first | lia | omega)) (by (first | lia | omega)))) lp₁)
      (Ex.one (Ex1.aug hE at3 (Ev.loc hE at5) Opr.iadd pt3))), hok⟩ lp⟩

def ns75 : List Str := ["count", "ends", "counts", "total", "row", "weight", "tie"]
theorem places_spec (P : Prog G) {n : Nat} {e k : AV} {ends counts : List (List Int)} (hn : n ≤ 8) (he : IL2 H e ends) (hk : IL2 H k counts) (hes : EndsOK (n + 1) ends) (hks : TriOK counts) (hl : ends.length ≤ counts.length) (hz : ends.length < 1000) :
    ∃ H', CallT G (d + 2) (.ext (.ref 215)) [.int ((n + 1 : Nat) : Int), e, k] H (.int (places (paint n) ends counts)) H' ∧ Grow H H' := by
  obtain ⟨pm, cd, F⟩ := P.fn (ns := ns75) P.f_law_places (by decide) (by decide) (by decide) (by decide) rfl rfl rfl
  obtain ⟨a, K, hc, g, hp⟩ := paintings_spec (d := d) (H := H) P n hn
  obtain ⟨i, js, rfl, hi, q⟩ := hp
  refine ⟨K, CallT.def (ps := [("count", .int ((n + 1 : Nat) : Int)), ("ends", e), ("counts", k)]) (ls := [("total", .unset), ("row", .unset), ("weight", .unset), ("tie", .unset)]) (f := .ret (.int (places (paint n) ends counts))) P.ok F (Binds.plain (names := ["count", "ends", "counts"]) rfl ?_) rfl (fun p h => ?_) fun L hE => ?_, g⟩
  · exact len3 fun _ _ _ => rfl
  · simp only [List.mem_cons, List.not_mem_nil, or_false] at h
    rcases h with rfl | rfl | rfl | rfl <;> rfl
  · obtain ⟨a', w', x', lp⟩ := rows75 (d := d + 1) P hE (he.grow g) (hk.grow g) hks hl hz (N := n + 1) (by (first | lia | omega)) hes (Ok := fun K => K[i]? = some (.list js)) hi (c := .int ((n + 1 : Nat) : Int)) 0 .unset .unset .unset q (paint_row n)
    exact ⟨_, Ex.cons (Ex1.assign hE Ev.cInt pt3) (Ex.cons (Ex1.forIt (It.list (Ev.call (Ev.fn P hE P.g_law_paintings) (Evs.cons (Ev.loc hE at0) Evs.nil) P.f_law_paintings.cal hc) hi) lp) (Ex.one (Ex1.ret (Ev.loc hE at3))))⟩
end
end Mine

namespace Mine
open PySem PySem.W

/-- the plane net's numbers -/
abbrev E := Int × Int
def mulE (p q : E) : E := (p.1 * q.1 - p.2 * q.2, p.1 * q.2 + p.2 * q.1 - p.2 * q.2)
def addE (p q : E) : E := (p.1 + q.1, p.2 + q.2)
def tri3 (s : List (List Int)) (x : Int) : E := let p := s.getD (x.fmod 3).toNat []; (p.getD 0 0, p.getD 1 0)
def fieldW (row : List Int) (ends : List (List Int)) (seen : List (List (List Int))) : Nat → E
  | 0 => (1, 0)
  | t + 1 => mulE (fieldW row ends seen t) (tri3 (seen.getD t []) (dif row (ends.getD t [])))
def fields (rows : List (List Int)) (ends : List (List Int)) (seen : List (List (List Int))) : E := (rows.map fun row => fieldW row ends seen ends.length).foldl addE (0, 0)
def SeenOK (seen : List (List (List Int))) : Prop := ∀ s ∈ seen, ∃ a0 b0 a1 b1 a2 b2 : Int, s = [[a0, b0], [a1, b1], [a2, b2]] ∧ a0.natAbs < 2 ^ 60 ∧ b0.natAbs < 2 ^ 60 ∧ a1.natAbs < 2 ^ 60 ∧ b1.natAbs < 2 ^ 60 ∧ a2.natAbs < 2 ^ 60 ∧ b2.natAbs < 2 ^ 60

section
variable {G : Gd} {d : Nat} {env : Env} {r p : LV} {H K : List AO}

abbrev env76 (pm cd : Value) (L : Addr) : Env := callEnv (mkFd 76 "_law_fields" "_law_fields" .none pm cd) L 222
abbrev lv76 (count ends seen plain aside row east north tie a b : AV) : LV := [("count", count), ("ends", ends), ("seen", seen), ("plain", plain), ("aside", aside), ("row", row), ("east", east), ("north", north), ("tie", tie), ("a", a), ("b", b)]
def for76 : Stmt := sN 76 2
def tie76 : Stmt := nth (forB for76) 1

theorem Unp.il {a : AV} {x y : Int} (h : IL H a [x, y]) : Unp G d a [.int x, .int y] H := by
  obtain ⟨i, rfl, hi⟩ := h
  exact Unp.list hi

theorem ties76 (P : Prog G) {pm cd : Value} {c e k t t' a : AV} {row : List Int} {ends : List (List Int)} {seen : List (List (List Int))} (hes : EndsOK row.length ends) (hks : SeenOK seen) (hl : ends.length ≤ seen.length) (hz : ends.length < 1000) (hz' : row.length < 1000) :
    ∀ (n m : Nat) (x u v : AV) {K : List AO}, IL2 K e ends → IL3 K k seen → IL K a row → m + n = ends.length →
      ∃ x' u' v' K', (∀ L, EnvOK G (env76 pm cd L) → Loop (Turn G d (env76 pm cd L) (forT tie76) (forB tie76) fun _ => True) (span (m : Int) n)
        (lv76 c e k t t' a (.int (fieldW row ends seen m).1) (.int (fieldW row ends seen m).2) x u v) K .next (lv76 c e k t t' a (.int (fieldW row ends seen ends.length).1) (.int (fieldW row ends seen ends.length).2) x' u' v') K') ∧ Grow K K'
  | 0, m, x, u, v, K, he, hk, ha, h => ⟨x, u, v, K, fun L hE => by rw [show m = ends.length by (first | lia | omega)]; exact .nil, .refl⟩
  | n + 1, m, x, u, v, K, he, hk, ha, h => by
    rw [span_succ m n, show ((m : Int) + 1) = ((m + 1 : Nat) : Int) by (first | lia | omega)]
    have hm : m < ends.length := by (first | lia | omega)
    obtain ⟨p, q, hpq, hp, hq⟩ := hes ends[m] (List.getElem_mem hm)
    have hme : ends[m]? = some [(p : Int), (q : Int)] := by rw [List.getElem?_eq_getElem hm, hpq]
    have hmk : m < seen.length := by (first | lia | omega)
    obtain ⟨a0, b0, a1, b1, a2, b2, hy, k0, l0, k1, l1, k2, l2⟩ := hks seen[m] (List.getElem_mem hmk)
    have hmc : seen[m]? = some [[a0, b0], [a1, b1], [a2, b2]] := by rw [List.getElem?_eq_getElem hmk, hy]
    obtain ⟨be, ibe, sbe⟩ := Sub.il2 (G := G) (d := d) he (k := m) (by (first | lia | omega)) (by simpa using hme) (by (first | lia | omega))
    obtain ⟨bk, ibk, sbk⟩ := Sub.il3 (G := G) (d := d) hk (k := m) (by (first | lia | omega)) (by simpa using hmc) (by (first | lia | omega))
    have hrp : row[p]? = some (row.getD p 0) := by simp [List.getD, hp]
    have hrq : row[q]? = some (row.getD q 0) := by simp [List.getD, hq]
    generalize hu : row.getD p 0 = ru at hrp
    generalize hv : row.getD q 0 = rv at hrq
    have hd : dif row (ends.getD m []) = rv - ru := by rw [getD_of hme]; simp [dif, ← hu, ← hv]
    obtain ⟨w₁, w₂, hw, hw', hwb, hwb'⟩ : ∃ w₁ w₂, [[a0, b0], [a1, b1], [a2, b2]][((rv - ru).fmod 3).toNat]? = some [w₁, w₂] ∧ tri3 (seen.getD m []) (rv - ru) = (w₁, w₂) ∧ w₁.natAbs < 2 ^ 64 ∧ w₂.natAbs < 2 ^ 64 := by
      rw [getD_of hmc]
      unfold tri3
      rcases fmod3 (rv - ru) with h | h | h <;> rw [h] <;> refine ⟨_, _, rfl, rfl, ?_, ?_⟩ <;> (first | lia | omega)
    have hfm : 0 ≤ (rv - ru).fmod 3 ∧ (rv - ru).fmod 3 < 3 := by rcases fmod3 (rv - ru) with h | h | h <;> rw [h] <;> decide
    obtain ⟨bt, ibt, sbt⟩ := Sub.il2 (G := G) (d := d) ibk hfm.1 hw (by (first | lia | omega))
    have hf : fieldW row ends seen (m + 1) = ((fieldW row ends seen m).1 * w₁ - (fieldW row ends seen m).2 * w₂, (fieldW row ends seen m).1 * w₂ + (fieldW row ends seen m).2 * w₁ - (fieldW row ends seen m).2 * w₂) := by
      show mulE _ _ = _
      rw [hd, hw']; rfl
    obtain ⟨x', u', v', K', lp, g⟩ := ties76 P (pm := pm) (cd := cd) hes hks hl hz hz' n (m + 1) (.int m) (.int w₁) (.int w₂) (c := c) (t := t) (t' := t') (K := K ++ [.tup [.int (fieldW row ends seen (m + 1)).1, .int (fieldW row ends seen (m + 1)).2]]) (he.grow .push) (hk.grow .push) (ha.grow .push) (by (first | lia | omega))
    rw [hf] at lp g
    refine ⟨x', u', v', K', fun L hE => .next ⟨_, _, Asg.name hE pt8, Ex.cons (Ex1.assignTup (xs := ["a", "b"]) (r' := lv76 c e k t t' a (.int (fieldW row ends seen m).1) (.int (fieldW row ends seen m).2) (.int m) (.int w₁) (.int w₂)) hE (Ev.sub (Ev.sub (Ev.loc hE at2 hk.known) (Ev.loc hE at8) sbk) (Ev.bin (Ev.bin
      (Ev.sub (Ev.loc hE at5 ha.known) (Ev.sub (Ev.sub (Ev.loc hE at1 he.known) (Ev.loc hE at8) sbe) Ev.cInt (Sub.il ibe (by decide) (by rfl) (by decide))) (Sub.il ha (by (first | lia | omega)) (by simpa using hrq) (by (first | lia | omega))))
      (Ev.sub (Ev.loc hE at5 ha.known) (Ev.sub (Ev.sub (Ev.loc hE at1 he.known) (Ev.loc hE at8) sbe) Ev.cInt (Sub.il ibe (by decide) (by rfl) (by decide))) (Sub.il ha (by (first | lia | omega)) (by simpa using hrp) (by (first | lia | omega)))) Opr.sub) Ev.cInt (Opr.mod (by decide))) sbt)
      (Unp.il ibt) (.cons (.cons .nil)) (.cons pt9 (.cons pt10 .nil)))
      (Ex.one (Ex1.swap (xs := ["east", "north"]) hE (Ev.tup (Evs.cons (Ev.bin (Ev.bin (Ev.loc hE at6) (Ev.loc hE at9) (Opr.mul (mulR hwb))) (Ev.bin (Ev.loc hE at7) (Ev.loc hE at10) (Opr.mul (mulR hwb'))) Opr.sub) (Evs.cons (Ev.bin (Ev.bin (Ev.bin (Ev.loc hE at6) (Ev.loc hE at10) (Opr.mul (mulR hwb')))
         (Ev.bin (Ev.loc hE at7) (Ev.loc hE at9) (Opr.mul (mulR hwb))) Opr.add) (Ev.bin (Ev.loc hE at7) (Ev.loc hE at10) (Opr.mul (mulR hwb'))) Opr.sub) Evs.nil)) (by simp)) (Unp.tup get_last) (.cons pt7 (.cons pt6 .nil)) rfl)), trivial⟩ (lp L hE), Grow.push.trans g⟩

theorem rows76 (P : Prog G) {pm cd : Value} {c e k : AV} {ends : List (List Int)} {seen : List (List (List Int))} (hks : SeenOK seen) (hl : ends.length ≤ seen.length) (hz : ends.length < 1000) {N : Nat} (hN : N < 1000) (hes : EndsOK N ends) {Ok : List AO → Prop} (hOk : ∀ K K', Grow K K' → Ok K → Ok K') :
    ∀ {js : List AV} {rows : List (List Int)} (t : E) (a y z x u v : AV) {K : List AO}, IL2 K e ends → IL3 K k seen → Ok K → Paired (IL K) js rows → (∀ row ∈ rows, row.length = N) →
      ∃ a' y' z' x' u' v' K', (∀ L, EnvOK G (env76 pm cd L) → Loop (Turn G d (env76 pm cd L) (forT for76) (forB for76) Ok) js (lv76 c e k (.int t.1) (.int t.2) a y z x u v) K .next
        (lv76 c e k (.int ((rows.map fun row => fieldW row ends seen ends.length).foldl addE t).1) (.int ((rows.map fun row => fieldW row ends seen ends.length).foldl addE t).2) a' y' z' x' u' v') K') ∧ Grow K K'
  | _, _, t, a, y, z, x, u, v, K, he, hk, ok, .nil, _ => ⟨a, y, z, x, u, v, K, fun _ _ => .nil, .refl⟩
  | j :: js, row :: rows, t, a, y, z, x, u, v, K, he, hk, ok, .cons h q, hr => by
    have hlr : row.length = N := hr row (by simp)
    have g0 : Grow K (K ++ [AO.tup [AV.int 1, AV.int 0]]) := .push
    obtain ⟨x₁, u₁, v₁, K₁, lp₁, g₁⟩ := ties76 (d := d) P (pm := pm) (cd := cd) (hlr ▸ hes) hks hl hz (by (first | lia | omega)) (c := c) (t := .int t.1) (t' := .int t.2) ends.length 0 x u v (he.grow g0) (hk.grow g0) (IL.grow g0 h) (by (first | lia | omega))
    have g := g0.trans g₁
    generalize hw : fieldW row ends seen ends.length = w at lp₁
    obtain ⟨a', y', z', x', u', v', K', lp, g'⟩ := rows76 P (pm := pm) (cd := cd) hks hl hz hN hes hOk (c := c) (addE t w) j (.int w.1) (.int w.2) x₁ u₁ v₁ (he.grow g) (hk.grow g) (hOk _ _ g ok) (paired_imp (fun _ _ => IL.grow g) q) (fun r h => hr r (List.mem_cons_of_mem _ h))
    rw [← hw] at lp
    refine ⟨a', y', z', x', u', v', K', fun L hE => .next (p₁ := lv76 c e k (.int (t.1 + w.1)) (.int (t.2 + w.2)) j (.int w.1) (.int w.2) x₁ u₁ v₁) (K₁ := K₁) ⟨_, _, Asg.name hE pt5, Ex.cons (Ex1.assignTup (xs := ["east", "north"]) hE (Ev.tup (Evs.cons Ev.cInt (Evs.cons Ev.cInt Evs.nil)) (by simp)) (Unp.tup get_last) (.cons (.cons .nil)) (.cons pt6 (.cons pt7 .nil)))
      (Ex.cons (Ex1.forIt (It.call (Ev.bltin P.ok hE P.n_range P.b_range) (Evs.cons (Ev.lenIL2 P hE (Ev.loc hE at1 he.known) (he.grow g0) (by (first | lia | omega)) rfl) Evs.nil) Cal.type (CallIt.range1 (by (first | lia | omega)) (by (first | lia | omega)))) (lp₁ L hE))
      (Ex.cons (Ex1.aug hE at3 (Ev.loc hE at6) Opr.iadd pt3) (Ex.one (Ex1.aug hE at4 (Ev.loc hE at7) Opr.iadd pt4)))), hOk _ _ g ok⟩ (by rw [← hw]; exact lp L hE), g.trans g'⟩

def ns76 : List Str := ["count", "ends", "seen", "plain", "aside", "row", "east", "north", "tie", "a", "b"]
theorem fields_spec (P : Prog G) {n : Nat} {e k : AV} {ends : List (List Int)} {seen : List (List (List Int))} (hn : n ≤ 8) (he : IL2 H e ends) (hk : IL3 H k seen) (hes : EndsOK (n + 1) ends) (hks : SeenOK seen) (hl : ends.length ≤ seen.length) (hz : ends.length < 1000) :
    ∃ i H', CallT G (d + 2) (.ext (.ref 222)) [.int ((n + 1 : Nat) : Int), e, k] H (.ref i) H' ∧ Grow H H' ∧ H'[i]? = some (.tup [.int (fields (paint n) ends seen).1, .int (fields (paint n) ends seen).2]) := by
  obtain ⟨pm, cd, F⟩ := P.fn (ns := ns76) P.f_law_fields (by decide) (by decide) (by decide) (by decide) rfl rfl rfl
  obtain ⟨a, K, hc, g, hp⟩ := paintings_spec (d := d) (H := H) P n hn
  obtain ⟨i, js, rfl, hi, q⟩ := hp
  obtain ⟨a', y', z', x', u', v', K', lp, g'⟩ := rows76 (d := d + 1) P (pm := pm) (cd := cd) hks hl hz (N := n + 1) (by (first | lia | omega)) hes (Ok := fun K => K[i]? = some (.list js)) (fun _ _ g h => g.get h) (c := .int ((n + 1 : Nat) : Int)) (0, 0) .unset .unset .unset .unset .unset .unset (he.grow g) (hk.grow g) hi q (paint_row n)
  refine ⟨K'.length, K' ++ [.tup [.int (fields (paint n) ends seen).1, .int (fields (paint n) ends seen).2]], CallT.def (ps := [("count", .int ((n + 1 : Nat) : Int)), ("ends", e), ("seen", k)]) (ls := [("plain", .unset), ("aside", .unset), ("row", .unset), ("east", .unset), ("north", .unset), ("tie", .unset), ("a", .unset), ("b", .unset)])
    (f := .ret (.ref K'.length)) P.ok F (Binds.plain (names := ["count", "ends", "seen"]) rfl ?_) rfl (fun p h => ?_) fun L hE => ?_, (g.trans g').trans .push, get_last⟩
  · exact len3 fun _ _ _ => rfl
  · simp only [List.mem_cons, List.not_mem_nil, or_false] at h
    rcases h with rfl | rfl | rfl | rfl | rfl | rfl | rfl | rfl <;> rfl
  · exact ⟨_, Ex.cons (Ex1.assign hE Ev.cInt pt3) (Ex.cons (Ex1.assign hE Ev.cInt pt4) (Ex.cons (Ex1.forIt (It.list (Ev.call (Ev.fn P hE P.g_law_paintings) (Evs.cons (Ev.loc hE at0) Evs.nil) P.f_law_paintings.cal hc) hi) (lp L hE)) (Ex.one (Ex1.ret (Ev.tup (Evs.cons (Ev.loc hE at3) (Evs.cons (Ev.loc hE at4) Evs.nil)) (by simp))))))⟩
end
end Mine

namespace Mine
open PySem PySem.W

/-- the walk of _law_map: a state -/
structure MS where
  ends : List (List Int)
  pile : List Int
  cnt : Int
  w7 : List Int
  w9 : List Int

structure MRel (G : Gd) (n0 : Nat) (H : List AO) (ie ip id i7 i9 : Nat) (js : List Nat) (m : MS) : Prop where
  e : H[ie]? = some (.list (js.map .ref))
  p : H[ip]? = some (.list (m.pile.map .int))
  d : H[id]? = some (dictI G [(7, .ref i7), (9, .ref i9)])
  w7 : H[i7]? = some (.list (m.w7.map .int))
  w9 : H[i9]? = some (.list (m.w9.map .int))
  q : Paired (fun j e => H[j]? = some (AO.list (e.map AV.int))) js m.ends
  nd : (ie :: ip :: id :: i7 :: i9 :: js).Nodup
  lo : ∀ j ∈ (ie :: ip :: id :: i7 :: i9 :: js), n0 ≤ j

theorem paired_mem {α β : Type} {F F' : α → β → Prop} : ∀ {l : List α} {k : List β}, (∀ a ∈ l, ∀ b, F a b → F' a b) → Paired F l k → Paired F' l k
  | _, _, _, .nil => .nil
  | _, _, h, .cons a t => .cons (h _ (by simp) _ a) (paired_mem (fun a ha => h a (List.mem_cons_of_mem _ ha)) t)
theorem ne_mem {j k : Nat} {js : List Nat} (h : k ∉ js) (hj : j ∈ js) : k ≠ j := fun e => h (by rw [e]; exact hj)
theorem set_ne {H : List AO} {i j : Nat} {x : AO} (h : i ≠ j) : (H.set i x)[j]? = H[j]? := List.getElem?_set_ne h

section
variable {G : Gd} {d n0 : Nat} {H K : List AO} {ie ip id i7 i9 : Nat} {js : List Nat} {m : MS}

theorem MRel.ne (R : MRel G n0 H ie ip id i7 i9 js m) : ((ie ≠ ip ∧ ie ≠ id ∧ ie ≠ i7 ∧ ie ≠ i9 ∧ ie ∉ js) ∧ (ip ≠ id ∧ ip ≠ i7 ∧ ip ≠ i9 ∧ ip ∉ js) ∧ (id ≠ i7 ∧ id ≠ i9 ∧ id ∉ js) ∧ (i7 ≠ i9 ∧ i7 ∉ js) ∧ i9 ∉ js ∧ js.Nodup) := by
  have := R.nd
  simp only [List.nodup_cons, List.mem_cons, not_or] at this
  obtain ⟨⟨a, b, c, d, e⟩, ⟨f, g, h, i⟩, ⟨j, k, l⟩, ⟨m, n⟩, o, p⟩ := this
  exact ⟨⟨a, b, c, d, e⟩, ⟨f, g, h, i⟩, ⟨j, k, l⟩, ⟨m, n⟩, o, p⟩

theorem MRel.push (R : MRel G n0 H ie ip id i7 i9 js m) (J : List AO) : MRel G n0 (H ++ J) ie ip id i7 i9 js m :=
  ⟨Grow.push.get R.e, Grow.push.get R.p, Grow.push.get R.d, Grow.push.get R.w7, Grow.push.get R.w9, paired_imp (fun _ _ h => Grow.push.get h) R.q, R.nd, R.lo⟩
theorem MRel.setP (R : MRel G n0 H ie ip id i7 i9 js m) (p : List Int) : MRel G n0 (H.set ip (AO.list (p.map AV.int))) ie ip id i7 i9 js { m with pile := p } := by
  obtain ⟨⟨a1, a2, a3, a4, a5⟩, ⟨b1, b2, b3, b4⟩, ⟨c1, c2, c3⟩, ⟨d1, d2⟩, e1, f1⟩ := R.ne
  refine ⟨(set_ne (Ne.symm a1)).trans R.e, get_set R.p, (set_ne b1).trans R.d, (set_ne b2).trans R.w7, (set_ne b3).trans R.w9, paired_mem (fun j hj e h => (set_ne (ne_mem b4 hj)).trans h) R.q, R.nd, R.lo⟩
theorem MRel.setW7 (R : MRel G n0 H ie ip id i7 i9 js m) (p : List Int) : MRel G n0 (H.set i7 (AO.list (p.map AV.int))) ie ip id i7 i9 js { m with w7 := p } := by
  obtain ⟨⟨a1, a2, a3, a4, a5⟩, ⟨b1, b2, b3, b4⟩, ⟨c1, c2, c3⟩, ⟨d1, d2⟩, e1, f1⟩ := R.ne
  refine ⟨(set_ne (Ne.symm a3)).trans R.e, (set_ne (Ne.symm b2)).trans R.p, (set_ne (Ne.symm c1)).trans R.d, get_set R.w7, (set_ne d1).trans R.w9, paired_mem (fun j hj e h => (set_ne (ne_mem d2 hj)).trans h) R.q, R.nd, R.lo⟩
theorem MRel.setW9 (R : MRel G n0 H ie ip id i7 i9 js m) (p : List Int) : MRel G n0 (H.set i9 (AO.list (p.map AV.int))) ie ip id i7 i9 js { m with w9 := p } := by
  obtain ⟨⟨a1, a2, a3, a4, a5⟩, ⟨b1, b2, b3, b4⟩, ⟨c1, c2, c3⟩, ⟨d1, d2⟩, e1, f1⟩ := R.ne
  refine ⟨(set_ne (Ne.symm a4)).trans R.e, (set_ne (Ne.symm b3)).trans R.p, (set_ne (Ne.symm c2)).trans R.d, (set_ne (Ne.symm d1)).trans R.w7, get_set R.w9, paired_mem (fun j hj e h => (set_ne (ne_mem e1 hj)).trans h) R.q, R.nd, R.lo⟩
theorem MRel.cnt (R : MRel G n0 H ie ip id i7 i9 js m) (c : Int) : MRel G n0 H ie ip id i7 i9 js { m with cnt := c } := ⟨R.e, R.p, R.d, R.w7, R.w9, R.q, R.nd, R.lo⟩
theorem MRel.lt (R : MRel G n0 H ie ip id i7 i9 js m) : ie < H.length ∧ ip < H.length ∧ id < H.length ∧ i7 < H.length ∧ i9 < H.length ∧ ∀ j ∈ js, j < H.length := by
  have f : ∀ {i x}, H[i]? = some x → i < H.length := fun h => (List.getElem?_eq_some_iff.mp h).1
  refine ⟨f R.e, f R.p, f R.d, f R.w7, f R.w9, ?_⟩
  have : ∀ {l : List Nat} {k : List (List Int)}, Paired (fun j e => H[j]? = some (AO.list (e.map .int))) l k → ∀ j ∈ l, j < H.length := by
    intro l k h
    induction h with
    | nil => intro j hj; cases hj
    | cons h t ih => intro j hj; rcases List.mem_cons.mp hj with rfl | hj; exact f h; exact ih j hj
  exact this R.q
theorem MRel.newEnd (R : MRel G n0 H ie ip id i7 i9 js m) (e : List Int) (hn : n0 ≤ H.length) : MRel G n0 ((H ++ [AO.list (e.map AV.int)]).set ie (AO.list ((js ++ [H.length]).map AV.ref))) ie ip id i7 i9 (js ++ [H.length]) { m with ends := m.ends ++ [e] } := by
  obtain ⟨⟨a1, a2, a3, a4, a5⟩, ⟨b1, b2, b3, b4⟩, ⟨c1, c2, c3⟩, ⟨d1, d2⟩, e1, f1⟩ := R.ne
  obtain ⟨l1, l2, l3, l4, l5, l6⟩ := R.lt
  have R' := R.push [AO.list (e.map AV.int)]
  refine ⟨get_set R'.e, (set_ne a1).trans R'.p, (set_ne a2).trans R'.d, (set_ne a3).trans R'.w7, (set_ne a4).trans R'.w9, ?_, ?_, fun j hj => ?_⟩
  · refine paired_app (paired_mem (fun j hj e h => (set_ne (ne_mem a5 hj)).trans h) R'.q) (.cons ?_ .nil)
    rw [set_ne (by (first | lia | omega))]; exact get_last
  · have : ∀ j ∈ (ie :: ip :: id :: i7 :: i9 :: js), j ≠ H.length := fun j hj => by
      simp only [List.mem_cons] at hj
      rcases hj with rfl | rfl | rfl | rfl | rfl | hj <;> first | (first | lia | omega) | (have := l6 j hj; (first | lia | omega))
    have e : (ie :: ip :: id :: i7 :: i9 :: (js ++ [H.length])) = (ie :: ip :: id :: i7 :: i9 :: js) ++ [H.length] := rfl
    rw [e, List.nodup_append]
    exact ⟨R.nd, by simp, fun a ha b hb => by rw [List.mem_singleton.mp hb]; exact this a ha⟩
  · have e : (ie :: ip :: id :: i7 :: i9 :: (js ++ [H.length])) = (ie :: ip :: id :: i7 :: i9 :: js) ++ [H.length] := rfl
    rw [e] at hj
    rcases List.mem_append.mp hj with hj | hj
    · exact R.lo j hj
    · rw [List.mem_singleton.mp hj]; exact hn
theorem MRel.setJ (R : MRel G n0 H ie ip id i7 i9 js m) {t j : Nat} (ht : js[t]? = some j) (e : List Int) : MRel G n0 (H.set j (AO.list (e.map AV.int))) ie ip id i7 i9 js { m with ends := m.ends.set t e } := by
  obtain ⟨⟨a1, a2, a3, a4, a5⟩, ⟨b1, b2, b3, b4⟩, ⟨c1, c2, c3⟩, ⟨d1, d2⟩, e1, f1⟩ := R.ne
  have hj : j ∈ js := List.mem_of_getElem? ht
  refine ⟨(set_ne (Ne.symm (ne_mem a5 hj))).trans R.e, (set_ne (Ne.symm (ne_mem b4 hj))).trans R.p, (set_ne (Ne.symm (ne_mem c3 hj))).trans R.d, (set_ne (Ne.symm (ne_mem d2 hj))).trans R.w7, (set_ne (Ne.symm (ne_mem e1 hj))).trans R.w9, ?_, R.nd, R.lo⟩
  have : ∀ {l : List Nat} {k : List (List Int)} {t : Nat}, Paired (fun j e => H[j]? = some (AO.list (e.map AV.int))) l k → l.Nodup → l[t]? = some j → Paired (fun j' e' => (H.set j (AO.list (e.map AV.int)))[j']? = some (AO.list (e'.map AV.int))) l (k.set t e) := by
    intro l k t h
    induction h generalizing t with
    | nil => intro _ h; simp at h
    | @cons a b l k h t' ih =>
      intro nd ht
      simp only [List.nodup_cons] at nd
      cases t with
      | zero =>
        simp at ht
        subst ht
        simp only [List.set_cons_zero]
        exact .cons (get_set h) (paired_mem (fun x hx e h => (set_ne (ne_mem nd.1 hx)).trans h) t')
      | succ t =>
        simp only [List.set_cons_succ]
        have ht' : l[t]? = some j := by simpa using ht
        exact .cons ((set_ne (Ne.symm (ne_mem nd.1 (List.mem_of_getElem? ht')))).trans h) (ih nd.2 ht')
  exact this R.q f1 ht

abbrev env69 (pm cd : Value) (L : Addr) : Env := callEnv (mkFd 69 "_law_map" "_law_map" .none pm cd) L 175
abbrev lv69 (kinds up ends pile count waiting kind tie : AV) : LV := [("kinds", kinds), ("up", up), ("ends", ends), ("pile", pile), ("count", count), ("waiting", waiting), ("kind", kind), ("tie", tie)]
def for69 : Stmt := sN 69 4

def MS.w (m : MS) (k : Int) : List Int := if k = 7 then m.w7 else m.w9
def MS.setw (m : MS) (k : Int) (l : List Int) : MS := if k = 7 then { m with w7 := l } else { m with w9 := l }
structure MS.Small (m : MS) : Prop where
  e : m.ends.length ≤ 1000
  p : m.pile.length ≤ 1000
  w7 : m.w7.length ≤ 1000
  w9 : m.w9.length ≤ 1000
  r : ∀ y ∈ m.ends, y.length ≤ 1000
def wi (i7 i9 : Nat) (k : Int) : Nat := if k = 7 then i7 else i9

theorem MRel.atW (R : MRel G n0 H ie ip id i7 i9 js m) {k : Int} (hk : k = 7 ∨ k = 9) : H[wi i7 i9 k]? = some (.list ((m.w k).map .int)) ∧ valA [(7, .ref i7), (9, .ref i9)] k = some (.ref (wi i7 i9 k)) := by
  rcases hk with rfl | rfl
  · exact ⟨R.w7, rfl⟩
  · exact ⟨R.w9, rfl⟩
theorem MRel.setW (R : MRel G n0 H ie ip id i7 i9 js m) {k : Int} (hk : k = 7 ∨ k = 9) (l : List Int) : MRel G n0 (H.set (wi i7 i9 k) (AO.list (l.map AV.int))) ie ip id i7 i9 js (m.setw k l) := by
  rcases hk with rfl | rfl
  · exact R.setW7 l
  · exact R.setW9 l
theorem MRel.loW (R : MRel G n0 H ie ip id i7 i9 js m) {k : Int} : n0 ≤ wi i7 i9 k := by
  unfold wi
  split
  · exact R.lo _ (by simp)
  · exact R.lo _ (by simp)
theorem MS.small_w {m : MS} (h : m.Small) (k : Int) : (m.w k).length ≤ 1000 := by unfold MS.w; split; exact h.w7; exact h.w9
theorem setw_ends (m : MS) (k : Int) (l : List Int) : (m.setw k l).ends = m.ends ∧ (m.setw k l).pile = m.pile ∧ (m.setw k l).cnt = m.cnt := by unfold MS.setw; split <;> exact ⟨rfl, rfl, rfl⟩

/-- a sign that opens -/
def MS.openS (m : MS) (up k x : Int) : MS :=
  let m' := m.setw k (m.w k ++ [(m.ends.length : Int)])
  if k = up then { m' with ends := m.ends ++ [[x, m.cnt]], pile := m.pile ++ [m.cnt], cnt := m.cnt + 1 } else { m' with ends := m.ends ++ [[x]] }

theorem turn_open (P : Prog G) {pm cd : Value} {up k x : Int} {p : List Int} {H0 : List AO} {kinds tie kd : AV} {Ok : List AO → Prop} (hOk : ∀ K, Grow H0 K → Ok K) (hk : k = 7 ∨ k = 9) (R : MRel G H0.length H ie ip id i7 i9 js m) (g : Grow H0 H) (hp : m.pile = p ++ [x]) (hs : m.Small) :
    ∃ H' js', (∀ L, EnvOK G (env69 pm cd L) → Turn G d (env69 pm cd L) (forT for69) (forB for69) Ok (.int k) (lv69 kinds (.int up) (.ref ie) (.ref ip) (.int m.cnt) (.ref id) kd tie) H .next (lv69 kinds (.int up) (.ref ie) (.ref ip) (.int (m.openS up k x).cnt) (.ref id) (.int k) tie) H') ∧
      MRel G H0.length H' ie ip id i7 i9 js' (m.openS up k x) ∧ Grow H0 H' := by
  obtain ⟨hw, hv⟩ := R.atW hk
  have hjl : js.length = m.ends.length := R.q.length
  have R1 := R.setW hk (m.w k ++ [(m.ends.length : Int)])
  have g1 : Grow H0 (H.set (wi i7 i9 k) (AO.list ((m.w k ++ [(m.ends.length : Int)]).map AV.int))) := g.set R.loW
  have hmod : ((k.fmod 2) == 1) = true := by rcases hk with rfl | rfl <;> rfl
  obtain ⟨s1, s2, s3⟩ := setw_ends m k (m.w k ++ [(m.ends.length : Int)])
  have hpile : (((p ++ [x]).map AV.int)[((-1 : Int) + (((p ++ [x]).map AV.int).length : Int)).toNat]?) = some (.int x) := by
    have : ((-1 : Int) + (((p ++ [x]).map AV.int).length : Int)).toNat = p.length := by simp; (first | lia | omega)
    rw [this]; simp
  have hS := hs.p
  have hE' := hs.e
  have hW := MS.small_w hs k
  generalize hK1 : H.set (wi i7 i9 k) (AO.list ((m.w k ++ [(m.ends.length : Int)]).map AV.int)) = K1 at R1 g1
  generalize hm1 : m.setw k (m.w k ++ [(m.ends.length : Int)]) = m1 at R1 s1 s2 s3
  have hpl : p.length + 1 ≤ 1000 := by rw [hp] at hS; simpa using hS
  have ap1 : CallT G d (.ext (.builtin "list.append")) [.ref (wi i7 i9 k), .int ((js.map AV.ref).length : Nat)] H .none K1 := by
    rw [← hK1]
    have := CallT.append (G := G) (d := d) (y := .int ((js.map AV.ref).length : Nat)) hw (by simp; (first | lia | omega))
    simpa [hjl] using this
  have last : Sub G d (.ref ip) (.int (-1)) K1 (.int x) K1 := by
    refine Sub.listNeg R1.p (by decide) ?_ ?_ (by decide)
    · rw [s2, hp]; simp; (first | lia | omega)
    · rw [s2, hp]; exact hpile
  by_cases hu : k = up
  · subst hu
    have R2 := R1.newEnd [x, m.cnt] g1.len
    have g2 : Grow H0 ((K1 ++ [AO.list ([x, m.cnt].map AV.int)]).set ie (AO.list ((js ++ [K1.length]).map AV.ref))) := (g1.trans .push).set (R.lo _ (by simp))
    have R3 := R2.setP (m.pile ++ [m.cnt])
    have g3 := g2.set (x := AO.list ((m.pile ++ [m.cnt]).map AV.int)) (R.lo ip (by simp))
    have ap2 : CallT G d (.ext (.builtin "list.append")) [.ref ie, .ref K1.length] (K1 ++ [AO.list [.int x, .int m.cnt]]) .none ((K1 ++ [AO.list ([x, m.cnt].map AV.int)]).set ie (AO.list ((js ++ [K1.length]).map AV.ref))) := by
      have := CallT.append (G := G) (d := d) (y := .ref K1.length) (R1.push [AO.list ([x, m.cnt].map AV.int)]).e (by simp; (first | lia | omega))
      simpa using this
    have R2p := R2.p
    have hm' : m.openS k k x = { m1 with ends := m1.ends ++ [[x, m.cnt]], pile := m.pile ++ [m.cnt], cnt := m.cnt + 1 } := by
      simp only [MS.openS, if_pos, hm1, s1]
    generalize (K1 ++ [AO.list ([x, m.cnt].map AV.int)]).set ie (AO.list ((js ++ [K1.length]).map AV.ref)) = K3 at *
    have ap3 : CallT G d (.ext (.builtin "list.append")) [.ref ip, .int m.cnt] K3 .none (K3.set ip (AO.list ((m.pile ++ [m.cnt]).map AV.int))) := by
      have := CallT.append (G := G) (d := d) (y := .int m.cnt) R2p (by simp [s2]; (first | lia | omega))
      simpa [s2] using this
    rw [hm']
    refine ⟨_, js ++ [K1.length], fun L hE => ⟨_, _, Asg.name hE pt6, Ex.one (Ex1.ifT (Et.cmp (Ev.bin (Ev.loc hE at6) Ev.cInt (Opr.mod (by decide))) Ev.cInt (hmod ▸ Opr.eq)) (Ex.cons (Ex1.expr hE
      (Ev.meth (Ev.sub (Ev.loc hE at5) (Ev.loc hE at6) (Sub.dict R.d hv)) (IsT.list hw) meth_append (Evs.cons (Ev.call (Ev.bltin P.ok hE P.n_len P.b_len) (Evs.cons (Ev.loc hE at2) Evs.nil) Cal.bltin (CallT.len R.e (by simp; (first | lia | omega)))) Evs.nil) ap1))
      (Ex.one (Ex1.ifT (Et.cmp (Ev.loc hE at6) (Ev.loc hE at1) ((beq_self_eq_true k) ▸ Opr.eq)) (Ex.cons (Ex1.expr hE (Ev.meth (Ev.loc hE at2) (IsT.list R1.e) meth_append (Evs.cons (Ev.list (Evs.cons (Ev.sub (Ev.loc hE at3) (Ev.neg Ev.cInt) last) (Evs.cons (Ev.loc hE at4) Evs.nil)) (by simp)) Evs.nil) ap2))
        (Ex.cons (Ex1.expr hE (Ev.meth (Ev.loc hE at3) (IsT.list R2p) meth_append (Evs.cons (Ev.loc hE at4) Evs.nil) ap3)) (Ex.one (Ex1.aug hE at4 Ev.cInt Opr.iadd pt4)))))))), hOk _ g3⟩, ?_, g3⟩
    exact R3.cnt _
  · have R2 := R1.newEnd [x] g1.len
    have g2 : Grow H0 ((K1 ++ [AO.list ([x].map AV.int)]).set ie (AO.list ((js ++ [K1.length]).map AV.ref))) := (g1.trans .push).set (R.lo _ (by simp))
    have ap2 : CallT G d (.ext (.builtin "list.append")) [.ref ie, .ref K1.length] (K1 ++ [AO.list [.int x]]) .none ((K1 ++ [AO.list ([x].map AV.int)]).set ie (AO.list ((js ++ [K1.length]).map AV.ref))) := by
      have := CallT.append (G := G) (d := d) (y := .ref K1.length) (R1.push [AO.list ([x].map AV.int)]).e (by simp; (first | lia | omega))
      simpa using this
    have hne : (k == up) = false := by simpa using hu
    have hm' : m.openS up k x = { m1 with ends := m1.ends ++ [[x]] } := by
      simp only [MS.openS, if_neg hu, hm1, s1]
    have hcnt : (m.openS up k x).cnt = m.cnt := by rw [hm']; exact s3
    rw [hcnt, hm']
    refine ⟨_, js ++ [K1.length], fun L hE => ⟨_, _, Asg.name hE pt6, Ex.one (Ex1.ifT (Et.cmp (Ev.bin (Ev.loc hE at6) Ev.cInt (Opr.mod (by decide))) Ev.cInt (hmod ▸ Opr.eq)) (Ex.cons (Ex1.expr hE
      (Ev.meth (Ev.sub (Ev.loc hE at5) (Ev.loc hE at6) (Sub.dict R.d hv)) (IsT.list hw) meth_append (Evs.cons (Ev.call (Ev.bltin P.ok hE P.n_len P.b_len) (Evs.cons (Ev.loc hE at2) Evs.nil) Cal.bltin (CallT.len R.e (by simp; (first | lia | omega)))) Evs.nil) ap1))
      (Ex.one (Ex1.ifF (Et.cmp (Ev.loc hE at6) (Ev.loc hE at1) (hne ▸ Opr.eq)) (Ex.one (Ex1.expr hE (Ev.meth (Ev.loc hE at2) (IsT.list R1.e) meth_append (Evs.cons (Ev.list (Evs.cons (Ev.sub (Ev.loc hE at3) (Ev.neg Ev.cInt) last) Evs.nil) (by simp)) Evs.nil) ap2))))))), hOk _ g2⟩, ?_, g2⟩
    exact R2

/-- a sign that closes -/
def MS.closeS (m : MS) (up k : Int) (ws p : List Int) (t : Nat) (y : List Int) (x : Int) : MS :=
  let m' := m.setw k ws
  if k = up then { m' with pile := p } else { m' with ends := m.ends.set t (y ++ [x]) }

theorem turn_close (P : Prog G) {pm cd : Value} {up k x : Int} {p ws y : List Int} {t : Nat} {H0 : List AO} {kinds tie kd : AV} {Ok : List AO → Prop} (hOk : ∀ K, Grow H0 K → Ok K) (hk : k = 7 ∨ k = 9) (R : MRel G H0.length H ie ip id i7 i9 js m) (g : Grow H0 H) (hp : m.pile = p ++ [x]) (hw0 : m.w k = ws ++ [(t : Int)]) (hy : m.ends[t]? = some y) (hs : m.Small) :
    ∃ H', (∀ L, EnvOK G (env69 pm cd L) → Turn G d (env69 pm cd L) (forT for69) (forB for69) Ok (.int (k + 1)) (lv69 kinds (.int up) (.ref ie) (.ref ip) (.int m.cnt) (.ref id) kd tie) H .next (lv69 kinds (.int up) (.ref ie) (.ref ip) (.int (m.closeS up k ws p t y x).cnt) (.ref id) (.int (k + 1)) (.int t)) H') ∧
      MRel G H0.length H' ie ip id i7 i9 js (m.closeS up k ws p t y x) ∧ Grow H0 H' := by
  obtain ⟨hw, hv⟩ := R.atW hk
  have hjl : js.length = m.ends.length := R.q.length
  have R1 := R.setW hk ws
  have g1 : Grow H0 (H.set (wi i7 i9 k) (AO.list (ws.map AV.int))) := g.set R.loW
  have hmod : (((k + 1).fmod 2) == 1) = false := by rcases hk with rfl | rfl <;> rfl
  have hv' : valA [(7, .ref i7), (9, .ref i9)] (k + 1 - 1) = some (.ref (wi i7 i9 k)) := by rw [Int.add_sub_cancel]; exact hv
  obtain ⟨s1, s2, s3⟩ := setw_ends m k ws
  have hS := hs.p
  have hE' := hs.e
  have hW := MS.small_w hs k
  have hpl : p.length + 1 ≤ 1000 := by rw [hp] at hS; simpa using hS
  have hwl : ws.length + 1 ≤ 1000 := by rw [hw0] at hW; simpa using hW
  have pop1 : CallT G d (.ext (.builtin "list.pop")) [.ref (wi i7 i9 k)] H (.int t) (H.set (wi i7 i9 k) (AO.list (ws.map AV.int))) := by
    rw [hw0, List.map_append] at hw
    exact CallT.pop hw (by simp; (first | lia | omega))
  generalize hK1 : H.set (wi i7 i9 k) (AO.list (ws.map AV.int)) = K1 at R1 g1 pop1
  generalize hm1 : m.setw k ws = m1 at R1 s1 s2 s3
  by_cases hu : k = up
  · subst hu
    have R2 := R1.setP p
    have g2 := g1.set (x := AO.list (p.map AV.int)) (R.lo ip (by simp))
    have pop2 : CallT G d (.ext (.builtin "list.pop")) [.ref ip] K1 (.int x) (K1.set ip (AO.list (p.map AV.int))) := by
      have hpp := R1.p
      rw [s2, hp, List.map_append] at hpp
      exact CallT.pop hpp (by simp; (first | lia | omega))
    have he : ((k + 1 - 1) == k) = true := by rw [Int.add_sub_cancel]; exact beq_self_eq_true k
    have hm' : m.closeS k k ws p t y x = { m1 with pile := p } := by
      simp only [MS.closeS, if_pos, hm1]
    have hcnt : (m.closeS k k ws p t y x).cnt = m.cnt := by rw [hm']; exact s3
    rw [hcnt, hm']
    refine ⟨_, fun L hE => ⟨_, _, Asg.name hE pt6, Ex.one (Ex1.ifF (Et.cmp (Ev.bin (Ev.loc hE at6) Ev.cInt (Opr.mod (by decide))) Ev.cInt (hmod ▸ Opr.eq)) (Ex.cons (Ex1.assign hE
      (Ev.meth (Ev.sub (Ev.loc hE at5) (Ev.bin (Ev.loc hE at6) Ev.cInt Opr.sub) (Sub.dict R.d hv')) (IsT.list hw) meth_pop Evs.nil pop1) pt7)
      (Ex.one (Ex1.ifT (Et.cmp (Ev.bin (Ev.loc hE at6) Ev.cInt Opr.sub) (Ev.loc hE at1) (he ▸ Opr.eq)) (Ex.one (Ex1.expr hE (Ev.meth (Ev.loc hE at3) (IsT.list R1.p) meth_pop Evs.nil pop2))))))), hOk _ g2⟩, R2, g2⟩
  · obtain ⟨j, hj, hjy⟩ := paired_get' R1.q (by rw [s1]; exact hy)
    have R2 := R1.setJ hj (y ++ [x])
    have hlo : H0.length ≤ j := R.lo j (by simp only [List.mem_cons]; exact .inr (.inr (.inr (.inr (.inr (List.mem_of_getElem? hj))))))
    have g2 := g1.set (x := AO.list ((y ++ [x]).map AV.int)) hlo
    have hyl : y.length ≤ 1000 := hs.r y (List.mem_of_getElem? hy)
    have ap2 : CallT G d (.ext (.builtin "list.append")) [.ref j, .int x] K1 .none (K1.set j (AO.list ((y ++ [x]).map AV.int))) := by
      have := CallT.append (G := G) (d := d) (y := .int x) hjy (by simp; (first | lia | omega))
      simpa using this
    have last : Sub G d (.ref ip) (.int (-1)) K1 (.int x) K1 := by
      refine Sub.listNeg R1.p (by decide) ?_ ?_ (by decide)
      · rw [s2, hp]; simp; (first | lia | omega)
      · have : ((-1 : Int) + (((p ++ [x]).map AV.int).length : Int)).toNat = p.length := by simp; (first | lia | omega)
        rw [s2, hp, this]; simp
    have ht : t < 1000 := by have := (List.getElem?_eq_some_iff.mp hy).1; (first | lia | omega)
    have hne : ((k + 1 - 1) == up) = false := by rw [Int.add_sub_cancel]; simpa using hu
    have hm' : m.closeS up k ws p t y x = { m1 with ends := m1.ends.set t (y ++ [x]) } := by
      simp only [MS.closeS, if_neg hu, hm1, s1]
    have hcnt : (m.closeS up k ws p t y x).cnt = m.cnt := by rw [hm']; exact s3
    rw [hcnt, hm']
    refine ⟨_, fun L hE => ⟨_, _, Asg.name hE pt6, Ex.one (Ex1.ifF (Et.cmp (Ev.bin (Ev.loc hE at6) Ev.cInt (Opr.mod (by decide))) Ev.cInt (hmod ▸ Opr.eq)) (Ex.cons (Ex1.assign hE
      (Ev.meth (Ev.sub (Ev.loc hE at5) (Ev.bin (Ev.loc hE at6) Ev.cInt Opr.sub) (Sub.dict R.d hv')) (IsT.list hw) meth_pop Evs.nil pop1) pt7)
      (Ex.one (Ex1.ifF (Et.cmp (Ev.bin (Ev.loc hE at6) Ev.cInt Opr.sub) (Ev.loc hE at1) (hne ▸ Opr.eq)) (Ex.one (Ex1.expr hE (Ev.meth (Ev.sub (Ev.loc hE at2) (Ev.loc hE at7) (Sub.list R1.e (by (first | lia | omega)) (by simpa using hj) (by (first | lia | omega)))) (IsT.list hjy) meth_append (Evs.cons (Ev.sub (Ev.loc hE at3) (Ev.neg Ev.cInt) last) Evs.nil) ap2))))))), hOk _ g2⟩, R2, g2⟩

inductive MStep (up : Int) : Int → MS → MS → Prop
  | opn {k x : Int} {p : List Int} {m : MS} : (k = 7 ∨ k = 9) → m.pile = p ++ [x] → m.Small → MStep up k m (m.openS up k x)
  | cls {k x : Int} {p ws y : List Int} {t : Nat} {m : MS} : (k = 7 ∨ k = 9) → m.pile = p ++ [x] → m.w k = ws ++ [(t : Int)] → m.ends[t]? = some y → m.Small → MStep up (k + 1) m (m.closeS up k ws p t y x)
inductive MRun (up : Int) : List Int → MS → MS → Prop
  | nil {m : MS} : MRun up [] m m
  | cons {v : Int} {vs : List Int} {m m₁ m₂ : MS} : MStep up v m m₁ → MRun up vs m₁ m₂ → MRun up (v :: vs) m m₂

theorem map_loop (P : Prog G) {pm cd : Value} {up : Int} {H0 : List AO} {kinds : AV} {Ok : List AO → Prop} (hOk : ∀ K, Grow H0 K → Ok K) {vs : List Int} {m m' : MS} (run : MRun up vs m m') :
    ∀ {H : List AO} {js : List Nat} (tie kd : AV), MRel G H0.length H ie ip id i7 i9 js m → Grow H0 H →
    ∃ H' js' kd' tie', (∀ L, EnvOK G (env69 pm cd L) → Loop (Turn G d (env69 pm cd L) (forT for69) (forB for69) Ok) (vs.map .int) (lv69 kinds (.int up) (.ref ie) (.ref ip) (.int m.cnt) (.ref id) kd tie) H .next (lv69 kinds (.int up) (.ref ie) (.ref ip) (.int m'.cnt) (.ref id) kd' tie') H') ∧
      MRel G H0.length H' ie ip id i7 i9 js' m' ∧ Grow H0 H' := by
  induction run with
  | nil => intro H js tie kd R g; exact ⟨H, js, kd, tie, fun _ _ => .nil, R, g⟩
  | cons st run ih =>
    intro H js tie kd R g
    cases st with
    | opn hk hp hs =>
      obtain ⟨H₁, js₁, t, R₁, g₁⟩ := turn_open (d := d) (pm := pm) (cd := cd) (up := up) (kinds := kinds) (tie := tie) (kd := kd) P hOk hk R g hp hs
      obtain ⟨H', js', kd', tie', lp, R', g'⟩ := ih tie _ R₁ g₁
      exact ⟨H', js', kd', tie', fun L hE => .next (t L hE) (lp L hE), R', g'⟩
    | cls hk hp hw hy hs =>
      obtain ⟨H₁, t, R₁, g₁⟩ := turn_close (d := d) (pm := pm) (cd := cd) (up := up) (kinds := kinds) (tie := tie) (kd := kd) P hOk hk R g hp hw hy hs
      obtain ⟨H', js', kd', tie', lp, R', g'⟩ := ih _ _ R₁ g₁
      exact ⟨H', js', kd', tie', fun L hE => .next (t L hE) (lp L hE), R', g'⟩

def ns69 : List Str := ["kinds", "up", "ends", "pile", "count", "waiting", "kind", "tie"]
def ms0 : MS := ⟨[], [0], 1, [], []⟩
theorem map_spec (P : Prog G) {a : AV} {kinds : List Int} {up : Int} {m : MS} (ha : IL H a kinds) (run : MRun up kinds ms0 m) :
    ∃ i H' ae, CallT G (d + 1) (.ext (.ref 175)) [a, .int up] H (.ref i) H' ∧ Grow H H' ∧ H'[i]? = some (.tup [.int m.cnt, ae]) ∧ IL2 H' ae m.ends := by
  obtain ⟨pm, cd, F⟩ := P.fn (ns := ns69) P.f_law_map (by decide) (by decide) (by decide) (by decide) rfl rfl rfl
  obtain ⟨ik, rfl, hk⟩ := ha
  let n := H.length
  have l1 : (H ++ [AO.list []]).length = n + 1 := by simp [n]
  have l2 : (H ++ [AO.list []] ++ [AO.list [.int 0]]).length = n + 2 := by simp [n]
  have l3 : (H ++ [AO.list []] ++ [AO.list [.int 0]] ++ [AO.list []]).length = n + 3 := by simp [n]
  have l4 : (H ++ [AO.list []] ++ [AO.list [.int 0]] ++ [AO.list []] ++ [AO.list []]).length = n + 4 := by simp [n]
  generalize hK : H ++ [AO.list []] ++ [AO.list [AV.int 0]] ++ [AO.list []] ++ [AO.list []] ++ [dictI G [(7, .ref (n + 2)), (9, .ref (n + 3))]] = K
  have R : MRel G H.length K n (n + 1) (n + 4) (n + 2) (n + 3) [] ms0 := by
    subst hK
    refine ⟨Grow.get .push (Grow.get .push (Grow.get .push (Grow.get .push get_last))), ?_, ?_, ?_, ?_, .nil, by simp, fun j hj => ?_⟩
    · rw [← l1]; exact Grow.get .push (Grow.get .push (Grow.get .push get_last))
    · rw [← l4]; exact get_last
    · rw [← l2]; exact Grow.get .push (Grow.get .push get_last)
    · rw [← l3]; exact Grow.get .push get_last
    · simp only [List.mem_cons, List.not_mem_nil, or_false] at hj
      (first | lia | omega)
  have g : Grow H K := by subst hK; exact (((Grow.push.trans .push).trans .push).trans .push).trans .push
  obtain ⟨H', js', kd', tie', lp, R', g'⟩ := map_loop (d := d) P (pm := pm) (cd := cd) (up := up) (kinds := .ref ik) (Ok := fun K => K[ik]? = some (.list (kinds.map .int))) (fun K g => g.get hk) run .unset .unset R g
  refine ⟨H'.length, H' ++ [.tup [.int m.cnt, .ref n]], .ref n, CallT.def (ps := [("kinds", .ref ik), ("up", .int up)]) (ls := [("ends", .unset), ("pile", .unset), ("count", .unset), ("waiting", .unset), ("kind", .unset), ("tie", .unset)])
    (f := .ret (.ref H'.length)) P.ok F (Binds.plain (names := ["kinds", "up"]) rfl ?_) rfl (fun p h => ?_) fun L hE => ?_, g'.trans .push, get_last, ?_⟩
  · exact len2 fun _ _ => rfl
  · simp only [List.mem_cons, List.not_mem_nil, or_false] at h
    rcases h with rfl | rfl | rfl | rfl | rfl | rfl <;> rfl
  · have hdict : dictI G [(7, .ref (n + 2)), (9, .ref (n + 3))] = dictI G (List.foldl (fun acc p => storA acc p.fst p.snd) [] [(7, AV.ref (H ++ [AO.list []] ++ [AO.list [AV.int 0]]).length), (9, AV.ref (H ++ [AO.list []] ++ [AO.list [AV.int 0]] ++ [AO.list []]).length)]) := by
      rw [l2, l3]; rfl
    rw [hdict] at hK
    subst hK
    have g0 := g.get hk
    have lp' := lp L hE
    rw [show AV.ref (n + 1) = AV.ref (H ++ [AO.list []]).length by rw [l1], show AV.ref (n + 4) = AV.ref (H ++ [AO.list []] ++ [AO.list [.int 0]] ++ [AO.list []] ++ [AO.list []]).length by rw [l4]] at lp'
    refine ⟨_, Ex.cons (Ex1.assign hE (Ev.list Evs.nil (by simp)) pt2) (Ex.cons (Ex1.assign hE (Ev.list (Evs.cons Ev.cInt Evs.nil) (by simp)) pt3) (Ex.cons (Ex1.assign hE Ev.cInt pt4)
      (Ex.cons (Ex1.assign hE (Ev.dict (Evp.cons Ev.cInt (Ev.list Evs.nil (by simp)) (Evp.cons Ev.cInt (Ev.list Evs.nil (by simp)) Evp.nil)) rfl rfl (by simp) (by simp)) pt5)
        (Ex.cons (Ex1.forIt (It.list (Ev.loc hE at0) g0) lp') (Ex.one (Ex1.ret (Ev.tup (Evs.cons (Ev.loc hE at4) (Evs.cons (Ev.loc hE at2) Evs.nil)) (by simp))))))))⟩
  · refine ⟨n, _, rfl, Grow.push.get R'.e, ?_⟩
    have : ∀ {l : List Nat} {k : List (List Int)}, Paired (fun j e => H'[j]? = some (AO.list (e.map AV.int))) l k → Paired (IL (H' ++ [AO.tup [.int m.cnt, .ref n]])) (l.map .ref) k := by
      intro l k h
      induction h with
      | nil => exact .nil
      | cons h _ ih => exact .cons ⟨_, rfl, Grow.push.get h⟩ ih
    exact this R'.q
end
end Mine

namespace Mine
open PySem PySem.W

def runsOf (b o t : Nat) : List Str := List.replicate b (Str.ofString "\t") ++ List.replicate o (Str.ofString " \t") ++ List.replicate t (Str.ofString "  \t")
def leadOf (b o t turned : Nat) : Str := Txt.join (Str.ofString "") (picks (some (turned : Int)) none (runsOf b o t) ++ picks none (some (turned : Int)) (runsOf b o t)) ++ Str.ofString "x"

theorem rep_flat {α β : Type} (f : α → β) (n : Nat) (x : α) : (List.replicate n [f x]).flatten = (List.replicate n x).map f := by
  induction n with
  | zero => rfl
  | succ n ih => simp [List.replicate_succ, ih]
theorem picks_map {α β : Type} (f : α → β) (lo hi : Option Int) (xs : List α) : picks lo hi (xs.map f) = (picks lo hi xs).map f := by
  simp [picks, List.map_drop, List.map_take]
theorem picks_len {α : Type} (lo hi : Option Int) (xs : List α) : (picks lo hi xs).length ≤ xs.length := by
  simp [picks]; (first | lia | omega)
theorem picks_mem {α : Type} {lo hi : Option Int} {xs : List α} {x : α} (h : x ∈ picks lo hi xs) : x ∈ xs := List.mem_of_mem_drop (List.mem_of_mem_take h)

section
variable {G : Gd} {d : Nat} {H : List AO}
abbrev env71 (pm cd : Value) (L : Addr) : Env := callEnv (mkFd 71 "_law_lead" "_law_lead" .none pm cd) L 189
def ns71 : List Str := ["cell", "bare", "one", "two", "runs", "turned"]

theorem fmod_nat (c m : Int) (hm : 0 < m) : ((c.fmod m).toNat : Int) = c.fmod m ∧ 0 ≤ c.fmod m ∧ c.fmod m < m := by
  have h : c.fmod m = c % m := Int.fmod_eq_emod_of_nonneg c (by (first | lia | omega))
  have h1 := Int.emod_nonneg c (show m ≠ 0 by (first | lia | omega))
  have h2 := Int.emod_lt_of_pos c hm
  rw [h]; (first | lia | omega)

theorem runs_mem {b o t : Nat} {x : Str} (h : x ∈ runsOf b o t) : x.length ≤ 3 := by
  simp only [runsOf, List.mem_append, List.mem_replicate] at h
  rcases h with (⟨_, rfl⟩ | ⟨_, rfl⟩) | ⟨_, rfl⟩ <;> decide
theorem sum_le {l : List Str} {k : Nat} (h : ∀ x ∈ l, x.length ≤ k) : (l.map (·.length)).sum ≤ l.length * k := by
  induction l with
  | nil => simp
  | cons x l ih =>
    have h1 := h x (by simp)
    have h2 := ih fun y hy => h y (List.mem_cons_of_mem _ hy)
    simp [Nat.succ_mul]; (first | lia | omega)

theorem mulS {K : List AO} {i n : Nat} {x : Str} (h : K[i]? = some (AO.list [AV.str x])) (hn : n ≤ 3) : Opr G d (binaryOp .Mult) (.ref i) (.int n) K (.ref K.length) (K ++ [AO.list ((List.replicate n x).map AV.str)]) := by
  have := Opr.mulL (G := G) (d := d) (x := (n : Int)) h (by (first | lia | omega)) (by (first | lia | omega)) (by simp; (first | lia | omega))
  simpa [rep_flat] using this
theorem addSL {K : List AO} {i j : Nat} {x y : List Str} (hi : K[i]? = some (AO.list (x.map AV.str))) (hj : K[j]? = some (AO.list (y.map AV.str))) (hn : x.length + y.length ≤ 1000) : Opr G d (binaryOp .Add) (.ref i) (.ref j) K (.ref K.length) (K ++ [AO.list ((x ++ y).map AV.str)]) := by
  have := Opr.addL (G := G) (d := d) hi hj (by simp; (first | lia | omega))
  simpa using this

abbrev lv71 (cell bare one two runs turned : AV) : LV := [("cell", cell), ("bare", bare), ("one", one), ("two", two), ("runs", runs), ("turned", turned)]
theorem runs_ev (P : Prog G) {pm cd : Value} {b o t : Nat} (hb : b ≤ 3) (ho : o ≤ 3) (ht : t ≤ 3) {c x y : AV} : ∃ i K', (∀ L, EnvOK G (env71 pm cd L) → Ev G d (env71 pm cd L) (compE (sN 71 1)) (lv71 c (.int b) (.int o) (.int t) x y) H (.ref i) K') ∧ Grow H K' ∧ K'[i]? = some (.list ((runsOf b o t).map .str)) := by
  have l1 : ∀ {n : Nat} {x : Str}, (List.replicate n x).length = n := List.length_replicate
  generalize h1 : H ++ [AO.list [AV.str (Str.ofString "\t")]] = H1
  generalize h2 : H1 ++ [AO.list ((List.replicate b (Str.ofString "\t")).map AV.str)] = H2
  generalize h3 : H2 ++ [AO.list [AV.str (Str.ofString " \t")]] = H3
  generalize h4 : H3 ++ [AO.list ((List.replicate o (Str.ofString " \t")).map AV.str)] = H4
  generalize h5 : H4 ++ [AO.list ((List.replicate b (Str.ofString "\t") ++ List.replicate o (Str.ofString " \t")).map AV.str)] = H5
  generalize h6 : H5 ++ [AO.list [AV.str (Str.ofString "  \t")]] = H6
  generalize h7 : H6 ++ [AO.list ((List.replicate t (Str.ofString "  \t")).map AV.str)] = H7
  have g1 : Grow H H1 := h1 ▸ Grow.push
  have g2 : Grow H1 H2 := h2 ▸ Grow.push
  have g3 : Grow H2 H3 := h3 ▸ Grow.push
  have g4 : Grow H3 H4 := h4 ▸ Grow.push
  have g5 : Grow H4 H5 := h5 ▸ Grow.push
  have g6 : Grow H5 H6 := h6 ▸ Grow.push
  have g7 : Grow H6 H7 := h7 ▸ Grow.push
  have q1 : H1[H.length]? = some (AO.list [AV.str (Str.ofString "\t")]) := h1 ▸ get_last
  have q2 : H2[H1.length]? = some (AO.list ((List.replicate b (Str.ofString "\t")).map AV.str)) := h2 ▸ get_last
  have q3 : H3[H2.length]? = some (AO.list [AV.str (Str.ofString " \t")]) := h3 ▸ get_last
  have q4 : H4[H3.length]? = some (AO.list ((List.replicate o (Str.ofString " \t")).map AV.str)) := h4 ▸ get_last
  have q5 : H5[H4.length]? = some (AO.list ((List.replicate b (Str.ofString "\t") ++ List.replicate o (Str.ofString " \t")).map AV.str)) := h5 ▸ get_last
  have q6 : H6[H5.length]? = some (AO.list [AV.str (Str.ofString "  \t")]) := h6 ▸ get_last
  have q7 : H7[H6.length]? = some (AO.list ((List.replicate t (Str.ofString "  \t")).map AV.str)) := h7 ▸ get_last
  refine ⟨H7.length, H7 ++ [AO.list ((runsOf b o t).map AV.str)], fun L hE => ?_, ((((((g1.trans g2).trans g3).trans g4).trans g5).trans g6).trans g7).trans .push, get_last⟩
  refine Ev.bin (H₁ := H5) (H₂ := H7) (Ev.bin (H₁ := H2) (H₂ := H4) (Ev.bin (H₁ := H1) (H₂ := H1) (h1 ▸ Ev.list (Evs.cons Ev.cStr Evs.nil) (by simp)) (Ev.loc hE at1) (h2 ▸ mulS q1 hb)) (Ev.bin (H₁ := H3) (H₂ := H3) (h3 ▸ Ev.list (Evs.cons Ev.cStr Evs.nil) (by simp)) (Ev.loc hE at2) (h4 ▸ mulS q3 ho))
    (h5 ▸ addSL (g4.get (g3.get q2)) q4 (by simp; (first | lia | omega)))) (Ev.bin (H₁ := H6) (H₂ := H6) (h6 ▸ Ev.list (Evs.cons Ev.cStr Evs.nil) (by simp)) (Ev.loc hE at3) (h7 ▸ mulS q6 ht)) (addSL (g7.get (g6.get q5)) q7 (by simp; (first | lia | omega)))

theorem joined_ev (P : Prog G) {pm cd : Value} {i u : Nat} {l : List Str} (hi : H[i]? = some (.list (l.map .str))) (hl : l.length ≤ 100) (hx : ∀ x ∈ l, x.length ≤ 3) {c b o t : AV} : ∃ K', (∀ L, EnvOK G (env71 pm cd L) → Ev G d (env71 pm cd L) (compE (sN 71 3)) (lv71 c b o t (.ref i) (.int u)) H
    (.str (Txt.join (Str.ofString "") (picks (some (u : Int)) none l ++ picks none (some (u : Int)) l) ++ Str.ofString "x")) K') ∧ Grow H K' := by
  generalize h1 : H ++ [AO.list (picks (some (u : Int)) none (l.map AV.str))] = H1
  generalize h2 : H1 ++ [AO.list (picks none (some (u : Int)) (l.map AV.str))] = H2
  have g1 : Grow H H1 := h1 ▸ Grow.push
  have g2 : Grow H1 H2 := h2 ▸ Grow.push
  have q1 : H1[H.length]? = some (AO.list ((picks (some (u : Int)) none l).map AV.str)) := by rw [← h1, picks_map]; exact get_last
  have q2 : H2[H1.length]? = some (AO.list ((picks none (some (u : Int)) l).map AV.str)) := by rw [← h2, picks_map]; exact get_last
  have p1 := picks_len (some (u : Int)) none l
  have p2 := picks_len none (some (u : Int)) l
  have hm : ∀ x ∈ picks (some (u : Int)) none l ++ picks none (some (u : Int)) l, x.length ≤ 3 := fun x hx' => by
    rcases List.mem_append.mp hx' with h | h
    · exact hx x (picks_mem h)
    · exact hx x (picks_mem h)
  generalize picks (some (u : Int)) none l = x1 at *
  generalize picks none (some (u : Int)) l = x2 at *
  have hsum := sum_le hm
  have hlen : (x1 ++ x2).length ≤ 200 := by simp; (first | lia | omega)
  have e0 : (Str.ofString "").length = 0 := rfl
  have hj : (Txt.join (Str.ofString "") (x1 ++ x2)).length ≤ 1000 := by
    show (PySem.Builtin.Str.glued _ _).length ≤ _
    rw [PySem.StrLaws.glued_eq_join]
    cases hc : x1 ++ x2 with
    | nil => exact Nat.zero_le _
    | cons y l =>
      rw [PyProof.Rows.len_join_cons, e0, ← hc]; (first | lia | omega)
  refine ⟨H2 ++ [AO.list ((x1 ++ x2).map AV.str)], fun L hE => ?_, (g1.trans g2).trans .push⟩
  exact Ev.bin (Ev.meth Ev.cStr IsT.str meth_join (Evs.cons (Ev.bin (H₁ := H1) (H₂ := H2) (h1 ▸ Ev.sliceG (a := some (u : Int)) (b := none) (Ev.loc hE at4) (Ev.loc hE at5) trivial (Lst.at hi) (by simp; (first | lia | omega))) (h2 ▸ Ev.sliceG (a := none) (b := some (u : Int)) (Ev.loc hE at4) trivial (Ev.loc hE at5) (Lst.at (g1.get hi)) (by simp; (first | lia | omega)))
    (addSL (g2.get q1) q2 (by simp at hlen; (first | lia | omega)))) Evs.nil) (CallT.join get_last (by rw [e0]; (first | lia | omega)))) Ev.cStr (Opr.addS (by rw [show (Str.ofString "x").length = 1 from rfl]; (first | lia | omega)))

theorem lead_spec (P : Prog G) (c : Int) : ∃ H', CallT G (d + 2) (.ext (.ref 189)) [.int c] H (.str (leadOf (c.fmod 3).toNat ((c.fdiv 3).fmod 3).toNat ((c.fdiv 9).fmod 3).toNat ((c.fdiv 27).fmod 7).toNat)) H' ∧ Grow H H' := by
  obtain ⟨pm, cd, F⟩ := P.fn (ns := ns71) P.f_law_lead (by decide) (by decide) (by decide) (by decide) rfl rfl rfl
  obtain ⟨b0, b1, b2⟩ := fmod_nat c 3 (by decide)
  obtain ⟨o0, o1, o2⟩ := fmod_nat (c.fdiv 3) 3 (by decide)
  obtain ⟨t0, t1, t2⟩ := fmod_nat (c.fdiv 9) 3 (by decide)
  obtain ⟨u0, u1, u2⟩ := fmod_nat (c.fdiv 27) 7 (by decide)
  have cs := counts_spec (d := d) (H := H) P c
  rw [← b0, ← o0, ← t0] at cs
  have hu : (c.fdiv 27).fmod 7 = (((c.fdiv 27).fmod 7).toNat : Int) := u0.symm
  generalize (c.fmod 3).toNat = b at *
  generalize ((c.fdiv 3).fmod 3).toNat = o at *
  generalize ((c.fdiv 9).fmod 3).toNat = t at *
  generalize ((c.fdiv 27).fmod 7).toNat = u at *
  have hl : (runsOf b o t).length ≤ 6 := by simp [runsOf]; (first | lia | omega)
  obtain ⟨i, K1, ev1, g1, q1⟩ := runs_ev (d := d + 1) (H := H ++ [AO.list [AV.int b, AV.int o, AV.int t]]) P (pm := pm) (cd := cd) (b := b) (o := o) (t := t) (by (first | lia | omega)) (by (first | lia | omega)) (by (first | lia | omega)) (c := .int c) (x := .unset) (y := .unset)
  obtain ⟨K2, ev2, g2⟩ := joined_ev (d := d + 1) (H := K1) P (pm := pm) (cd := cd) (u := u) q1 (by (first | lia | omega)) (fun x h => runs_mem h) (c := .int c) (b := .int b) (o := .int o) (t := .int t)
  refine ⟨K2, CallT.def (ps := [("cell", .int c)]) (ls := [("bare", .unset), ("one", .unset), ("two", .unset), ("runs", .unset), ("turned", .unset)]) (f := .ret (.str (leadOf b o t u))) P.ok F (Binds.plain (names := ["cell"]) rfl ?_) rfl (fun p h => ?_) fun L hE => ?_, (Grow.push.trans g1).trans g2⟩
  · exact len1 fun _ => rfl
  · simp only [List.mem_cons, List.not_mem_nil, or_false] at h
    rcases h with rfl | rfl | rfl | rfl | rfl <;> rfl
  · refine ⟨_, Ex.cons (Ex1.assignTup (xs := ["bare", "one", "two"]) hE (Ev.call (Ev.fn P hE P.g_law_counts) (Evs.cons (Ev.loc hE at0) Evs.nil) P.f_law_counts.cal cs) (Unp.list get_last) (.cons (.cons (.cons .nil))) (.cons pt1 (.cons pt2 (.cons pt3 .nil))))
      (Ex.cons (Ex1.assign hE (ev1 L hE) pt4) (Ex.cons (Ex1.assign hE (Ev.bin (Ev.bin (Ev.loc hE at0) Ev.cInt (Opr.div (by decide) (by decide))) Ev.cInt (hu ▸ Opr.mod (by decide))) pt5) (Ex.one (Ex1.ret (ev2 L hE)))))⟩
end
end Mine

namespace Mine
open PySem PySem.W

section
variable {G : Gd} {d : Nat} {H : List AO}
abbrev env67 (pm cd : Value) (L : Addr) : Env := callEnv (mkFd 67 "_law_cells" "_law_cells" .none pm cd) L 161
abbrev lv67 (script cells place drawn : AV) : LV := [("script", script), ("cells", cells), ("place", place), ("drawn", drawn)]
def ns67 : List Str := ["script", "cells", "place", "drawn"]

theorem cells_loop (P : Prog G) {pm cd : Value} {ic i : Nat} (hne : ic ≠ i) {s : AV} {H0 : List AO} (hlo : H0.length ≤ ic) {ys : List AV} : ∀ (ns : List Int) {k : Nat} {K : List AO} {cs : List Int} (p v : AV), K[ic]? = some (.list (cs.map .int)) → cs.length = 6 → K[i]? = some (.list ys) → Grow H0 K →
    ∃ (K' : List AO) (cs' : List Int) (p' v' : AV), (∀ L, EnvOK G (env67 pm cd L) → LoopE (TurnE G d (env67 pm cd L) "place" "drawn" (forB (sN 67 1)) fun K => K[i]? = some (.list ys)) k (ns.map .int) (lv67 s (.ref ic) p v) K (lv67 s (.ref ic) p' v') K') ∧
      K'[ic]? = some (.list (cs'.map .int)) ∧ cs'.length = 6 ∧ Grow H0 K'
  | [], k, K, cs, p, v, hc, h6, hi, g => ⟨K, cs, p, v, fun _ _ => .nil, hc, h6, g⟩
  | n :: ns, k, K, cs, p, v, hc, h6, hi, g => by
    obtain ⟨j0, j1, j2⟩ := fmod_nat (k : Int) 6 (by decide)
    have hj : ((k : Int).fmod 6).toNat < cs.length := by (first | lia | omega)
    have hcj : cs[((k : Int).fmod 6).toNat]? = some cs[((k : Int).fmod 6).toNat] := List.getElem?_eq_getElem hj
    generalize cs[((k : Int).fmod 6).toNat] = old at hcj
    generalize hv : old + n.fmod ((10 : Int) ^ (6 : Int).toNat) = new
    have e : (cs.map AV.int).set ((k : Int).fmod 6).toNat (.int new) = (cs.set ((k : Int).fmod 6).toNat new).map AV.int := by rw [List.map_set]
    generalize hK : K.set ic (.list ((cs.map AV.int).set ((k : Int).fmod 6).toNat (.int new))) = K1
    have q1 : K1[ic]? = some (.list ((cs.set ((k : Int).fmod 6).toNat new).map AV.int)) := by rw [← hK, get_set hc, e]
    have q2 : K1[i]? = some (.list ys) := by rw [← hK, set_ne hne]; exact hi
    obtain ⟨K', cs', p', v', lp, r1, r2, r3⟩ := cells_loop P (pm := pm) (cd := cd) hne (s := s) hlo (ys := ys) ns (k := k + 1) (.int k) (.int n) q1 (by simp [h6]) q2 (hK ▸ g.set hlo)
    refine ⟨K', cs', p', v', fun L hE => .next ⟨_, .cons pt2 (.cons pt3 .nil), Ex.one (Ex1.augSub (Ev.loc hE at1) (Ev.bin (Ev.loc hE at2) Ev.cInt (Opr.mod (by decide))) (Gets.list hc j1 (by simp [hcj]) (by (first | lia | omega)))
      (Ev.bin (Ev.loc hE at3) (Ev.bin Ev.cInt Ev.cInt (Opr.pow (by decide) (by decide))) (Opr.mod (by decide))) (hv ▸ Opr.iadd) (hK ▸ Stores.list hc j1 (by simp; (first | lia | omega)) (by (first | lia | omega)))), q2⟩ (lp L hE), r1, r2, r3⟩

theorem cells_spec (P : Prog G) {l : Addr} {vs : Array Value} {ns : List Int} (hl : G.h₀.IsList l vs) (hv : ∀ al, VRs al (ns.map .int) vs.toList) (hz : ns.length ≤ 1000) :
    ∃ (a : AV) (H' : List AO) (cs : List Int), CallT G (d + 1) (.ext (.ref 161)) [.ext (.ref l)] H a H' ∧ Grow H H' ∧ IL H' a cs ∧ cs.length = 6 := by
  obtain ⟨pm, cd, F⟩ := P.fn (ns := ns67) P.f_law_cells (by decide) (by decide) (by decide) (by decide) rfl rfl rfl
  generalize h1 : H ++ [AO.list [AV.int 59692, AV.int 34, AV.int 5, AV.int 76, AV.int 38, AV.int 10]] = H1
  generalize h2 : H1 ++ [AO.list (picks none (some 18) (ns.map AV.int))] = H2
  have g1 : Grow H H1 := h1 ▸ Grow.push
  have g2 : Grow H1 H2 := h2 ▸ Grow.push
  have q1 : H1[H.length]? = some (AO.list (([59692, 34, 5, 76, 38, 10] : List Int).map AV.int)) := h1 ▸ get_last
  have q2 : H2[H1.length]? = some (AO.list ((picks none (some 18) ns).map AV.int)) := by rw [← h2, picks_map]; exact get_last
  have hne : H.length ≠ H1.length := by rw [← h1]; simp
  obtain ⟨K', cs', p', v', lp, r1, r2, r3⟩ := cells_loop (d := d) P (pm := pm) (cd := cd) hne (s := .ext (.ref l)) (H0 := H) (Nat.le_refl _) (picks none (some 18) ns) (k := 0) .unset .unset (g2.get q1) rfl q2 (g1.trans g2)
  refine ⟨.ref H.length, K', cs', CallT.def (ps := [("script", .ext (.ref l))]) (ls := [("cells", .unset), ("place", .unset), ("drawn", .unset)]) (f := .ret (.ref H.length)) P.ok F (Binds.plain (names := ["script"]) rfl ?_) rfl (fun p h => ?_) fun L hE => ?_, r3, ⟨_, rfl, r1⟩, r2⟩
  · exact len1 fun _ => rfl
  · simp only [List.mem_cons, List.not_mem_nil, or_false] at h
    rcases h with rfl | rfl | rfl <;> rfl
  · exact ⟨_, Ex.cons (Ex1.assign hE (h1 ▸ Ev.list (Evs.cons Ev.cInt (Evs.cons Ev.cInt (Evs.cons Ev.cInt (Evs.cons Ev.cInt (Evs.cons Ev.cInt (Evs.cons Ev.cInt Evs.nil)))))) (by simp)) pt1)
      (Ex.cons (Ex1.forEnum hE (Ev.bltin P.ok hE P.n_enumerate P.b_enumerate) (h2 ▸ Ev.sliceG (a := none) (b := some 18) (Ev.loc hE at0) trivial Ev.cInt (Lst.base hl hv) (by simp; (first | lia | omega))) q2 rfl (lp L hE)) (Ex.one (Ex1.ret (Ev.loc hE at1))))⟩
end
end Mine

namespace Mine
open PySem PySem.W

def inBody : Stmt → List Stmt
  | .FunctionDef _ _ b _ _ _ _ _ _ _ => b
  | _ => []
def inArgs : Stmt → Arguments
  | .FunctionDef _ a _ _ _ _ _ _ _ _ => a
  | _ => { posonlyargs := [], args := [], vararg := none, kwonlyargs := [], kw_defaults := [], kwarg := none, defaults := [] }
def inScope : Stmt → Scope
  | .FunctionDef _ _ _ _ _ _ sc _ _ _ => sc
  | _ => { kind := .function, names := [], isGenerator := false, isCoroutine := false }
def inPos : Stmt → Pos
  | .FunctionDef _ _ _ _ _ _ _ _ _ p => p
  | _ => default

/-- the bits that stay low -/
theorem high_and (x s : Nat) : x &&& (x / 2 ^ s * 2 ^ s) = x / 2 ^ s * 2 ^ s := by
  rw [← Nat.shiftRight_eq_div_pow, ← Nat.shiftLeft_eq]
  apply Nat.eq_of_testBit_eq
  intro i
  simp only [Nat.testBit_and, Nat.testBit_shiftLeft, Nat.testBit_shiftRight]
  by_cases h : s ≤ i
  · rw [show s + (i - s) = i by (first | lia | omega)]; simp [h]
  · simp [h]
theorem high_or (x s : Nat) : x ||| (x / 2 ^ s * 2 ^ s) = x := by
  rw [← Nat.shiftRight_eq_div_pow, ← Nat.shiftLeft_eq]
  apply Nat.eq_of_testBit_eq
  intro i
  simp only [Nat.testBit_or, Nat.testBit_shiftLeft, Nat.testBit_shiftRight]
  by_cases h : s ≤ i
  · rw [show s + (i - s) = i by (first | lia | omega)]; simp [h]
  · simp [h]
theorem low_bits (x s : Nat) : Builtin.bitXor (x : Int) ((x / 2 ^ s * 2 ^ s : Nat) : Int) = ((x % 2 ^ s : Nat) : Int) := by
  have hor : ∀ a b : Nat, Builtin.bitOr (a : Int) (b : Int) = ((a ||| b : Nat) : Int) := fun a b => by
    unfold Builtin.bitOr Builtin.bitAnd Builtin.bitNot
    have h1 : decide (0 ≤ -(a : Int) - 1) = false := decide_eq_false (by (first | lia | omega))
    have h2 : decide (0 ≤ -(b : Int) - 1) = false := decide_eq_false (by (first | lia | omega))
    simp only [h1, h2]
    have e1 : (-(-(a : Int) - 1) - 1).toNat = a := by (first | lia | omega)
    have e2 : (-(-(b : Int) - 1) - 1).toNat = b := by (first | lia | omega)
    rw [e1, e2]; (first | lia | omega)
  have hand : ∀ a b : Nat, Builtin.bitAnd (a : Int) (b : Int) = ((a &&& b : Nat) : Int) := fun a b => by
    unfold Builtin.bitAnd
    have h1 : decide (0 ≤ (a : Int)) = true := decide_eq_true (by (first | lia | omega))
    have h2 : decide (0 ≤ (b : Int)) = true := decide_eq_true (by (first | lia | omega))
    simp only [h1, h2, Int.toNat_natCast]
  unfold Builtin.bitXor
  rw [hor, hand, high_or, high_and]
  have := Nat.div_add_mod x (2 ^ s)
  rw [Nat.mul_comm] at this
  (first | lia | omega)

def put (n : Nat) : Nat → Nat → Nat → Nat → List Int → List Int
  | 0, x, L, R, ds => ds
  | fuel + 1, x, L, R, ds => if L + 1 = R then ds.set L x else
    put n fuel (x / 2 ^ (((L + R) / 2 - L) * n)) ((L + R) / 2) R (put n fuel (x % 2 ^ (((L + R) / 2 - L) * n)) L ((L + R) / 2) ds)
theorem put_len (n : Nat) : ∀ (fuel x L R : Nat) (ds : List Int), (put n fuel x L R ds).length = ds.length
  | 0, _, _, _, _ => rfl
  | fuel + 1, x, L, R, ds => by
    unfold put
    split
    · simp
    · rw [put_len n fuel, put_len n fuel]

section
variable {G : Gd} {d : Nat} {env : Env} {r r' : LV} {H : List AO}
theorem Ex1.retNone {pos : Pos} : Ex1 G d env (.Return none pos) r H (.ret .none) r H := .mk fun A s al Q hA R L k =>
  wpAny_Return_none (k _ _ [] (by rw [List.append_nil]; exact R) (by rw [List.append_nil]; exact L) ⟨.none, rfl, rfl⟩ StepL.refl)

abbrev fdIn (st : Stmt) (qn : Str) (clos : List (Str × Addr)) (doc pm cv ctv : Value) : FuncData := fnX "inner" qn (inArgs st) (inBody st) (inScope st) clos .none .none doc pm none cv ctv
/-- what is known of the cells' values within the frame's ground -/
structure Inn (G : Gd) (st : Stmt) (qn : Str) (f : Addr) (clos : List (Str × Addr)) (doc pm cv ctv : Value) (j : Nat) : Prop where
  obj : ∃ o, G.h₀.get? f = some o ∧ o.data = .func (fdIn st qn clos doc pm cv ctv)
  code : ∃ c', cv = .ref c' ∧ G.pre[j]? = some c'
  self : ∃ c, clos.lookup (Str.ofString "inner") = some c ∧ G.h₀.IsCell c (some (.ref f))
theorem Inn.codeRec {st : Stmt} {qn : Str} {f : Addr} {clos : List (Str × Addr)} {doc pm cv ctv : Value} {j : Nat} (I : Inn G st qn f clos doc pm cv ctv j) (hj : H[j]? = some (codA qn)) : ∀ al h, Rel G.bs al H h → h.CodeRec (fdIn st qn clos doc pm cv ctv).code (fdIn st qn clos doc pm cv ctv).qualname := fun al h R => by
  obtain ⟨c', rfl, hp⟩ := I.code
  obtain ⟨o, ho, q⟩ := R.obj j c' _ (pre_get R.pre hp) hj
  obtain ⟨vs, t, h1, h2⟩ := q []
  exact ⟨c', o, vs, t, rfl, ho, h1, h2⟩

def nsIn8 : List Str := ["x", "L", "R", "mid", "shift", "upper", "lower"]
theorem inner8 (hG : G.Ok) {qn : Str} {f : Addr} {clos : List (Str × Addr)} {doc pm cv ctv : Value} {j id : Nat} (I : Inn G (sN 8 1) qn f clos doc pm cv ctv j) {n : Nat} (hn : n ≤ 64)
    (hcn : ∃ c t, clos.lookup (Str.ofString "n") = some c ∧ G.h₀.IsCell c (some (.int (n : Int) t))) (hca : ∃ c a, clos.lookup (Str.ofString "a_digits") = some c ∧ G.h₀.IsCell c (some (.ref a)) ∧ G.pre[id]? = some a) (hid : id ≠ j) :
    ∀ (fuel x L R : Nat) (ds : List Int) (H : List AO), R ≤ L + fuel → L < R → R ≤ ds.length → ds.length ≤ 1000 → x < 2 ^ 60 → H[j]? = some (codA qn) → H[id]? = some (.list (ds.map .int)) →
      CallT G (d + fuel) (.ext (.ref f)) [.int (x : Int), .int (L : Int), .int (R : Int)] H .none (H.set id (.list ((put n fuel x L R ds).map .int)))
  | 0, x, L, R, ds, H, h1, h2, _, _, _, _, _ => by (first | lia | omega)
  | fuel + 1, x, L, R, ds, H, h1, h2, h3, h4, h5, hj, hi => by
    obtain ⟨cn, tn, kn, vn⟩ := hcn
    obtain ⟨ca, a, ka, va, pa⟩ := hca
    obtain ⟨ci, ki, vi⟩ := I.self
    have FI : FnI G f (fdIn (sN 8 1) qn clos doc pm cv ctv) (inBody (sN 8 1)) nsIn8 := ⟨I.obj, rfl, by decide, (by show ∀ x ∈ nsIn8, (inScope (sN 8 1)).names.lookup x = some .local; decide), by decide, (by show ∀ x ∈ (inScope (sN 8 1)).names, x.2 ≠ .cell; decide), rfl, rfl, rfl, rfl, rfl⟩
    obtain ⟨fo, hfo, hfd⟩ := I.obj
    have bnd : Binds G (fdIn (sN 8 1) qn clos doc pm cv ctv) [.int (x : Int), .int (L : Int), .int (R : Int)] [("x", .int (x : Int)), ("L", .int (L : Int)), ("R", .int (R : Int))] := Binds.plain (names := ["x", "L", "R"]) rfl (by
      exact len3 fun _ _ _ => rfl)
    have ls : ∀ p ∈ ([("mid", .unset), ("shift", .unset), ("upper", .unset), ("lower", .unset)] : LV), p.2 = .unset := fun p h => by
      simp only [List.mem_cons, List.not_mem_nil, or_false] at h
      rcases h with rfl | rfl | rfl | rfl <;> rfl
    by_cases hw : L + 1 = R
    · have hput : put n (fuel + 1) x L R ds = ds.set L x := by unfold put; rw [if_pos hw]
      have hcmp : (((L : Int) + 1) == (R : Int)) = true := by simpa using (by (first | lia | omega) : (L : Int) + 1 = R)
      rw [hput, List.map_set]
      refine CallT.defX (ps := [("x", .int (x : Int)), ("L", .int (L : Int)), ("R", .int (R : Int))]) (ls := [("mid", .unset), ("shift", .unset), ("upper", .unset), ("lower", .unset)]) (f := .ret .none) hG FI (I.codeRec hj) bnd rfl ls fun Lc hE => ?_
      exact ⟨_, Ex.stop (Ex1.ifT (Et.cmp (Ev.bin (Ev.loc hE at1) Ev.cInt Opr.add) (Ev.loc hE at2) (hcmp ▸ Opr.eq)) (Ex.cons (Ex1.assignSub (Ev.loc hE at0) (Ev.cellv (a := .ref id) hE (.inr rfl) ka va fun al h => ⟨a, pre_get h pa, rfl⟩) (Ev.loc hE at1) (Stores.list hi (by (first | lia | omega)) (by simp; (first | lia | omega)) (by (first | lia | omega)))) (Ex.one Ex1.retNone))) (by intro e; cases e)⟩
    · have hcmp : (((L : Int) + 1) == (R : Int)) = false := by simpa using (by (first | lia | omega) : ¬ (L : Int) + 1 = R)
      generalize hm : (L + R) / 2 = mid
      have hm1 : L < mid ∧ mid < R := by (first | lia | omega)
      have hput : put n (fuel + 1) x L R ds = put n fuel (x / 2 ^ ((mid - L) * n)) mid R (put n fuel (x % 2 ^ ((mid - L) * n)) L mid ds) := by rw [put, if_neg hw, hm]
      generalize hsh : (mid - L) * n = sh at hput
      have hshb : sh ≤ 64000 := by rw [← hsh]; exact Nat.le_trans (Nat.mul_le_mul (show mid - L ≤ 1000 by (first | lia | omega)) hn) (by decide)
      have e1 : (((L : Int) + R)).fdiv (2 ^ (1 : Int).toNat) = (mid : Int) := by
        rw [Int.fdiv_eq_ediv_of_nonneg _ (by decide)]
        show ((L : Int) + R) / 2 = _
        (first | lia | omega)
      have e2 : ((mid : Int) - L) * n = (sh : Int) := by rw [← hsh]; push_cast; rw [Int.natCast_sub (by (first | lia | omega))]
      have e3 : (x : Int).fdiv (2 ^ (sh : Int).toNat) = ((x / 2 ^ sh : Nat) : Int) := by
        rw [Int.fdiv_eq_ediv_of_nonneg _ (by exact_mod_cast Nat.zero_le _), Int.toNat_natCast]; norm_cast
      have e4 : ((x / 2 ^ sh : Nat) : Int) * 2 ^ (sh : Int).toNat = ((x / 2 ^ sh * 2 ^ sh : Nat) : Int) := by rw [Int.toNat_natCast]; push_cast; rfl
      have hxu : x / 2 ^ sh < 2 ^ 60 := Nat.lt_of_le_of_lt (Nat.div_le_self _ _) h5
      have hxl : x % 2 ^ sh < 2 ^ 60 := Nat.lt_of_le_of_lt (Nat.mod_le _ _) h5
      have c1 := inner8 hG I hn ⟨cn, tn, kn, vn⟩ ⟨ca, a, ka, va, pa⟩ hid fuel (x % 2 ^ sh) L mid ds H (by (first | lia | omega)) hm1.1 (by (first | lia | omega)) h4 hxl hj hi
      have hi1 : (H.set id (.list ((put n fuel (x % 2 ^ sh) L mid ds).map .int)))[id]? = some (.list ((put n fuel (x % 2 ^ sh) L mid ds).map .int)) := get_set hi
      have hj1 : (H.set id (.list ((put n fuel (x % 2 ^ sh) L mid ds).map .int)))[j]? = some (codA qn) := by rw [List.getElem?_set_ne hid]; exact hj
      have c2 := inner8 hG I hn ⟨cn, tn, kn, vn⟩ ⟨ca, a, ka, va, pa⟩ hid fuel (x / 2 ^ sh) mid R (put n fuel (x % 2 ^ sh) L mid ds) _ (by (first | lia | omega)) hm1.2 (by rw [put_len]; exact h3) (by rw [put_len]; exact h4) hxu hj1 hi1
      rw [List.set_set] at c2
      rw [hput]
      refine CallT.defX (ps := [("x", .int (x : Int)), ("L", .int (L : Int)), ("R", .int (R : Int))]) (ls := [("mid", .unset), ("shift", .unset), ("upper", .unset), ("lower", .unset)]) (f := .next) hG FI (I.codeRec hj) bnd rfl ls fun Lc hE => ?_
      refine ⟨_, Ex.cons (Ex1.ifF (Et.cmp (Ev.bin (Ev.loc hE at1) Ev.cInt Opr.add) (Ev.loc hE at2) (hcmp ▸ Opr.eq)) Ex.nil) (Ex.cons (Ex1.assign hE (Ev.bin (Ev.bin (Ev.loc hE at1) (Ev.loc hE at2) Opr.add) Ev.cInt (e1 ▸ Opr.shr (by decide))) pt3)
        (Ex.cons (Ex1.assign hE (Ev.bin (Ev.bin (Ev.loc hE at3) (Ev.loc hE at1) Opr.sub) (Ev.cellv hE (.inr rfl) kn vn (a := .int n) fun al h => ⟨tn, rfl⟩) (e2 ▸ Opr.mul (mulR (by (first | lia | omega))))) pt4)
        (Ex.cons (Ex1.assign hE (Ev.bin (Ev.loc hE at0) (Ev.loc hE at4) (e3 ▸ Opr.shr (by (first | lia | omega)))) pt5)
        (Ex.cons (Ex1.assign hE (Ev.bin (Ev.loc hE at0) (Ev.bin (Ev.loc hE at5) (Ev.loc hE at4) (e4 ▸ Opr.shl (by (first | lia | omega)) ?_)) (low_bits x sh ▸ Opr.xor)) pt6)
        (Ex.cons (Ex1.expr hE (Ev.call (Ev.cellv hE (.inr rfl) ki vi (a := .ext (.ref f)) fun _ _ => rfl) (Evs.cons (Ev.loc hE at6) (Evs.cons (Ev.loc hE at1) (Evs.cons (Ev.loc hE at3) Evs.nil))) (Cal.fn hfo hfd) c1))
        (Ex.one (Ex1.expr hE (Ev.call (Ev.cellv hE (.inr rfl) ki vi (a := .ext (.ref f)) fun _ _ => rfl) (Evs.cons (Ev.loc hE at5) (Evs.cons (Ev.loc hE at3) (Evs.cons (Ev.loc hE at2) Evs.nil))) (Cal.fn hfo hfd) c2))))))))⟩
      have := fits64 (x := ((x / 2 ^ sh : Nat) : Int)) (by rw [Int.natAbs_natCast]; exact Nat.lt_trans hxu (by decide))
      (first | lia | omega)
end
end Mine

namespace Mine
open PySem PySem.W

section
variable {G : Gd} {d : Nat} {env : Env} {r : LV} {H H₁ H' : List AO}
theorem LR.grown {al ext : List Addr} {h h' : Heap} (L : LR env al r h) (hoff : env.locals ∉ al ++ ext) (hk : ∀ o, h.get? env.locals = Option.some o → h'.get? env.locals = Option.some o) : LR env (al ++ ext) r h' := by
  obtain ⟨m, ⟨o, es, ep, ho, q⟩, hv⟩ := L.vals
  exact ⟨L.nodup, L.kind, L.nodbg, hoff, m, ⟨o, es, ep, hk _ ho, q⟩, fun p hp hu => let ⟨v, e, x⟩ := hv p hp hu; ⟨v, e, x.mono⟩⟩

theorem def_then {A : Around} {s : Shared} {al : List Addr} {k jj : Nat} {c P ci : Addr} {params : Arguments} {body : List Stmt} {scope : Scope} {pos : Pos} {clos : List (Str × Addr)} {rest : List Stmt} {fl : AF} {Q : Flow → Shared → Prop}
    (hG : G.Ok) (hB : BMod G) (hA : AOK d A) (hke : env.scope.kind = .function) (hgl : env.globals = mainGlobals) (hbl : env.builtins = builtinsNs) (R : Rel G.bs al H s.heap) (L : LR env al r s.heap) (hL0 : G.h₀.get? env.locals = none)
    (hd0 : params.defaults = []) (hk0 : params.kw_defaults = []) (ha : annTrees params none env = [])
    (hP : al[k]? = some P) (T : Tab k pos (qualnameIn env "inner" "inner") jj H H₁) (hcode : env.code = .ref c) (C : CodeHd G.h₀ c P) (hcl : closureFor scope env = pure clos)
    (hci : env.cells.lookup (Str.ofString "inner") = some ci) (hck : env.kindOf (Str.ofString "inner") = some .cell) (hc : s.heap.IsCell ci none) (hcA : ci ∉ al) (hcL : ci ≠ env.locals) (hc0 : G.h₀.get? ci = none) (hself : clos.lookup (Str.ofString "inner") = some ci)
    (hrest : ∀ f h₅ al₅ doc pm cv ctv, (∀ b o, G.h₀.get? b = some o → (G.over h₅ al₅ env.locals).h₀.get? b = some o) → (G.over h₅ al₅ env.locals).Ok → al <+: al₅ →
      (∃ o, (G.over h₅ al₅ env.locals).h₀.get? f = some o ∧ o.data = .func (fnX "inner" (qualnameIn env "inner" "inner") params body scope clos .none .none doc pm none cv ctv)) → (∃ c', cv = .ref c' ∧ al₅[jj]? = some c') →
      (G.over h₅ al₅ env.locals).h₀.IsCell ci (some (.ref f)) → (∀ b v, b ≠ ci → b ∉ al → b ≠ env.locals → s.heap.IsCell b v → (G.over h₅ al₅ env.locals).h₀.IsCell b v) → ∃ rE, Ex (G.over h₅ al₅ env.locals) d env rest r H₁ fl rE H')
    (K : ∀ flow s' ext, Rel G.bs (al ++ ext) H' s'.heap → FR (al ++ ext) fl flow → (∀ b o, b ∉ al → b ≠ env.locals → b ≠ ci → s.heap.get? b = some o → s'.heap.get? b = some o) → (∀ b, (s.heap.get? b).isSome = true → (s'.heap.get? b).isSome = true) → (∀ a ∈ ext, s.heap.get? a = none) → s'.gens = s.gens → s'.os = s.os → Q flow s') :
    wpAny (model G.prog G.w) A (execs (.FunctionDef "inner" params body [] none [] scope none "inner" pos :: rest) env) Q (fun _ _ => False) s := by
  refine wpAny_execs_cons (nestDef_K hd0 hk0 ha (makes hG hB R hP T hgl hcode C hcl fun f cv ctv doc h₄ tk ext R₄ hcv hf hfA hfn keep dom new => ?_))
  have hc4 : h₄.IsCell ci none := by obtain ⟨o, ho, q⟩ := hc; exact ⟨o, keep _ _ hcA ho, q⟩
  refine wpAny_storeName_cell (s := { s with heap := h₄, toks := tk }) hke hck hci hc4 fun h₅ hc5 hs5 => ?_
  replace hs5 : Heap.SameBut ci h₄ h₅ := hs5
  have hcS : (s.heap.get? ci).isSome = true := by obtain ⟨o, ho, _⟩ := hc; rw [ho]; rfl
  have hcA5 : ci ∉ al ++ ext := fun hm => by
    rcases List.mem_append.mp hm with hm | hm
    · exact hcA hm
    · rw [new _ hm] at hcS; cases hcS
  have hLA5 : env.locals ∉ al ++ ext := fun hm => by
    rcases List.mem_append.mp hm with hm | hm
    · exact L.off hm
    · have := L.some; rw [new _ hm] at this; cases this
  have R₅ : Rel G.bs (al ++ ext) H₁ h₅ := R₄.other hcA5 hc0 hs5.extBut
  have L₅ : LR env (al ++ ext) r h₅ := L.grown hLA5 fun o ho => (hs5.2 _ (Ne.symm hcL)).trans (keep _ _ L.off ho)
  have hfc : f ≠ ci := fun x => by rw [x] at hfn; rw [hfn] at hcS; cases hcS
  have hfL : f ≠ env.locals := fun x => by rw [x] at hfn; have := L.some; rw [hfn] at this; cases this
  obtain ⟨c', hc', hcv'⟩ := hcv
  have ob := over_base (L := env.locals) R₅ hL0
  obtain ⟨rE, hex⟩ := hrest f h₅ (al ++ ext) doc _ cv ctv ob (hG.over R₅ hL0) (List.prefix_append _ _) ⟨_, over_of ((hs5.2 f hfc).trans hf) hfA hfL, rfl⟩ ⟨c', hcv', hc'⟩
    (by obtain ⟨o, ho, q⟩ := hc5; exact ⟨o, over_of ho hcA5 hcL, q⟩)
    (fun b v hb hbA hbL hcb => by
      obtain ⟨o, ho, q⟩ := hcb
      have hb5 : h₅.get? b = some o := (hs5.2 b hb).trans (keep _ _ hbA ho)
      refine ⟨o, over_of hb5 (fun hm => ?_) hbL, q⟩
      rcases List.mem_append.mp hm with hm | hm
      · exact hbA hm
      · rw [new _ hm] at ho; cases ho)
  refine hex.go A { s with heap := h₅, toks := tk } (al ++ ext) Q hA R₅.over L₅ fun flow s' e₆ R₆ L₆ F₆ S₆ => ?_
  have R₆' : Rel G.bs ((al ++ ext) ++ e₆) H' s'.heap := R₅.back hL0 R₆
  have dom5 : ∀ b, (s.heap.get? b).isSome = true → (h₅.get? b).isSome = true := fun b e => by
    have q := dom b e
    by_cases hb : b = ci
    · subst hb; obtain ⟨o, ho, _⟩ := hc5; rw [ho]; rfl
    · rw [hs5.2 b hb]; exact q
  refine K flow s' (ext ++ e₆) (by simpa only [List.append_assoc] using R₆') (by simpa only [List.append_assoc] using F₆) (fun b o hb hbL hbc e => ?_) (fun b e => S₆.dom b (dom5 b e)) (fun a ha => ?_) S₆.gens S₆.os
  · refine S₆.keep b o (fun hm => ?_) hbL ((hs5.2 b hbc).trans (keep b o hb e))
    rcases List.mem_append.mp hm with hm | hm
    · exact hb hm
    · rw [new _ hm] at e; cases e
  · rcases List.mem_append.mp ha with ha | ha
    · exact new a ha
    · have q : h₅.get? a = none := S₆.new a ha
      cases e : s.heap.get? a with
      | none => rfl
      | some o => have := dom5 a (by rw [e]; rfl); rw [q] at this; cases this
end
end Mine

namespace Mine
open PySem PySem.W

theorem RawC.cal {G : Gd} {H : List AO} {a : Addr} {k kk : Nat} {nm : Str} (h : RawC G a k nm kk) : Cal G (.ext (.ref a)) H := by
  obtain ⟨pm, c, Pt, ⟨o, ho, hd⟩, _⟩ := h
  exact Cal.fn ho hd

section
variable {G : Gd} {d : Nat} {H : List AO}
def qn8 : Str := Str.ofString "_int2digits" ++ ".<locals>." ++ Str.ofString "inner"
def pos8 : Pos := inPos (sN 8 1)
def mOf (x n : Nat) : Nat := (Builtin.Int.intBits (x : Int) + n - 1) / n
def digits (x n : Nat) : List Int := if x = 0 then List.replicate (mOf x n) 0 else put n (mOf x n) x 0 (mOf x n) (List.replicate (mOf x n) 0)

abbrev env8 (pm : Value) (c L : Addr) : Env := callEnvC (mkFd 8 (Str.ofString "_int2digits") (Str.ofString "_int2digits") .none pm (.ref c)) L 57
structure Rest8 (G G₂ : Gd) (env : Env) (n jj id : Nat) (f : Addr) (clos : List (Str × Addr)) (doc pm cv ctv : Value) : Prop where
  ok : G₂.Ok
  mg : G₂.mg = G.mg
  mb : G₂.mb = G.mb
  hE : EnvOK G₂ env
  scope : env.scope = fscope 8
  inn : Inn G₂ (sN 8 1) qn8 f clos doc pm cv ctv jj
  cn : ∃ c t, clos.lookup (Str.ofString "n") = some c ∧ G₂.h₀.IsCell c (some (.int (n : Int) t))
  ca : ∃ c a, clos.lookup (Str.ofString "a_digits") = some c ∧ env.cells.lookup (Str.ofString "a_digits") = some c ∧ G₂.h₀.IsCell c (some (.ref a)) ∧ G₂.pre[id]? = some a
  ci : ∃ c, env.cells.lookup (Str.ofString "inner") = some c ∧ G₂.h₀.IsCell c (some (.ref f))

theorem call8 (P : Prog G) {x n m jj : Nat} {H₁ H' : List AO} (hm : mOf x n = m) (hm60 : m ≤ 60) (hn : 1 ≤ n) (hn' : n ≤ 64) (hx : x < 2 ^ 60) (T : Tab 0 pos8 qn8 jj (H ++ [AO.list [AV.int 0]] ++ [AO.list (List.replicate m [AV.int 0]).flatten]) H₁)
    (hrest : ∀ G₂ env f clos doc pm cv ctv, Rest8 G G₂ env n jj (H.length + 1) f clos doc pm cv ctv → ∃ rE, Ex G₂ d env [sN 8 2, sN 8 3] [("a", .int (x : Int))] H₁ (.ret (.ref (H.length + 1))) rE H') :
    CallT G (d + 1) (.ext (.ref 57)) [.int (x : Int), .int (n : Int)] H (.ref (H.length + 1)) H' := .mk fun A s al fv vs Q hA R hf hvs K => by
  cases hf
  obtain ⟨va, vn, rfl, ⟨ta, rfl⟩, ⟨tn, rfl⟩⟩ := vrs2 hvs
  obtain ⟨pm, c, Pt, ⟨o, ho, hd⟩, hcd, hC, hPt⟩ := P.f_int2digits
  have hG := P.ok
  refine wpAny_call (codeAny_call_cells (binds := [("a", .int (x : Int) ta), ("n", .int (n : Int) tn)]) hA.room (R.base _ _ ho) hd (hG.nolimit.keeps R.base) (hcd.keeps R.base) rfl rfl rfl ?_ (fun s₁ IC => ?_) rfl rfl rfl)
  · intro b hb
    rcases List.mem_cons.mp hb with rfl | hb
    · exact .inl rfl
    · rw [List.mem_singleton.mp hb]; exact .inr ⟨rfl, rfl⟩
  · have hLs : s.heap.get? s.heap.objs.size = none := get_size _
    have hab : ∀ b, s.heap.objs.size ≤ b → s.heap.get? b = none := fun b hb => Heap.get?_none_of_le hb
    have hnA : ∀ b, s.heap.objs.size ≤ b → b ∉ al := fun b hb hm => absurd (R.lt hm) (Nat.not_lt.mpr hb)
    have hn0 : ∀ b, s.heap.objs.size ≤ b → G.h₀.get? b = none := fun b hb => none_of R (hab b hb)
    have cL : ∀ {x : Str} {b : Addr}, (callEnvC (mkFd 8 (Str.ofString "_int2digits") (Str.ofString "_int2digits") .none pm (.ref c)) s.heap.objs.size 57).cells.lookup x = some b → s₁.heap.IsCell b _ := fun e => IC.cell _ _ e
    generalize hL : s.heap.objs.size = L at *
    have cell_n : s₁.heap.IsCell (L + 1) (some (.int (n : Int) tn)) := IC.cell (Str.ofString "n") (L + 1) rfl
    have cell_a : s₁.heap.IsCell (L + 2) none := IC.cell (Str.ofString "a_digits") (L + 2) rfl
    have cell_i : s₁.heap.IsCell (L + 3) none := IC.cell (Str.ofString "inner") (L + 3) rfl
    have keep1 : ∀ b o, s.heap.get? b = some o → s₁.heap.get? b = some o := IC.toInCall.keep
    have R₁ : Rel G.bs al H s₁.heap := R.keeps keep1
    have st1 : ∃ h tk, s₁ = { s with heap := h, toks := tk } := IC.toInCall.same
    have hns : s₁.heap.Ns L _ := IC.toInCall.ns
    have L₁ : LR (env8 pm c L) al [(Str.ofString "a", .int (x : Int))] s₁.heap := ⟨by simp, fun p hp => by rw [List.mem_singleton.mp hp]; rfl, fun p hp => by rw [List.mem_singleton.mp hp]; show (Str.ofString "a" == _) = false; decide, hnA L (Nat.le_refl _), _, hns, fun p hp _ => by
      rw [List.mem_singleton.mp hp]; exact ⟨.int (x : Int) ta, rfl, ⟨ta, rfl⟩⟩⟩
    have S01 : Step al [] s s₁ := by
      obtain ⟨h, tk, rfl⟩ := st1
      exact Step.of_keep keep1
    clear cL IC
    suffices main : wpAny (model G.prog G.w) (A.deeper (env8 pm c L)) (execs (fbody 8) (env8 pm c L)) (fun (f : Flow) s' => Q (match f with | .ret v => v | _ => .none) s') (fun _ _ => False) s₁ from wpAny_mono main (fun fl s' q => q) fun _ _ e => e.elim
    have hA' : AOK d (A.deeper (env8 pm c L)) := hA.deeper _
    have hE₁ : EnvOK (G.over s₁.heap al L) (env8 pm c L) := ⟨rfl, rfl, rfl, over_L⟩
    have hL0 : G.h₀.get? L = none := hn0 L (Nat.le_refl _)
    have hn1 : (G.over s₁.heap al L).h₀.IsCell (L + 1) (some (.int (n : Int) tn)) := by
      obtain ⟨o, ho, q⟩ := cell_n
      exact ⟨o, over_of ho (hnA _ (Nat.le_succ _)) (Nat.succ_ne_self _), q⟩
    have hdiv : ((Builtin.Int.intBits (x : Int) : Nat) + (n : Int) - 1).fdiv (n : Int) = (m : Int) := by
      rw [← hm, Int.fdiv_eq_ediv_of_nonneg _ (by (first | lia | omega))]
      unfold mOf
      rw [show ((Builtin.Int.intBits (x : Int) : Nat) : Int) + (n : Int) - 1 = ((Builtin.Int.intBits (x : Int) + n - 1 : Nat) : Int) by (first | lia | omega), Int.natCast_ediv]
    have ev : Ev (G.over s₁.heap al L) d (env8 pm c L) (compE (sN 8 0)) [(Str.ofString "a", .int (x : Int))] H (.ref (H ++ [AO.list [AV.int 0]]).length) (H ++ [AO.list [AV.int 0]] ++ [AO.list (List.replicate m [AV.int 0]).flatten]) := by
      have em : ((m : Int)).toNat = m := by simp
      have hmul := Opr.mulL (G := G.over s₁.heap al L) (d := d) (H := H ++ [AO.list [AV.int 0]]) (x := (m : Int)) get_last (by (first | lia | omega)) (by (first | lia | omega)) (by simp; (first | lia | omega))
      rw [em] at hmul
      exact Ev.bin (Ev.list (Evs.cons Ev.cInt Evs.nil) (by simp)) (Ev.bin (Ev.bin (Ev.bin (Ev.meth (Ev.loc hE₁ at0) IsT.int meth_bitlen Evs.nil CallT.bitlen) (Ev.cellv (a := .int (n : Int)) hE₁ (.inl rfl) rfl hn1 fun _ _ => ⟨tn, rfl⟩) Opr.add) Ev.cInt Opr.sub) (Ev.cellv (a := .int (n : Int)) hE₁ (.inl rfl) rfl hn1 fun _ _ => ⟨tn, rfl⟩) (hdiv ▸ Opr.div (by (first | lia | omega)) (by (first | lia | omega)))) hmul
    show wpAny _ _ (execs (sN 8 0 :: sN 8 1 :: [sN 8 2, sN 8 3]) (env8 pm c L)) _ _ _
    generalize hH2 : H ++ [AO.list [AV.int 0]] ++ [AO.list (List.replicate m [AV.int 0]).flatten] = H2 at ev T
    have hl1 : (H ++ [AO.list [AV.int 0]]).length = H.length + 1 := by simp
    rw [hl1] at ev
    refine wpAny_execs_cons (wpAny_Assign_Name (ev.run hA' R₁.over L₁ fun v s₂ e₂ R₂ L₂ V₂ S₂ => ?_) rfl)
    have notA : ∀ b, L < b → b < L + 4 → b ∉ al ++ e₂ := fun b h1 h2 hm => by
      rcases List.mem_append.mp hm with hm | hm
      · exact hnA b (by (first | lia | omega)) hm
      · have q := S₂.new b hm
        have : b = L + 1 ∨ b = L + 2 ∨ b = L + 3 := by (first | lia | omega)
        rcases this with rfl | rfl | rfl
        · obtain ⟨o, ho, _⟩ := cell_n; rw [ho] at q; cases q
        · obtain ⟨o, ho, _⟩ := cell_a; rw [ho] at q; cases q
        · obtain ⟨o, ho, _⟩ := cell_i; rw [ho] at q; cases q
    have up2 : ∀ {b v}, L < b → s₁.heap.IsCell b v → s₂.heap.IsCell b v := fun hb hc => by
      obtain ⟨o, ho, q⟩ := hc
      exact ⟨o, S₂.keep _ _ (hnA _ (Nat.le_of_lt hb)) ho, q⟩
    refine wpAny_storeName_cell rfl rfl rfl (up2 (b := L + 2) (by (first | lia | omega)) cell_a) fun h₃ hc₃ hs₃ => ?_
    have R₃ : Rel G.bs (al ++ e₂) H2 h₃ := (R₁.back hL0 R₂).other (notA (L + 2) (by (first | lia | omega)) (by (first | lia | omega))) (hn0 _ (by (first | lia | omega))) hs₃.extBut
    have L₃ : LR (env8 pm c L) (al ++ e₂) [(Str.ofString "a", .int (x : Int))] h₃ := L₂.other (I := L + 2) (by show L + 2 ≠ L; (first | lia | omega)) hs₃.extBut
    have cn3 : h₃.IsCell (L + 1) (some (.int (n : Int) tn)) := (up2 (b := L + 1) (by (first | lia | omega)) cell_n).sameBut hs₃ (by show L + 1 ≠ L + 2; (first | lia | omega))
    have ci3 : h₃.IsCell (L + 3) none := (up2 (b := L + 3) (by (first | lia | omega)) cell_i).sameBut hs₃ (by show L + 3 ≠ L + 2; (first | lia | omega))
    obtain ⟨D, hD, rfl⟩ := V₂
    refine def_then (k := 0) (jj := jj) (c := c) (P := Pt) (ci := L + 3) (H₁ := H₁) (H' := H') (r := [(Str.ofString "a", .int (x : Int))]) (al := al ++ e₂) (fl := .ret (.ref (H.length + 1))) (clos := [(Str.ofString "n", L + 1), (Str.ofString "inner", L + 3), (Str.ofString "a_digits", L + 2)]) (s := { s₂ with heap := h₃ }) hG P.bmod hA' rfl rfl rfl R₃ L₃ hL0 rfl rfl rfl
      (pre_get (R.pre.trans (List.prefix_append _ _)) hPt) T rfl hC rfl rfl rfl ci3 (notA _ (by (first | lia | omega)) (by (first | lia | omega))) (by show L + 3 ≠ L; (first | lia | omega)) (hn0 _ (by (first | lia | omega))) rfl ?_ ?_
    · intro f h₅ al₅ doc pm' cv ctv ob ok5 hpre hobj hcode hself hcells
      refine hrest (G.over h₅ al₅ L) (env8 pm c L) f [(Str.ofString "n", L + 1), (Str.ofString "inner", L + 3), (Str.ofString "a_digits", L + 2)] doc pm' cv ctv ⟨ok5, rfl, rfl, ⟨rfl, rfl, rfl, over_L⟩, rfl, ⟨hobj, hcode, ⟨_, rfl, hself⟩⟩, ⟨_, _, rfl, hcells _ _ (by show L + 1 ≠ L + 3; (first | lia | omega)) (notA _ (by (first | lia | omega)) (by (first | lia | omega))) (by show L + 1 ≠ L; (first | lia | omega)) cn3⟩,
        ⟨_, _, rfl, rfl, hcells _ _ (by show L + 2 ≠ L + 3; (first | lia | omega)) (notA _ (by (first | lia | omega)) (by (first | lia | omega))) (by show L + 2 ≠ L; (first | lia | omega)) hc₃, pre_get hpre hD⟩, ⟨_, rfl, hself⟩⟩
    · intro flow s' ext R' F' keep dom new hg hos
      obtain ⟨v, rfl, hv⟩ := F'
      refine K v s' (e₂ ++ ext) (by simpa only [List.append_assoc] using R') (by simpa only [List.append_assoc] using hv) ?_
      have dom3 : ∀ b, (s₂.heap.get? b).isSome = true → (h₃.get? b).isSome = true := fun b e => by
        by_cases hb : b = L + 2
        · subst hb; obtain ⟨o, ho, _⟩ := hc₃; rw [ho]; rfl
        · rw [hs₃.2 b hb]; exact e
      have S02 : Step al e₂ s s₂ := by have := S01.trans (by simpa using S₂); simpa using this
      refine ⟨fun b o hb e => ?_, fun b e => dom b (dom3 b (S02.dom b e)), fun a ha => ?_, ?_, ?_⟩
      · have hlt : b < L := by rw [← hL]; exact Heap.lt_size e
        refine keep b o (fun hm => ?_) (Nat.ne_of_lt hlt) (Nat.ne_of_lt (Nat.lt_of_lt_of_le hlt (Nat.le_add_right _ 3))) ((hs₃.2 b (Nat.ne_of_lt (Nat.lt_of_lt_of_le hlt (Nat.le_add_right _ 2)))).trans (S02.keep b o hb e))
        rcases List.mem_append.mp hm with hm | hm
        · exact hb hm
        · have := S02.new b hm; rw [e] at this; cases this
      · rcases List.mem_append.mp ha with ha | ha
        · exact S02.new a ha
        · have q : h₃.get? a = none := new a ha
          cases e : s.heap.get? a with
          | none => rfl
          | some o => have := dom3 a (S02.dom a (by rw [e]; rfl)); rw [q] at this; cases this
      · exact hg.trans S02.gens
      · exact hos.trans S02.os

theorem TabOK.push {k : Nat} {pos : Pos} {qual : Str} {J : List AO} (T : TabOK k pos qual H) : TabOK k pos qual (H ++ J) := by
  rcases T with ⟨h2, T⟩ | ⟨j, h2, a, b, c⟩
  · exact .inl ⟨by simp; (first | lia | omega), Grow.push.get T⟩
  · exact .inr ⟨j, h2, a, Grow.push.get b, Grow.push.get c⟩
theorem TabOK.grow {k : Nat} {pos : Pos} {qual : Str} {H' : List AO} (T : TabOK k pos qual H) (g : Grow H H') : TabOK k pos qual H' := by
  rcases T with ⟨h2, T⟩ | ⟨j, h2, a, b, c⟩
  · exact .inl ⟨Nat.le_trans h2 g.len, g.get T⟩
  · exact .inr ⟨j, h2, a, g.get b, g.get c⟩
theorem TabOK.growX {k i : Nat} {pos : Pos} {qual : Str} {H' : List AO} (hk : k = 1) (hi : i = 0) (T : TabOK k pos qual H) (g : GrowX i H H') : TabOK k pos qual H' := by
  subst hk hi
  rcases T with ⟨h2, T⟩ | ⟨j, h2, a, b, c⟩
  · have := g 1 _ (by (first | lia | omega)) T
    exact .inl ⟨(List.getElem?_eq_some_iff.mp this).1, this⟩
  · exact .inr ⟨j, h2, a, g 1 _ (by (first | lia | omega)) b, g j _ (by (first | lia | omega)) c⟩

theorem mOf_le {x n : Nat} (hx : x < 2 ^ 60) (hn : 1 ≤ n) : mOf x n ≤ 60 := by
  have hbits : Builtin.Int.intBits (x : Int) ≤ 60 := intBits_le_iff.mpr (by rw [Int.natAbs_natCast]; exact hx)
  unfold mOf
  have h1 : Builtin.Int.intBits (x : Int) + n - 1 ≤ 60 * n + (n - 1) := by
    have : Builtin.Int.intBits (x : Int) * 1 ≤ 60 * n := Nat.mul_le_mul hbits hn
    (first | lia | omega)
  have h2 : (Builtin.Int.intBits (x : Int) + n - 1) / n ≤ (60 * n + (n - 1)) / n := Nat.div_le_div_right h1
  have h3 : (60 * n + (n - 1)) / n = 60 := by
    rw [Nat.mul_comm, Nat.mul_add_div (by (first | lia | omega)), Nat.div_eq_of_lt (by (first | lia | omega))]
  (first | lia | omega)

theorem int2digits_spec (P : Prog G) {x n : Nat} (hx : x < 2 ^ 60) (hn : 1 ≤ n) (hn' : n ≤ 64) (T : TabOK 0 pos8 qn8 H) :
    ∃ i H', CallT G (d + 60 + 1) (.ext (.ref 57)) [.int (x : Int), .int (n : Int)] H (.ref i) H' ∧ TabOK 0 pos8 qn8 H' ∧ GrowX 0 H H' ∧ H'[i]? = some (.list ((digits x n).map .int)) := by
  have hm60 := mOf_le hx hn
  have hdg : digits x n = if x = 0 then List.replicate (mOf x n) 0 else put n (mOf x n) x 0 (mOf x n) (List.replicate (mOf x n) 0) := rfl
  generalize hm : mOf x n = m at *
  obtain ⟨jj, H₁, T₁⟩ := ((T.push (J := [AO.list [AV.int 0]])).push (J := [AO.list (List.replicate m [AV.int 0]).flatten])).tab
  obtain ⟨⟨jk2, jk⟩, tk0, tj, tg⟩ := T₁.facts
  have l1 : (H ++ [AO.list [AV.int 0]]).length = H.length + 1 := by simp
  have hid : H₁[H.length + 1]? = some (.list ((List.replicate m (0 : Int)).map .int)) := by
    refine tg _ _ (by (first | lia | omega)) ?_
    rw [← rep_flat, ← l1]; exact get_last
  have gx : GrowX 0 H H₁ := fun i y hi e => tg i y hi (Grow.push.get (Grow.push.get e))
  have hjid : H.length + 1 ≠ jj := fun x => by rw [x, tj] at hid; cases hid
  by_cases hx0 : x = 0
  · rw [if_pos hx0] at hdg
    refine ⟨H.length + 1, H₁, call8 P hm hm60 hn hn' hx T₁ fun G₂ env f clos doc pm cv ctv h => ?_, .inr ⟨jj, jk2, jk, tk0, tj⟩, gx, by rw [hdg]; exact hid⟩
    obtain ⟨ca, a, k1, k2, va, pa⟩ := h.ca
    have hf : ((x : Int) != 0) = false := by rw [hx0]; rfl
    exact ⟨_, Ex.cons (Ex1.ifF (Et.val (Ev.loc h.hE at0) (hf ▸ Tru.int)) Ex.nil) (Ex.one (Ex1.ret (Ev.cellv (a := .ref (H.length + 1)) h.hE (.inl (by unfold Env.kindOf; rw [h.scope]; rfl)) k2 va fun al hp => ⟨a, pre_get hp pa, rfl⟩)))⟩
  · rw [if_neg hx0] at hdg
    refine ⟨H.length + 1, H₁.set (H.length + 1) (.list ((digits x n).map .int)), call8 P hm hm60 hn hn' hx T₁ fun G₂ env f clos doc pm cv ctv h => ?_, .inr ⟨jj, jk2, jk, ?_, ?_⟩, fun i y hi e => ?_, get_set hid⟩
    · obtain ⟨ca, a, k1, k2, va, pa⟩ := h.ca
      obtain ⟨ci, k3, vi⟩ := h.ci
      obtain ⟨fo, hfo, hfd⟩ := h.inn.obj
      have hf : ((x : Int) != 0) = true := by simpa using (by (first | lia | omega) : ¬ (x : Int) = 0)
      have c1 := inner8 (d := d + (60 - m)) h.ok h.inn hn' h.cn ⟨ca, a, k1, va, pa⟩ hjid m x 0 m (List.replicate m 0) H₁ (by (first | lia | omega)) (by
        have : 1 ≤ m := by
          rw [← hm]; unfold mOf
          have hb : 1 ≤ Builtin.Int.intBits (x : Int) := by
            cases hq : Builtin.Int.intBits (x : Int) with
            | zero =>
              have : Builtin.Int.intBits (x : Int) ≤ 0 := by (first | lia | omega)
              have := intBits_le_iff.mp this
              rw [Int.natAbs_natCast] at this; (first | lia | omega)
            | succ q => (first | lia | omega)
          exact (Nat.le_div_iff_mul_le (by (first | lia | omega))).mpr (by (first | lia | omega))
        (first | lia | omega)) (by simp) (by simp; (first | lia | omega)) hx tj hid
      rw [show d + (60 - m) + m = d + 60 by (first | lia | omega), ← hdg] at c1
      have lenE : CallT G₂ (d + 60) (.ext (.builtin "len")) [.ref (H.length + 1)] H₁ (.int (m : Int)) H₁ := by
        have := CallT.len (G := G₂) (d := d + 60) hid (by simp; (first | lia | omega))
        simpa using this
      have kk : ∀ {x : Str} {k : NameKind}, (fscope 8).names.lookup x = some k → env.kindOf x = some k := fun e => by unfold Env.kindOf; rw [h.scope]; exact e
      exact ⟨_, Ex.cons (Ex1.ifT (Et.val (Ev.loc h.hE at0) (hf ▸ Tru.int)) (Ex.one (Ex1.expr h.hE (Ev.call (Ev.cellv (a := .ext (.ref f)) h.hE (.inl (kk rfl)) k3 vi fun _ _ => rfl)
        (Evs.cons (Ev.loc h.hE at0) (Evs.cons Ev.cInt (Evs.cons (Ev.call (Ev.bltin h.ok h.hE (by rw [h.mg]; exact P.n_len) (by rw [h.mb]; exact P.b_len) (kk rfl)) (Evs.cons (Ev.cellv (a := .ref (H.length + 1)) h.hE (.inl (kk rfl)) k2 va fun al hp => ⟨a, pre_get hp pa, rfl⟩) Evs.nil) Cal.bltin lenE) Evs.nil)))
        (Cal.fn hfo hfd) c1)))) (Ex.one (Ex1.ret (Ev.cellv (a := .ref (H.length + 1)) h.hE (.inl (kk rfl)) k2 va fun al hp => ⟨a, pre_get hp pa, rfl⟩)))⟩
    · rw [List.getElem?_set_ne (by (first | lia | omega))]; exact tk0
    · rw [List.getElem?_set_ne hjid]; exact tj
    · have := (List.getElem?_eq_some_iff.mp e).1
      rw [List.getElem?_set_ne (by (first | lia | omega))]; exact gx i y hi e
end
end Mine

namespace Mine
open PySem PySem.W

def valD (n : Nat) (ds : List Int) : Nat → Nat → Nat → Int
  | 0, L, R => 0
  | fuel + 1, L, R => if L + 1 = R then ds.getD L 0 else valD n ds fuel ((L + R) / 2) R * 2 ^ (((L + R) / 2 - L) * n) + valD n ds fuel L ((L + R) / 2)

theorem valD_bound (n : Nat) (hn : n ≤ 64) (ds : List Int) (hd : ∀ x ∈ ds, x.natAbs < 2 ^ 61) : ∀ (fuel L R : Nat), L < R → R ≤ ds.length → (valD n ds fuel L R).natAbs < 2 ^ (62 + 65 * (R - L))
  | 0, L, R, _, _ => by simp [valD]; exact Nat.two_pow_pos _
  | fuel + 1, L, R, h, hR => by
    unfold valD
    by_cases hw : L + 1 = R
    · rw [if_pos hw]
      have hL : L < ds.length := by (first | lia | omega)
      have e : ds.getD L 0 = ds[L] := by simp [List.getD, hL]
      rw [e]
      exact Nat.lt_of_lt_of_le (hd _ (List.getElem_mem hL)) (Nat.pow_le_pow_right (by (first | lia | omega)) (by (first | lia | omega)))
    · rw [if_neg hw]
      generalize hm : (L + R) / 2 = mid
      have hm1 : L < mid ∧ mid < R := by (first | lia | omega)
      have b1 := valD_bound n hn ds hd fuel mid R hm1.2 hR
      have b2 := valD_bound n hn ds hd fuel L mid hm1.1 (by (first | lia | omega))
      generalize valD n ds fuel mid R = v1 at *
      generalize valD n ds fuel L mid = v2 at *
      have h1 : (v1 * 2 ^ ((mid - L) * n) + v2).natAbs ≤ v1.natAbs * 2 ^ ((mid - L) * n) + v2.natAbs := by
        refine Nat.le_trans (Int.natAbs_add_le _ _) ?_
        rw [Int.natAbs_mul, Int.natAbs_pow]
        exact Nat.le_refl _
      have h2 : 2 ^ ((mid - L) * n) ≤ 2 ^ (64 * (mid - L)) := Nat.pow_le_pow_right (by (first | lia | omega)) (by rw [Nat.mul_comm]; exact Nat.mul_le_mul_right _ hn)
      have h3 : v1.natAbs * 2 ^ ((mid - L) * n) ≤ 2 ^ (62 + 65 * (R - mid)) * 2 ^ (64 * (mid - L)) := Nat.mul_le_mul (Nat.le_of_lt b1) h2
      rw [← Nat.pow_add] at h3
      have h4 : 2 ^ (62 + 65 * (R - mid) + 64 * (mid - L)) ≤ 2 ^ (62 + 65 * (R - L) - 1) := Nat.pow_le_pow_right (by (first | lia | omega)) (by (first | lia | omega))
      have h5 : 2 ^ (62 + 65 * (mid - L)) ≤ 2 ^ (62 + 65 * (R - L) - 1) := Nat.pow_le_pow_right (by (first | lia | omega)) (by (first | lia | omega))
      have h6 : 2 ^ (62 + 65 * (R - L)) = 2 * 2 ^ (62 + 65 * (R - L) - 1) := by
        rw [← Nat.pow_succ']; congr 1; (first | lia | omega)
      (first | lia | omega)

section
variable {G : Gd} {d : Nat} {env : Env} {r r' : LV} {H : List AO}
def qn9 : Str := Str.ofString "_digits2int" ++ ".<locals>." ++ Str.ofString "inner"
def pos9 : Pos := inPos (sN 9 0)
def nsIn9 : List Str := ["L", "R", "mid", "shift"]
theorem inner9 (hG : G.Ok) {qn : Str} {f : Addr} {clos : List (Str × Addr)} {doc pm cv ctv : Value} {j id : Nat} (I : Inn G (sN 9 0) qn f clos doc pm cv ctv j) {n : Nat} (hn : n ≤ 64)
    (hcn : ∃ c t, clos.lookup (Str.ofString "n") = some c ∧ G.h₀.IsCell c (some (.int (n : Int) t))) (hca : ∃ c v, clos.lookup (Str.ofString "digits") = some c ∧ G.h₀.IsCell c (some v) ∧ ∀ al, G.pre <+: al → VR al (.ref id) v)
    {ds : List Int} (hds : ∀ x ∈ ds, x.natAbs < 2 ^ 61) (hlen : ds.length ≤ 1000) (hj : H[j]? = some (codA qn)) (hi : H[id]? = some (.list (ds.map .int))) :
    ∀ (fuel L R : Nat), R ≤ L + fuel → L < R → R ≤ ds.length → CallT G (d + fuel) (.ext (.ref f)) [.int (L : Int), .int (R : Int)] H (.int (valD n ds fuel L R)) H
  | 0, L, R, h1, h2, _ => by (first | lia | omega)
  | fuel + 1, L, R, h1, h2, h3 => by
    obtain ⟨cn, tn, kn, vn⟩ := hcn
    obtain ⟨ca, a, ka, va, pa⟩ := hca
    obtain ⟨ci, ki, vi⟩ := I.self
    have FI : FnI G f (fdIn (sN 9 0) qn clos doc pm cv ctv) (inBody (sN 9 0)) nsIn9 := ⟨I.obj, rfl, by decide, (by show ∀ x ∈ nsIn9, (inScope (sN 9 0)).names.lookup x = some .local; decide), by decide, (by show ∀ x ∈ (inScope (sN 9 0)).names, x.2 ≠ .cell; decide), rfl, rfl, rfl, rfl, rfl⟩
    obtain ⟨fo, hfo, hfd⟩ := I.obj
    have bnd : Binds G (fdIn (sN 9 0) qn clos doc pm cv ctv) [.int (L : Int), .int (R : Int)] [("L", .int (L : Int)), ("R", .int (R : Int))] := Binds.plain (names := ["L", "R"]) rfl (by
      exact len2 fun _ _ => rfl)
    have ls : ∀ p ∈ ([("mid", .unset), ("shift", .unset)] : LV), p.2 = .unset := fun p h => by
      simp only [List.mem_cons, List.not_mem_nil, or_false] at h
      rcases h with rfl | rfl <;> rfl
    by_cases hw : L + 1 = R
    · have hv : valD n ds (fuel + 1) L R = ds.getD L 0 := by unfold valD; rw [if_pos hw]
      have hcmp : (((L : Int) + 1) == (R : Int)) = true := by simpa using (by (first | lia | omega) : (L : Int) + 1 = R)
      rw [hv]
      have hL : L < ds.length := by (first | lia | omega)
      refine CallT.defX (ps := [("L", .int (L : Int)), ("R", .int (R : Int))]) (ls := [("mid", .unset), ("shift", .unset)]) (f := .ret (.int (ds.getD L 0))) hG FI (I.codeRec hj) bnd rfl ls fun Lc hE => ?_
      exact ⟨_, Ex.stop (Ex1.ifT (Et.cmp (Ev.bin (Ev.loc hE at0) Ev.cInt Opr.add) (Ev.loc hE at1) (hcmp ▸ Opr.eq)) (Ex.one (Ex1.ret (Ev.sub (Ev.cellv (a := .ref id) hE (.inr rfl) ka va pa) (Ev.loc hE at0) (Sub.list hi (by (first | lia | omega)) (by simp [hL]) (by (first | lia | omega))))))) (by intro e; cases e)⟩
    · have hcmp : (((L : Int) + 1) == (R : Int)) = false := by simpa using (by (first | lia | omega) : ¬ (L : Int) + 1 = R)
      generalize hm : (L + R) / 2 = mid
      have hm1 : L < mid ∧ mid < R := by (first | lia | omega)
      have hv : valD n ds (fuel + 1) L R = valD n ds fuel mid R * 2 ^ ((mid - L) * n) + valD n ds fuel L mid := by rw [valD, if_neg hw, hm]
      generalize hsh : (mid - L) * n = sh at hv
      have hshb : sh ≤ 64000 := by rw [← hsh]; exact Nat.le_trans (Nat.mul_le_mul (show mid - L ≤ 1000 by (first | lia | omega)) hn) (by decide)
      have e1 : (((L : Int) + R)).fdiv (2 ^ (1 : Int).toNat) = (mid : Int) := by
        rw [Int.fdiv_eq_ediv_of_nonneg _ (by decide)]
        show ((L : Int) + R) / 2 = _
        (first | lia | omega)
      have e2 : ((mid : Int) - L) * n = (sh : Int) := by rw [← hsh]; push_cast; rw [Int.natCast_sub (by (first | lia | omega))]
      have b1 := valD_bound n hn ds hds fuel mid R hm1.2 h3
      have c1 := inner9 hG I hn ⟨cn, tn, kn, vn⟩ ⟨ca, a, ka, va, pa⟩ hds hlen hj hi fuel mid R (by (first | lia | omega)) hm1.2 h3
      have c2 := inner9 hG I hn ⟨cn, tn, kn, vn⟩ ⟨ca, a, ka, va, pa⟩ hds hlen hj hi fuel L mid (by (first | lia | omega)) hm1.1 (by (first | lia | omega))
      have hb : Builtin.Int.intBits (valD n ds fuel mid R) ≤ 62 + 65 * (R - mid) := intBits_le_iff.mpr b1
      rw [hv]
      generalize valD n ds fuel mid R = v1 at *
      generalize valD n ds fuel L mid = v2 at *
      have e3 : v1 * 2 ^ (sh : Int).toNat = v1 * 2 ^ sh := by rw [Int.toNat_natCast]
      refine CallT.defX (ps := [("L", .int (L : Int)), ("R", .int (R : Int))]) (ls := [("mid", .unset), ("shift", .unset)]) (f := .ret (.int (v1 * 2 ^ sh + v2))) hG FI (I.codeRec hj) bnd rfl ls fun Lc hE => ?_
      exact ⟨_, Ex.cons (Ex1.ifF (Et.cmp (Ev.bin (Ev.loc hE at0) Ev.cInt Opr.add) (Ev.loc hE at1) (hcmp ▸ Opr.eq)) Ex.nil) (Ex.cons (Ex1.assign hE (Ev.bin (Ev.bin (Ev.loc hE at0) (Ev.loc hE at1) Opr.add) Ev.cInt (e1 ▸ Opr.shr (by decide))) pt2)
        (Ex.cons (Ex1.assign hE (Ev.bin (Ev.bin (Ev.loc hE at2) (Ev.loc hE at0) Opr.sub) (Ev.cellv hE (.inr rfl) kn vn (a := .int n) fun al h => ⟨tn, rfl⟩) (e2 ▸ Opr.mul (mulR (by (first | lia | omega))))) pt3)
        (Ex.one (Ex1.ret (Ev.bin (Ev.bin (Ev.call (Ev.cellv hE (.inr rfl) ki vi (a := .ext (.ref f)) fun _ _ => rfl) (Evs.cons (Ev.loc hE at2) (Evs.cons (Ev.loc hE at1) Evs.nil)) (Cal.fn hfo hfd) c1) (Ev.loc hE at3) (e3 ▸ Opr.shl (by (first | lia | omega)) (by (first | lia | omega))))
          (Ev.call (Ev.cellv hE (.inr rfl) ki vi (a := .ext (.ref f)) fun _ _ => rfl) (Evs.cons (Ev.loc hE at0) (Evs.cons (Ev.loc hE at2) Evs.nil)) (Cal.fn hfo hfd) c2) Opr.add)))))⟩

abbrev env9 (pm : Value) (c L : Addr) : Env := callEnvC (mkFd 9 (Str.ofString "_digits2int") (Str.ofString "_digits2int") .none pm (.ref c)) L 64
theorem digits2int_spec (P : Prog G) {id n : Nat} {ds : List Int} (hn : n ≤ 64) (hds : ∀ x ∈ ds, x.natAbs < 2 ^ 61) (hlen : ds.length ≤ 60) (hi : H[id]? = some (.list (ds.map .int))) (T : TabOK 1 pos9 qn9 H) :
    ∃ H', CallT G (d + 60 + 1) (.ext (.ref 64)) [.ref id, .int (n : Int)] H (.int (valD n ds ds.length 0 ds.length)) H' ∧ TabOK 1 pos9 qn9 H' ∧ GrowX 1 H H' := by
  obtain ⟨jj, H₁, T₁⟩ := T.tab
  obtain ⟨⟨jk2, jk⟩, tk0, tj, tg⟩ := T₁.facts
  refine ⟨H₁, .mk fun A s al fv vs Q hA R hf hvs K => ?_, .inr ⟨jj, jk2, jk, tk0, tj⟩, tg⟩
  cases hf
  obtain ⟨va, vn, rfl, hva, ⟨tn, rfl⟩⟩ := vrs2 hvs
  obtain ⟨pm, c, Pt, ⟨o, ho, hd⟩, hcd, hC, hPt⟩ := P.f_digits2int
  have hG := P.ok
  have hid1 : id ≠ 1 := fun x => by
    subst x
    rcases T with ⟨_, T⟩ | ⟨j, _, _, T, _⟩ <;> rw [T] at hi <;> cases hi
  have hi₁ : H₁[id]? = some (.list (ds.map .int)) := tg _ _ hid1 hi
  refine wpAny_call (codeAny_call_cells (binds := [("digits", va), ("n", .int (n : Int) tn)]) hA.room (R.base _ _ ho) hd (hG.nolimit.keeps R.base) (hcd.keeps R.base) rfl rfl rfl ?_ (fun s₁ IC => ?_) rfl rfl rfl)
  · intro b hb
    rcases List.mem_cons.mp hb with rfl | hb
    · exact .inr ⟨rfl, rfl⟩
    · rw [List.mem_singleton.mp hb]; exact .inr ⟨rfl, rfl⟩
  · have hab : ∀ b, s.heap.objs.size ≤ b → s.heap.get? b = none := fun b hb => Heap.get?_none_of_le hb
    have hnA : ∀ b, s.heap.objs.size ≤ b → b ∉ al := fun b hb hm => absurd (R.lt hm) (Nat.not_lt.mpr hb)
    have hn0 : ∀ b, s.heap.objs.size ≤ b → G.h₀.get? b = none := fun b hb => none_of R (hab b hb)
    generalize hL : s.heap.objs.size = L at *
    have cell_d : s₁.heap.IsCell (L + 1) (some va) := IC.cell (Str.ofString "digits") (L + 1) rfl
    have cell_n : s₁.heap.IsCell (L + 2) (some (.int (n : Int) tn)) := IC.cell (Str.ofString "n") (L + 2) rfl
    have cell_i : s₁.heap.IsCell (L + 3) none := IC.cell (Str.ofString "inner") (L + 3) rfl
    have keep1 : ∀ b o, s.heap.get? b = some o → s₁.heap.get? b = some o := IC.toInCall.keep
    have R₁ : Rel G.bs al H s₁.heap := R.keeps keep1
    have st1 : ∃ h tk, s₁ = { s with heap := h, toks := tk } := IC.toInCall.same
    have hns : s₁.heap.Ns L _ := IC.toInCall.ns
    have L₁ : LR (env9 pm c L) al [] s₁.heap := ⟨by simp, fun p hp => (by cases hp), fun p hp => (by cases hp), hnA L (Nat.le_refl _), _, hns, fun p hp _ => by cases hp⟩
    have S01 : Step al [] s s₁ := by
      obtain ⟨h, tk, rfl⟩ := st1
      exact Step.of_keep keep1
    clear IC
    suffices main : wpAny (model G.prog G.w) (A.deeper (env9 pm c L)) (execs (fbody 9) (env9 pm c L)) (fun (f : Flow) s' => Q (match f with | .ret v => v | _ => .none) s') (fun _ _ => False) s₁ from wpAny_mono main (fun fl s' q => q) fun _ _ e => e.elim
    have hA' : AOK (d + 60) (A.deeper (env9 pm c L)) := hA.deeper _
    have hL0 : G.h₀.get? L = none := hn0 L (Nat.le_refl _)
    have notA : ∀ b, L < b → b ∉ al := fun b h1 => hnA b (Nat.le_of_lt h1)
    show wpAny _ _ (execs (sN 9 0 :: [sN 9 1]) (env9 pm c L)) _ _ _
    refine def_then (k := 1) (jj := jj) (c := c) (P := Pt) (ci := L + 3) (H₁ := H₁) (H' := H₁) (r := []) (al := al) (fl := .ret (.int (valD n ds ds.length 0 ds.length))) (clos := [(Str.ofString "n", L + 2), (Str.ofString "inner", L + 3), (Str.ofString "digits", L + 1)]) (s := s₁) hG P.bmod hA' rfl rfl rfl R₁ L₁ hL0 rfl rfl rfl
      (pre_get R.pre hPt) T₁ rfl hC rfl rfl rfl cell_i (notA _ (by (first | lia | omega))) (by show L + 3 ≠ L; (first | lia | omega)) (hn0 _ (by (first | lia | omega))) rfl ?_ ?_
    · intro f h₅ al₅ doc pm' cv ctv ob ok5 hpre hobj hcode hself hcells
      have hE : EnvOK (G.over h₅ al₅ L) (env9 pm c L) := ⟨rfl, rfl, rfl, over_L⟩
      have cd5 := hcells (L + 1) _ (by show L + 1 ≠ L + 3; (first | lia | omega)) (notA _ (by (first | lia | omega))) (by show L + 1 ≠ L; (first | lia | omega)) cell_d
      have cn5 := hcells (L + 2) _ (by show L + 2 ≠ L + 3; (first | lia | omega)) (notA _ (by (first | lia | omega))) (by show L + 2 ≠ L; (first | lia | omega)) cell_n
      have vd : ∀ al', (G.over h₅ al₅ L).pre <+: al' → VR al' (.ref id) va := fun al' hp => by
        obtain ⟨a, ha, e⟩ := hva
        exact ⟨a, pre_get (hpre.trans hp) ha, e⟩
      have evd : ∀ {r : LV} {pos : Pos}, Ev (G.over h₅ al₅ L) (d + 60) (env9 pm c L) (.Name (Str.ofString "digits") pos) r H₁ (.ref id) H₁ := fun {r pos} => Ev.cellv (a := .ref id) hE (.inl rfl) rfl cd5 vd
      have evn : ∀ {r : LV} {pos : Pos}, Ev (G.over h₅ al₅ L) (d + 60) (env9 pm c L) (.Name (Str.ofString "n") pos) r H₁ (.int n) H₁ := fun {r pos} => Ev.cellv (a := .int n) hE (.inl rfl) rfl cn5 fun _ _ => ⟨tn, rfl⟩
      have hem : (!(ds.map AV.int).isEmpty) = !ds.isEmpty := by cases ds <;> rfl
      by_cases h0 : ds = []
      · subst h0
        exact ⟨_, Ex.one (Ex1.ret (Ev.ifF (Et.val evd (Tru.list hi₁ (by simp))) Ev.cInt))⟩
      · have he : (!(ds.map AV.int).isEmpty) = true := by cases ds with
          | nil => exact absurd rfl h0
          | cons => rfl
        have hpos : 0 < ds.length := List.length_pos_iff.mpr h0
        have I9 : Inn (G.over h₅ al₅ L) (sN 9 0) qn9 f [(Str.ofString "n", L + 2), (Str.ofString "inner", L + 3), (Str.ofString "digits", L + 1)] doc pm' cv ctv jj := ⟨hobj, hcode, ⟨_, rfl, hself⟩⟩
        have c1 := inner9 (d := d + (60 - ds.length)) ok5 I9 hn ⟨_, _, rfl, cn5⟩ ⟨_, _, rfl, cd5, vd⟩ hds (by (first | lia | omega)) tj hi₁ ds.length 0 ds.length (by (first | lia | omega)) hpos (by (first | lia | omega))
        rw [show d + (60 - ds.length) + ds.length = d + 60 by (first | lia | omega)] at c1
        have lenE : CallT (G.over h₅ al₅ L) (d + 60) (.ext (.builtin "len")) [.ref id] H₁ (.int (ds.length : Int)) H₁ := by
          have := CallT.len (G := G.over h₅ al₅ L) (d := d + 60) hi₁ (by simp; (first | lia | omega))
          simpa using this
        obtain ⟨fo, hfo, hfd⟩ := hobj
        exact ⟨_, Ex.one (Ex1.ret (Ev.ifT (Et.val evd (he ▸ Tru.list hi₁ (by simp; (first | lia | omega)))) (Ev.call (Ev.cellv (a := .ext (.ref f)) hE (.inl rfl) rfl hself fun _ _ => rfl)
          (Evs.cons Ev.cInt (Evs.cons (Ev.call (Ev.bltin ok5 hE P.n_len P.b_len) (Evs.cons evd Evs.nil) Cal.bltin lenE) Evs.nil)) (Cal.fn hfo hfd) c1)))⟩
    · intro flow s' ext R' F' keep dom new hg hos
      obtain ⟨v, rfl, hv⟩ := F'
      refine K v s' ext R' hv ⟨fun b o hb e => ?_, fun b e => dom b (S01.dom b e), fun a ha => ?_, hg.trans S01.gens, hos.trans S01.os⟩
      · have hlt : b < L := by rw [← hL]; exact Heap.lt_size e
        exact keep b o hb (Nat.ne_of_lt hlt) (Nat.ne_of_lt (Nat.lt_of_lt_of_le hlt (Nat.le_add_right _ 3))) (keep1 b o e)
      · have q : s₁.heap.get? a = none := new a ha
        cases e : s.heap.get? a with
        | none => rfl
        | some o => rw [keep1 a o e] at q; cases q
end
end Mine

namespace Mine
open PySem PySem.W

section
variable {G : Gd} {d : Nat} {env : Env} {r r' : LV} {H : List AO}
def ns6 : List Str := ["a", "b", "n", "pad", "half_n", "mask", "b1", "b2", "q1", "r", "q2"]
theorem div2n1n_spec (P : Prog G) {a b n : Int} (hb : b ≠ 0) (hb' : b.natAbs < 1073741824) (hn : ((Builtin.Int.intBits a : Nat) : Int) - n ≤ 4000) :
    CallT G (d + 1) (.ext (.ref 43)) [.int a, .int b, .int n] H (.ref H.length) (H ++ [.tup [.int (a.fdiv b), .int (a.fmod b)]]) := by
  obtain ⟨pm, cd, F⟩ := P.fn (ns := ns6) P.f_div2n1n (by decide) (by decide) (by decide) (by decide) rfl rfl rfl
  refine CallT.def (ps := [("a", .int a), ("b", .int b), ("n", .int n)]) (ls := [("pad", .unset), ("half_n", .unset), ("mask", .unset), ("b1", .unset), ("b2", .unset), ("q1", .unset), ("r", .unset), ("q2", .unset)]) (f := .ret (.ref H.length)) P.ok F (Binds.plain (names := ["a", "b", "n"]) rfl ?_) rfl (fun p h => ?_) fun L hE => ?_
  · exact len3 fun _ _ _ => rfl
  · simp only [List.mem_cons, List.not_mem_nil, or_false] at h
    rcases h with rfl | rfl | rfl | rfl | rfl | rfl | rfl | rfl <;> rfl
  · have hc : decide (((Builtin.Int.intBits a : Nat) : Int) - n ≤ 4000) = true := decide_eq_true hn
    exact ⟨_, Ex.stop (Ex1.ifT (Et.cmp (Ev.bin (Ev.meth (Ev.loc hE at0) IsT.int meth_bitlen Evs.nil CallT.bitlen) (Ev.loc hE at2) Opr.sub) (Ev.globInt P hE P.g_DIV_LIMIT) (hc ▸ Opr.le)) (Ex.one (Ex1.ret (Ev.call (Ev.bltin P.ok hE P.n_divmod P.b_divmod) (Evs.cons (Ev.loc hE at0) (Evs.cons (Ev.loc hE at1) Evs.nil)) Cal.bltin (CallT.divmod hb hb'))))) (by intro e; cases e)⟩

/-- the long division: what is left and the figures, from the highest on -/
def divStep (b n : Nat) : Nat → List Int → List Int → Nat × List Int
  | r, qs, [] => (r, qs)
  | r, qs, x :: xs => divStep b n ((r * 2 ^ n + x.toNat) % b) (qs ++ [(((r * 2 ^ n + x.toNat) / b : Nat) : Int)]) xs

abbrev env10 (pm cd : Value) (L : Addr) : Env := callEnv (mkFd 10 "_divmod_pos" "_divmod_pos" .none pm cd) L 71
abbrev lv10 (a b n a_digits r q_digits a_digit q_digit q : AV) : LV := [("a", a), ("b", b), ("n", n), ("a_digits", a_digits), ("r", r), ("q_digits", q_digits), ("a_digit", a_digit), ("q_digit", q_digit), ("q", q)]
def ns10 : List Str := ["a", "b", "n", "a_digits", "r", "q_digits", "a_digit", "q_digit", "q"]

theorem div_loop (P : Prog G) {pm cd : Value} {b n ia iq : Nat} {da : List AV} {a : AV} (hb : 0 < b) (hb' : b < 2 ^ 29) (hn : n ≤ 64) (hne : iq ≠ ia) {H0 : List AO} (hlo : H0.length ≤ iq) :
    ∀ (xs : List Int) (r : Nat) (qs : List Int) (x y z : AV) {K : List AO}, (∀ v ∈ xs, 0 ≤ v ∧ v < 2 ^ 60) → r < b → qs.length + xs.length ≤ 1000 → K[ia]? = some (.list da) → K[iq]? = some (.list (qs.map .int)) → Grow H0 K →
      ∃ x' y' K', (∀ L, EnvOK G (env10 pm cd L) → Loop (Turn G (d + 1) (env10 pm cd L) (forT (sN 10 4)) (forB (sN 10 4)) fun K => K[ia]? = some (.list da)) (xs.map .int) (lv10 a (.int b) (.int n) (.ref ia) (.int r) (.ref iq) x y z) K .next
        (lv10 a (.int b) (.int n) (.ref ia) (.int (divStep b n r qs xs).1) (.ref iq) x' y' z) K') ∧ K'[iq]? = some (.list ((divStep b n r qs xs).2.map .int)) ∧ Grow H0 K'
  | [], r, qs, x, y, z, K, _, _, _, hia, hiq, g => ⟨x, y, K, fun _ _ => .nil, hiq, g⟩
  | v :: xs, r, qs, x, y, z, K, hv, hr, hl, hia, hiq, g => by
    obtain ⟨hv0, hv1⟩ := hv v (by simp)
    have hvn : ((v.toNat : Nat) : Int) = v := by (first | lia | omega)
    generalize hw : v.toNat = w at hvn
    have hw60 : w < 2 ^ 60 := by (first | lia | omega)
    have hX : ((r : Int) * 2 ^ (n : Int).toNat) + v = ((r * 2 ^ n + w : Nat) : Int) := by rw [← hvn, Int.toNat_natCast]; push_cast; rfl
    have hXb : r * 2 ^ n + w < 2 ^ 94 := by
      have : r * 2 ^ n ≤ 2 ^ 29 * 2 ^ 64 := Nat.mul_le_mul (by (first | lia | omega)) (Nat.pow_le_pow_right (by (first | lia | omega)) hn)
      rw [← Nat.pow_add] at this
      (first | lia | omega)
    have hbits : Builtin.Int.intBits ((r * 2 ^ n + w : Nat) : Int) ≤ 94 := intBits_le_iff.mpr (by rw [Int.natAbs_natCast]; exact hXb)
    have hrb : Builtin.Int.intBits (r : Int) ≤ 30 := intBits_le_iff.mpr (by rw [Int.natAbs_natCast]; (first | lia | omega))
    have e1 : ((r * 2 ^ n + w : Nat) : Int).fdiv (b : Int) = (((r * 2 ^ n + w) / b : Nat) : Int) := by rw [Int.fdiv_eq_ediv_of_nonneg _ (by (first | lia | omega))]; exact (Int.natCast_ediv _ _).symm
    have e2 : ((r * 2 ^ n + w : Nat) : Int).fmod (b : Int) = (((r * 2 ^ n + w) % b : Nat) : Int) := by rw [Int.fmod_eq_emod_of_nonneg _ (by (first | lia | omega))]; exact (Int.natCast_emod _ _).symm
    have c1 := div2n1n_spec (d := d) (H := K) P (a := ((r * 2 ^ n + w : Nat) : Int)) (b := (b : Int)) (n := (n : Int)) (by (first | lia | omega)) (by rw [Int.natAbs_natCast]; (first | lia | omega)) (by (first | lia | omega))
    rw [e1, e2] at c1
    have hdv : divStep b n r qs (v :: xs) = divStep b n ((r * 2 ^ n + w) % b) (qs ++ [(((r * 2 ^ n + w) / b : Nat) : Int)]) xs := by rw [divStep, hw]
    rw [hdv]
    generalize hq : (r * 2 ^ n + w) / b = q at *
    have hr' : (r * 2 ^ n + w) % b < b := Nat.mod_lt _ hb
    generalize hr2 : (r * 2 ^ n + w) % b = r2 at *
    generalize hK1 : K ++ [AO.tup [AV.int (q : Int), AV.int (r2 : Int)]] = K1 at c1
    have g1 : Grow K K1 := hK1 ▸ Grow.push
    have q1 : K1[K.length]? = some (AO.tup [AV.int (q : Int), AV.int (r2 : Int)]) := hK1 ▸ get_last
    have ap : CallT G (d + 1) (.ext (.builtin "list.append")) [.ref iq, .int (q : Int)] K1 .none (K1.set iq (.list ((qs ++ [(q : Int)]).map .int))) := by
      have := CallT.append (G := G) (d := d + 1) (y := .int (q : Int)) (g1.get hiq) (by simp; simp at hl; (first | lia | omega))
      simpa using this
    have g2 : Grow H0 (K1.set iq (.list ((qs ++ [(q : Int)]).map .int))) := (g.trans g1).set hlo
    have hia2 : (K1.set iq (.list ((qs ++ [(q : Int)]).map .int)))[ia]? = some (.list da) := by rw [List.getElem?_set_ne hne]; exact g1.get hia
    have hiq2 : (K1.set iq (AO.list ((qs ++ [(q : Int)]).map AV.int)))[iq]? = some (.list ((qs ++ [(q : Int)]).map .int)) := get_set (g1.get hiq)
    obtain ⟨x', y', K', lp, h1, h2⟩ := div_loop P (pm := pm) (cd := cd) (n := n) (da := da) (a := a) hb hb' hn hne hlo xs r2 (qs ++ [(q : Int)]) (.int v) (.int q) z (fun u hu => hv u (List.mem_cons_of_mem _ hu)) hr' (by simp; simp at hl; (first | lia | omega)) hia2 hiq2 g2
    refine ⟨x', y', K', fun L hE => .next ⟨_, _, Asg.name hE pt6, Ex.cons (Ex1.assignTup (xs := ["q_digit", "r"]) (r' := lv10 a (.int b) (.int n) (.ref ia) (.int r2) (.ref iq) (.int v) (.int q) z) hE (Ev.call (Ev.fn P hE P.g_div2n1n)
      (Evs.cons (Ev.bin (Ev.bin (Ev.loc hE at4) (Ev.loc hE at2) (Opr.shl (by (first | lia | omega)) (by (first | lia | omega)))) (Ev.loc hE at6) (hX ▸ Opr.add)) (Evs.cons (Ev.loc hE at1) (Evs.cons (Ev.loc hE at2) Evs.nil))) P.f_div2n1n.cal c1) (Unp.tup q1) (.cons (.cons .nil)) (.cons pt7 (.cons pt4 .nil)))
      (Ex.one (Ex1.expr hE (Ev.meth (Ev.loc hE at5) (IsT.list (g1.get hiq)) meth_append (Evs.cons (Ev.loc hE at7) Evs.nil) ap))), hia2⟩ (lp L hE), h1, h2⟩

theorem put_bound (n B : Nat) : ∀ (fuel x L R : Nat) (ds : List Int), x < B → (∀ v ∈ ds, 0 ≤ v ∧ v < B) → ∀ v ∈ put n fuel x L R ds, 0 ≤ v ∧ v < B
  | 0, _, _, _, _, _, h => h
  | fuel + 1, x, L, R, ds, hx, h => by
    unfold put
    split
    · intro v hv
      rcases List.mem_or_eq_of_mem_set hv with hv | rfl
      · exact h v hv
      · (first | lia | omega)
    · exact put_bound n B fuel _ _ _ _ (Nat.lt_of_le_of_lt (Nat.div_le_self _ _) hx) (put_bound n B fuel _ _ _ _ (Nat.lt_of_le_of_lt (Nat.mod_le _ _) hx) h)
theorem digits_bound {x n B : Nat} (hx : x < B) : ∀ v ∈ digits x n, 0 ≤ v ∧ v < B := by
  have h0 : ∀ v ∈ List.replicate (mOf x n) (0 : Int), 0 ≤ v ∧ v < B := fun v hv => by
    rw [List.mem_replicate] at hv; (first | lia | omega)
  unfold digits
  split
  · exact h0
  · exact put_bound n B _ _ _ _ _ hx h0
theorem digits_len (x n : Nat) : (digits x n).length = mOf x n := by
  unfold digits
  split
  · simp
  · rw [put_len]; simp
theorem divStep_len (b n : Nat) : ∀ (xs : List Int) (r : Nat) (qs : List Int), (divStep b n r qs xs).2.length = qs.length + xs.length
  | [], r, qs => by simp [divStep]
  | x :: xs, r, qs => by rw [divStep, divStep_len b n xs]; simp; (first | lia | omega)
theorem divStep_bound (b n : Nat) (hb : 0 < b) (hb' : b < 2 ^ 29) (hn : n ≤ 30) : ∀ (xs : List Int) (r : Nat) (qs : List Int), r < b → (∀ v ∈ xs, 0 ≤ v ∧ v < ((2 ^ 60 : Nat) : Int)) → (∀ v ∈ qs, v.natAbs < 2 ^ 61) → ∀ v ∈ (divStep b n r qs xs).2, v.natAbs < 2 ^ 61
  | [], r, qs, _, _, h => h
  | x :: xs, r, qs, hr, hx, h => by
    rw [divStep]
    refine divStep_bound b n hb hb' hn xs _ _ (Nat.mod_lt _ hb) (fun v hv => hx v (List.mem_cons_of_mem _ hv)) fun v hv => ?_
    rcases List.mem_append.mp hv with hv | hv
    · exact h v hv
    · rw [List.mem_singleton.mp hv, Int.natAbs_natCast]
      have hx0 := hx x (by simp)
      have h1 : r * 2 ^ n ≤ 2 ^ 29 * 2 ^ 30 := Nat.mul_le_mul (by (first | lia | omega)) (Nat.pow_le_pow_right (by (first | lia | omega)) hn)
      rw [← Nat.pow_add] at h1
      exact Nat.lt_of_le_of_lt (Nat.div_le_self _ _) (by (first | lia | omega))

def quot (x b : Nat) : Int := let n := Builtin.Int.intBits (b : Int); let qs := (divStep b n 0 [] (digits x n).reverse).2.reverse; valD n qs qs.length 0 qs.length
def rem (x b : Nat) : Nat := (divStep b (Builtin.Int.intBits (b : Int)) 0 [] (digits x (Builtin.Int.intBits (b : Int))).reverse).1

theorem TabOK.growX0 {pos pos' : Pos} {qual qual' : Str} {H H' : List AO} (T : TabOK 0 pos qual H) (T1 : TabOK 1 pos' qual' H') (g : GrowX 1 H H') : TabOK 0 pos qual H' := by
  have hl : 2 ≤ H'.length := by
    rcases T1 with ⟨h2, _⟩ | ⟨j, h2, _, _, c⟩
    · exact h2
    · have := (List.getElem?_eq_some_iff.mp c).1; (first | lia | omega)
  rcases T with ⟨h2, T⟩ | ⟨j, h2, a, b, c⟩
  · exact .inl ⟨hl, g 0 _ (by (first | lia | omega)) T⟩
  · exact .inr ⟨j, h2, a, g 0 _ (by (first | lia | omega)) b, g j _ (by (first | lia | omega)) c⟩
theorem divmod_pos_spec (P : Prog G) {x b : Nat} (hx : x < 2 ^ 60) (hb : 0 < b) (hb' : b < 2 ^ 29) (T0 : TabOK 0 pos8 qn8 H) (T1 : TabOK 1 pos9 qn9 H) :
    ∃ i H', CallT G (d + 60 + 1 + 1) (.ext (.ref 71)) [.int (x : Int), .int (b : Int)] H (.ref i) H' ∧ H'[i]? = some (.tup [.int (quot x b), .int (rem x b : Nat)]) ∧ TabOK 0 pos8 qn8 H' ∧ TabOK 1 pos9 qn9 H' := by
  obtain ⟨pm, cd, F⟩ := P.fn (ns := ns10) P.f_divmod_pos (by decide) (by decide) (by decide) (by decide) rfl rfl rfl
  have hnb : Builtin.Int.intBits (b : Int) ≤ 29 := intBits_le_iff.mpr (by rw [Int.natAbs_natCast]; exact hb')
  have hn1 : 1 ≤ Builtin.Int.intBits (b : Int) := by
    cases hq : Builtin.Int.intBits (b : Int) with
    | zero =>
      have := intBits_le_iff.mp (show Builtin.Int.intBits (b : Int) ≤ 0 by (first | lia | omega))
      rw [Int.natAbs_natCast] at this; (first | lia | omega)
    | succ q => (first | lia | omega)
  have hqe : quot x b = valD (Builtin.Int.intBits (b : Int)) (divStep b (Builtin.Int.intBits (b : Int)) 0 [] (digits x (Builtin.Int.intBits (b : Int))).reverse).2.reverse (divStep b (Builtin.Int.intBits (b : Int)) 0 [] (digits x (Builtin.Int.intBits (b : Int))).reverse).2.reverse.length 0 (divStep b (Builtin.Int.intBits (b : Int)) 0 [] (digits x (Builtin.Int.intBits (b : Int))).reverse).2.reverse.length := rfl
  have hre : rem x b = (divStep b (Builtin.Int.intBits (b : Int)) 0 [] (digits x (Builtin.Int.intBits (b : Int))).reverse).1 := rfl
  generalize hn : Builtin.Int.intBits (b : Int) = n at *
  obtain ⟨i1, K1, c1, t0, gx, hi1⟩ := int2digits_spec (d := d) (H := H) P hx hn1 (by (first | lia | omega)) T0
  have t1 : TabOK 1 pos9 qn9 K1 := T1.growX rfl rfl gx
  generalize hK2 : K1 ++ [AO.list []] = K2
  have g2 : Grow K1 K2 := hK2 ▸ Grow.push
  have q2 : K2[K1.length]? = some (AO.list []) := hK2 ▸ get_last
  have hlt : i1 < K1.length := (List.getElem?_eq_some_iff.mp hi1).1
  have hdl : (digits x n).length ≤ 60 := by rw [digits_len]; exact mOf_le hx hn1
  have hdb : ∀ v ∈ (digits x n).reverse, 0 ≤ v ∧ v < ((2 ^ 60 : Nat) : Int) := fun v hv => digits_bound hx v (List.mem_reverse.mp hv)
  obtain ⟨x', y', K3, lp, hq3, g3⟩ := div_loop (d := d + 60) P (pm := pm) (cd := cd) (b := b) (n := n) (ia := i1) (iq := K1.length) (da := (digits x n).map .int) (a := .int (x : Int)) hb hb' (by (first | lia | omega)) (by (first | lia | omega)) (H0 := K1) (Nat.le_refl _) (digits x n).reverse 0 [] .unset .unset .unset (K := K2)
    (fun v hv => by have := hdb v hv; exact ⟨this.1, by (first | lia | omega)⟩) hb (by simp; (first | lia | omega)) (g2.get hi1) q2 g2
  have hql := divStep_len b n (digits x n).reverse 0 []
  have hqb := divStep_bound b n hb hb' (by (first | lia | omega)) (digits x n).reverse 0 [] hb hdb (fun v hv => by cases hv)
  generalize hdv : divStep b n 0 [] (digits x n).reverse = D at *
  have hql' : D.2.length ≤ 60 := by rw [hql]; simpa using hdl
  generalize hK4 : K3.set K1.length (.list (D.2.map AV.int).reverse) = K4
  have rv : CallT G (d + 60 + 1) (.ext (.builtin "list.reverse")) [.ref K1.length] K3 .none K4 := hK4 ▸ CallT.reverse hq3 (by simp; (first | lia | omega))
  have q4 : K4[K1.length]? = some (.list (D.2.reverse.map .int)) := by rw [← hK4, get_set hq3, List.map_reverse]
  have g4 : Grow K1 K4 := hK4 ▸ g3.set (Nat.le_refl _)
  obtain ⟨K5, c5, t5, gx5⟩ := digits2int_spec (d := d) (H := K4) P (n := n) (by (first | lia | omega)) (fun v hv => hqb v (List.mem_reverse.mp hv)) (by simpa using hql') q4 (t1.grow g4)
  rw [← hqe] at c5
  have hnI : CallT G (d + 60 + 1) (.ext (.builtin "int.bit_length")) [.int (b : Int)] H (.int (n : Int)) H := by rw [← hn]; exact CallT.bitlen
  refine ⟨K5.length, K5 ++ [.tup [.int (quot x b), .int (rem x b : Nat)]], CallT.def (ps := [("a", .int (x : Int)), ("b", .int (b : Int))]) (ls := [("n", .unset), ("a_digits", .unset), ("r", .unset), ("q_digits", .unset), ("a_digit", .unset), ("q_digit", .unset), ("q", .unset)]) (f := .ret (.ref K5.length)) P.ok F (Binds.plain (names := ["a", "b"]) rfl ?_) rfl (fun p h => ?_) fun L hE => ?_, get_last, (TabOK.growX0 (t0.grow g4) t5 gx5).push, t5.push⟩
  · exact len2 fun _ _ => rfl
  · simp only [List.mem_cons, List.not_mem_nil, or_false] at h
    rcases h with rfl | rfl | rfl | rfl | rfl | rfl | rfl <;> rfl
  · rw [hre]
    have lp' := lp L hE
    rw [List.map_reverse] at lp'
    exact ⟨_, Ex.cons (Ex1.assign hE (Ev.meth (Ev.loc hE at1) IsT.int meth_bitlen Evs.nil hnI) pt2) (Ex.cons (Ex1.assign hE (Ev.call (Ev.fn P hE P.g_int2digits) (Evs.cons (Ev.loc hE at0) (Evs.cons (Ev.loc hE at2) Evs.nil)) P.f_int2digits.cal c1) pt3)
      (Ex.cons (Ex1.assign hE Ev.cInt pt4) (Ex.cons (Ex1.assign hE (hK2 ▸ Ev.list Evs.nil (by simp)) pt5)
      (Ex.cons (Ex1.forIt (It.call (Ev.bltin P.ok hE P.n_reversed P.b_reversed) (Evs.cons (Ev.loc hE at3) Evs.nil) Cal.type (CallIt.reversed (g2.get hi1))) lp')
      (Ex.cons (Ex1.expr hE (Ev.meth (Ev.loc hE at5) (IsT.list hq3) meth_reverse Evs.nil rv))
      (Ex.cons (Ex1.assign hE (Ev.call (Ev.fn P hE P.g_digits2int) (Evs.cons (Ev.loc hE at5) (Evs.cons (Ev.loc hE at2) Evs.nil)) P.f_digits2int.cal c5) pt8)
      (Ex.one (Ex1.ret (Ev.tup (Evs.cons (Ev.loc hE at8) (Evs.cons (Ev.loc hE at4) Evs.nil)) (by simp))))))))))⟩

def ns11 : List Str := ["a", "b", "q", "r"]
theorem int_divmod_spec (P : Prog G) {x b : Nat} (hx : x < 2 ^ 60) (hb : 0 < b) (hb' : b < 2 ^ 29) (T0 : TabOK 0 pos8 qn8 H) (T1 : TabOK 1 pos9 qn9 H) :
    ∃ i H', CallT G (d + 60 + 1 + 1 + 1) (.ext (.ref 78)) [.int (x : Int), .int (b : Int)] H (.ref i) H' ∧ H'[i]? = some (.tup [.int (quot x b), .int (rem x b : Nat)]) ∧ TabOK 0 pos8 qn8 H' ∧ TabOK 1 pos9 qn9 H' := by
  obtain ⟨pm, cd, F⟩ := P.fn (ns := ns11) P.f_int_divmod (by decide) (by decide) (by decide) (by decide) rfl rfl rfl
  obtain ⟨i, H', c, hi, tt0, tt1⟩ := divmod_pos_spec (d := d) P hx hb hb' T0 T1
  refine ⟨i, H', CallT.def (ps := [("a", .int (x : Int)), ("b", .int (b : Int))]) (ls := [("q", .unset), ("r", .unset)]) (f := .ret (.ref i)) P.ok F (Binds.plain (names := ["a", "b"]) rfl ?_) rfl (fun p h => ?_) fun L hE => ?_, hi, tt0, tt1⟩
  · exact len2 fun _ _ => rfl
  · simp only [List.mem_cons, List.not_mem_nil, or_false] at h
    rcases h with rfl | rfl <;> rfl
  · have h1 : ((b : Int) == 0) = false := by simpa using (by (first | lia | omega) : ¬ (b : Int) = 0)
    have h2 : decide ((b : Int) < 0) = false := by simpa using (by (first | lia | omega) : ¬ (b : Int) < 0)
    have h3 : decide ((x : Int) < 0) = false := by simpa using (by (first | lia | omega) : ¬ (x : Int) < 0)
    exact ⟨_, Ex.one (Ex1.ifF (Et.cmp (Ev.loc hE at1) Ev.cInt (h1 ▸ Opr.eq)) (Ex.one (Ex1.ifF (Et.cmp (Ev.loc hE at1) Ev.cInt (h2 ▸ Opr.lt)) (Ex.one (Ex1.ifF (Et.cmp (Ev.loc hE at0) Ev.cInt (h3 ▸ Opr.lt))
      (Ex.one (Ex1.ret (Ev.call (Ev.fn P hE P.g_divmod_pos) (Evs.cons (Ev.loc hE at0) (Evs.cons (Ev.loc hE at1) Evs.nil)) P.f_divmod_pos.cal c))))))))⟩
end
end Mine

namespace Mine
open PySem PySem.W

/-! ## how often a sign stands in a str -/
def mk (xs : List Nat) : Str := ⟨xs.toArray⟩
theorem cnt_gen (s sub : Str) (h1 : sub.length = 1) (hi limit : Nat) : ∀ (m k : Nat) (st : Array Nat × Nat), st.snd ≤ k → st.fst.size + m ≤ limit →
    (forIn (List.range' k m) st (StrLaws.occBody s sub hi limit)).run.fst.size = st.fst.size + ((List.range' k m).filter fun i => decide (i + 1 ≤ hi) && Builtin.Str.subAt s sub i).length
  | 0, k, st, _, _ => by simp
  | m + 1, k, st, h, hl => by
    rw [List.range'_succ, List.forIn_cons]
    unfold StrLaws.occBody
    by_cases hc : k + 1 ≤ hi ∧ Builtin.Str.subAt s sub k = true
    · rw [if_pos ⟨⟨⟨by (first | lia | omega), h⟩, by rw [h1]; exact hc.1⟩, hc.2⟩]
      have := cnt_gen s sub h1 hi limit m (k + 1) (st.fst.push k, k + sub.length) (by rw [h1]; exact Nat.le_refl _) (by simp; (first | lia | omega))
      refine this.trans ?_
      rw [List.filter_cons_of_pos (by simp [hc.1, hc.2])]
      simp; (first | lia | omega)
    · rw [if_neg (fun x => hc ⟨by have := x.1.2; rw [h1] at this; exact this, x.2⟩)]
      have := cnt_gen s sub h1 hi limit m (k + 1) (st.fst, st.snd) (by show st.snd ≤ k + 1; (first | lia | omega)) (by show st.fst.size + m ≤ limit; (first | lia | omega))
      refine this.trans ?_
      rw [List.filter_cons_of_neg (by simpa using hc)]
theorem range_count (c : Nat) (xs : List Nat) : ∀ n, n ≤ xs.length → ((List.range' 0 n).filter fun i => xs[i]? == some c).length = (xs.take n).count c
  | 0, _ => by simp
  | n + 1, h => by
    have hn : xs[n]? = some xs[n] := List.getElem?_eq_getElem (by (first | lia | omega))
    rw [List.range'_concat, List.filter_append, List.length_append, range_count c xs n (by (first | lia | omega)), List.take_add_one, hn, List.count_append]
    simp only [Nat.one_mul, Nat.zero_add, Option.toList_some]
    congr 1
    by_cases hc : xs[n] = c
    · rw [List.filter_cons_of_pos (by rw [hn]; simp [hc])]; simp [hc]
    · rw [List.filter_cons_of_neg (by rw [hn]; simp [hc])]; simp [hc]
theorem subAt_mk (xs : List Nat) (c i : Nat) : (decide (i + 1 ≤ (mk xs).length) && Builtin.Str.subAt (mk xs) ⟨#[c]⟩ i) = (xs[i]? == some c) := by
  have hl : (mk xs).length = xs.length := by simp [mk, Str.length]
  rw [hl]
  by_cases hi : i < xs.length
  · have e : decide (i + 1 ≤ xs.length) = true := decide_eq_true hi
    rw [e, Bool.true_and]
    unfold Builtin.Str.subAt mk
    have h1 : (⟨#[c]⟩ : Str).length = 1 := rfl
    rw [h1]
    have hx : xs[i]? = some xs[i] := List.getElem?_eq_getElem hi
    have : (xs.toArray.extract i (i + 1)) = #[xs[i]] := by
      apply Array.ext'
      simp only [Array.toList_extract, List.extract]
      rw [List.drop_eq_getElem_cons hi, show i + 1 - i = 0 + 1 by (first | lia | omega), List.take_succ_cons, List.take_zero]
    simp only [this]
    rw [hx, Bool.eq_iff_iff]
    simp
  · have e : decide (i + 1 ≤ xs.length) = false := decide_eq_false (by (first | lia | omega))
    rw [e, Bool.false_and, List.getElem?_eq_none (by (first | lia | omega))]
    rfl
theorem count_mk (xs : List Nat) (c : Nat) : Txt.count (mk xs) ⟨#[c]⟩ = (xs.count c : Nat) := by
  unfold Txt.count
  rw [StrLaws.occ_eq, Array.length_toList, cnt_gen (mk xs) ⟨#[c]⟩ rfl (mk xs).length ((mk xs).length + 1) ((mk xs).length + 1 - 0) 0 (#[], 0) (Nat.le_refl _) (by simp)]
  have hl : (mk xs).length = xs.length := by simp [mk, Str.length]
  simp only [subAt_mk]
  rw [hl, show xs.length + 1 - 0 = xs.length + 1 by (first | lia | omega), List.range'_concat, List.filter_append, List.length_append, range_count c xs _ (Nat.le_refl _), List.take_length]
  simp

def ifE : Stmt → Expr
  | .If t _ _ _ => t
  | _ => .Constant .none 0 default
def elseB : Stmt → List Stmt
  | .If _ _ b _ => b
  | _ => []
/-! ## the word's machine -/
structure WS where
  xs : List Nat
  w0 : Int
  w1 : Int
def WS.w (s : WS) (k : Int) : Int := if k = 0 then s.w0 else s.w1
def WS.setw (s : WS) (k v : Int) : WS := if k = 0 then { s with w0 := v } else { s with w1 := v }
def WS.free (s : WS) : Bool := decide (((s.xs.count 40 : Nat) : Int) + ((s.xs.count 91 : Nat) : Int) < 5)
def WS.opens (s : WS) (v : Int) : Bool := s.free && (decide (v < 2) || s.w (v.fmod 2) == 0)
def WS.kind (s : WS) (k : Int) : Int := if (s.w k == 0) = true then 1 - k else k
def wstep (s : WS) (v : Int) : WS :=
  if s.opens v = true then { s.setw (v.fmod 2) (s.w (v.fmod 2) + 1) with xs := s.xs ++ [if v.fmod 2 = 0 then 40 else 91] }
  else { s.setw (s.kind (v.fmod 2)) (s.w (s.kind (v.fmod 2)) - 1) with xs := s.xs ++ [if s.kind (v.fmod 2) = 0 then 41 else 93] }
def WS.wl (s : WS) : List Int := [s.w0, s.w1]

theorem fmod2 (x : Int) : x.fmod 2 = 0 ∨ x.fmod 2 = 1 := by
  have h : x.fmod 2 = x % 2 := Int.fmod_eq_emod_of_nonneg x (by decide)
  (first | lia | omega)
theorem WS.wl_get {s : WS} {k : Int} (hk : k = 0 ∨ k = 1) : s.wl[k.toNat]? = some (s.w k) := by rcases hk with rfl | rfl <;> rfl
theorem WS.wl_set {s : WS} {k v : Int} (hk : k = 0 ∨ k = 1) : s.wl.set k.toNat v = (s.setw k v).wl := by rcases hk with rfl | rfl <;> rfl
theorem WS.kind_ok {s : WS} {k : Int} (hk : k = 0 ∨ k = 1) : s.kind k = 0 ∨ s.kind k = 1 := by
  unfold WS.kind; rcases hk with rfl | rfl <;> split <;> simp
theorem mk_app (xs : List Nat) (c : Nat) : mk xs ++ ⟨#[c]⟩ = mk (xs ++ [c]) := by
  show (⟨xs.toArray ++ #[c]⟩ : Str) = ⟨(xs ++ [c]).toArray⟩
  congr 1
  simp
theorem mk_len (xs : List Nat) : (mk xs).length = xs.length := by simp [mk, Str.length]

section
variable {G : Gd} {d : Nat} {env : Env} {r r' : LV} {H : List AO}
abbrev env68 (pm cd : Value) (L : Addr) : Env := callEnv (mkFd 68 "_law_word" "_law_word" .none pm cd) L 168
abbrev lv68 (cell word waiting figure kind free : AV) : LV := [("cell", cell), ("word", word), ("waiting", waiting), ("figure", figure), ("kind", kind), ("free", free)]
def ns68 : List Str := ["cell", "word", "waiting", "figure", "kind", "free"]
def for68 : Stmt := sN 68 2

theorem sign_at {x : Str} {a b : Nat} {k : Int} (hx : x = mk [a, b]) (hk : k = 0 ∨ k = 1) : Sub G d (.str x) (.int k) H (.str ⟨#[if k = 0 then a else b]⟩) H := by
  subst hx
  rcases hk with rfl | rfl
  · exact Sub.str (by decide) rfl
  · exact Sub.str (by decide) rfl
theorem cntE {env : Env} {pos apos p1 : Pos} {n1 : Nat} {c : Nat} {y : Str} {o : Expr} {xs : List Nat} (ho : Ev G d env o r H (.str (mk xs)) H) (hy : y = ⟨#[c]⟩) (hp : (apos.endLine == pos.line) = true) (hb : attributeBase o "count" env (eval o env) = eval o env) :
    Ev G d env (.Call (.Attribute o "count" apos) [.Constant (.str y) n1 p1] [] pos) r H (.int ((xs.count c : Nat) : Int)) H := by
  subst hy
  rw [← count_mk]
  exact Ev.meth ho IsT.str meth_count (Evs.cons Ev.cStr Evs.nil) CallT.count rfl (by simp) hp hb

theorem word_turn (P : Prog G) {pm cd : Value} {iw : Nat} {c : AV} {s : WS} {v : Int} {Ok : List AO → Prop} (hok : Ok (H.set iw (.list ((wstep s v).wl.map .int)))) (hw : H[iw]? = some (.list (s.wl.map .int))) (hl : s.xs.length ≤ 1000) (x y z : AV) :
    ∃ y' z', ∀ L, EnvOK G (env68 pm cd L) → Turn G d (env68 pm cd L) (forT for68) (forB for68) Ok (.int v) (lv68 c (.str (mk s.xs)) (.ref iw) x y z) H .next (lv68 c (.str (mk (wstep s v).xs)) (.ref iw) (.int v) y' z') (H.set iw (.list ((wstep s v).wl.map .int))) := by
  have hk := fmod2 v
  have hwg : (s.wl.map AV.int)[(v.fmod 2).toNat]? = some (.int (s.w (v.fmod 2))) := by simp [WS.wl_get hk]
  have k0 : 0 ≤ v.fmod 2 ∧ v.fmod 2 < 2 := by rcases hk with h | h <;> (first | lia | omega)
  have hfree : ∀ L, EnvOK G (env68 pm cd L) → ∀ {y : AV}, Ev G d (env68 pm cd L) (compE (nth (forB for68) 1)) (lv68 c (.str (mk s.xs)) (.ref iw) (.int v) y z) H (.bool s.free) H := fun L hE y =>
    Ev.cmp (Ev.bin (cntE (c := 40) (Ev.loc hE at1) rfl rfl rfl) (cntE (c := 91) (Ev.loc hE at1) rfl rfl rfl) Opr.add) Ev.cInt Opr.lt
  have htest : ∀ L, EnvOK G (env68 pm cd L) → Et G d (env68 pm cd L) (ifE (nth (forB for68) 2)) (lv68 c (.str (mk s.xs)) (.ref iw) (.int v) (.int (v.fmod 2)) (.bool s.free)) H (s.opens v) H := fun L hE =>
    Et.and (Et.val (Ev.loc hE at5) Tru.bool) (fun _ => Et.or (Et.cmp (Ev.loc hE at3) Ev.cInt Opr.lt) (fun _ => Et.cmp (Ev.sub (Ev.loc hE at2) (Ev.loc hE at4) (Sub.list hw k0.1 hwg (by (first | lia | omega)))) Ev.cInt Opr.eq) (fun _ => rfl)) (fun _ => rfl)
  have wset : ∀ {k w : Int}, (k = 0 ∨ k = 1) → (s.wl.map AV.int).set k.toNat (.int w) = (s.setw k w).wl.map AV.int := fun hk => by rw [← WS.wl_set hk, List.map_set]
  by_cases ho : s.opens v = true
  · have e1 : (wstep s v).xs = s.xs ++ [if v.fmod 2 = 0 then 40 else 91] := by unfold wstep; rw [if_pos ho]
    have e2 : (wstep s v).wl = (s.setw (v.fmod 2) (s.w (v.fmod 2) + 1)).wl := by unfold wstep; rw [if_pos ho]; rfl
    refine ⟨.int (v.fmod 2), .bool s.free, fun L hE => ⟨_, _, Asg.name hE pt3, Ex.cons (Ex1.assign hE (Ev.bin (Ev.loc hE at3) Ev.cInt (Opr.mod (by decide))) pt4) (Ex.cons (Ex1.assign hE (hfree L hE) pt5) (Ex.one (Ex1.ifT (ho ▸ htest L hE) (Ex.cons (Ex1.aug hE at1 (Ev.sub Ev.cStr (Ev.loc hE at4) (sign_at (a := 40) (b := 91) rfl hk)) (Opr.iaddS (by rw [mk_len]; show _ + 1 ≤ _; (first | lia | omega))) (mk_app s.xs _ ▸ e1 ▸ pt1))
      (Ex.one (Ex1.augSub (Ev.loc hE at2) (Ev.loc hE at4) (Gets.list hw k0.1 hwg (by (first | lia | omega))) Ev.cInt Opr.iadd (e2 ▸ wset hk ▸ Stores.list hw k0.1 (by simp [WS.wl]; (first | lia | omega)) (by (first | lia | omega))))))))), hok⟩⟩
  · have hof : s.opens v = false := by simpa using ho
    have hk' := WS.kind_ok (s := s) hk
    have e1 : (wstep s v).xs = s.xs ++ [if s.kind (v.fmod 2) = 0 then 41 else 93] := by unfold wstep; rw [if_neg ho]
    have e2 : (wstep s v).wl = (s.setw (s.kind (v.fmod 2)) (s.w (s.kind (v.fmod 2)) - 1)).wl := by unfold wstep; rw [if_neg ho]; rfl
    have hif : ∀ L, EnvOK G (env68 pm cd L) → Ex1 G d (env68 pm cd L) (nth (elseB (nth (forB for68) 2)) 0) (lv68 c (.str (mk s.xs)) (.ref iw) (.int v) (.int (v.fmod 2)) (.bool s.free)) H .next (lv68 c (.str (mk s.xs)) (.ref iw) (.int v) (.int (s.kind (v.fmod 2))) (.bool s.free)) H := fun L hE => by
      cases hb : (s.w (v.fmod 2) == 0) with
      | true =>
        have ek : s.kind (v.fmod 2) = 1 - v.fmod 2 := by unfold WS.kind; rw [if_pos hb]
        rw [ek]
        exact Ex1.ifT (Et.cmp (Ev.sub (Ev.loc hE at2) (Ev.loc hE at4) (Sub.list hw k0.1 hwg (by (first | lia | omega)))) Ev.cInt (hb ▸ Opr.eq)) (Ex.one (Ex1.assign hE (Ev.bin Ev.cInt (Ev.loc hE at4) Opr.sub) pt4))
      | false =>
        have ek : s.kind (v.fmod 2) = v.fmod 2 := by unfold WS.kind; rw [if_neg (by rw [hb]; simp)]
        rw [ek]
        exact Ex1.ifF (Et.cmp (Ev.sub (Ev.loc hE at2) (Ev.loc hE at4) (Sub.list hw k0.1 hwg (by (first | lia | omega)))) Ev.cInt (hb ▸ Opr.eq)) Ex.nil
    generalize s.kind (v.fmod 2) = k' at *
    have k0' : 0 ≤ k' ∧ k' < 2 := by rcases hk' with h | h <;> (first | lia | omega)
    have hwg' : (s.wl.map AV.int)[k'.toNat]? = some (.int (s.w k')) := by simp [WS.wl_get hk']
    exact ⟨.int k', .bool s.free, fun L hE => ⟨_, _, Asg.name hE pt3, Ex.cons (Ex1.assign hE (Ev.bin (Ev.loc hE at3) Ev.cInt (Opr.mod (by decide))) pt4) (Ex.cons (Ex1.assign hE (hfree L hE) pt5) (Ex.one (Ex1.ifF (hof ▸ htest L hE) (Ex.cons (hif L hE)
      (Ex.cons (Ex1.aug hE at1 (Ev.sub Ev.cStr (Ev.loc hE at4) (sign_at (a := 41) (b := 93) rfl hk')) (Opr.iaddS (by rw [mk_len]; show _ + 1 ≤ _; (first | lia | omega))) (mk_app s.xs _ ▸ e1 ▸ pt1))
      (Ex.one (Ex1.augSub (Ev.loc hE at2) (Ev.loc hE at4) (Gets.list hw k0'.1 hwg' (by (first | lia | omega))) Ev.cInt Opr.isub (e2 ▸ wset hk' ▸ Stores.list hw k0'.1 (by simp [WS.wl]; (first | lia | omega)) (by (first | lia | omega)))))))))), hok⟩⟩

theorem wstep_len (s : WS) (v : Int) : (wstep s v).xs.length = s.xs.length + 1 := by
  unfold wstep; split <;> simp
def wrun (s : WS) (vs : List Int) : WS := vs.foldl wstep s
theorem word_loop (P : Prog G) {pm cd : Value} {iw : Nat} {c : AV} {Ok : List AO → Prop} {K0 : List AO} (hOk : ∀ K, (∀ i, i ≠ iw → K[i]? = K0[i]?) → Ok K) : ∀ (vs : List Int) (s : WS) (x y z : AV) {K : List AO}, (∀ i, i ≠ iw → K[i]? = K0[i]?) → K[iw]? = some (.list (s.wl.map .int)) → s.xs.length + vs.length ≤ 1000 →
    ∃ x' y' z' K', (∀ L, EnvOK G (env68 pm cd L) → Loop (Turn G d (env68 pm cd L) (forT for68) (forB for68) Ok) (vs.map .int) (lv68 c (.str (mk s.xs)) (.ref iw) x y z) K .next (lv68 c (.str (mk (wrun s vs).xs)) (.ref iw) x' y' z') K') ∧ (∀ i, i ≠ iw → K'[i]? = K0[i]?)
  | [], s, x, y, z, K, g, _, _ => ⟨x, y, z, K, fun _ _ => .nil, g⟩
  | v :: vs, s, x, y, z, K, g, hw, hl => by
    simp only [List.length_cons] at hl
    have g1 : ∀ i, i ≠ iw → (K.set iw (.list ((wstep s v).wl.map AV.int)))[i]? = K0[i]? := fun i hi => (List.getElem?_set_ne (Ne.symm hi)).trans (g i hi)
    obtain ⟨y1, z1, t⟩ := word_turn (d := d) (pm := pm) (cd := cd) (c := c) (v := v) P (hOk _ g1) hw (by (first | lia | omega)) x y z
    obtain ⟨x', y', z', K', lp, g'⟩ := word_loop P (pm := pm) (cd := cd) (c := c) hOk vs (wstep s v) (.int v) y1 z1 g1 (get_set hw) (by rw [wstep_len]; (first | lia | omega))
    exact ⟨x', y', z', K', fun L hE => .next (t L hE) (lp L hE), g'⟩

def ws0 : WS := ⟨[40, 91], 1, 1⟩
def figs (c : Int) : List Int := (digits (c.fmod 65536 + 65536).toNat 2).take 8
theorem word_spec (P : Prog G) (c : Int) (T0 : TabOK 0 pos8 qn8 H) :
    ∃ H', CallT G (d + 60 + 1 + 1) (.ext (.ref 168)) [.int c] H (.str (mk (wrun ws0 (figs c)).xs)) H' ∧ TabOK 0 pos8 qn8 H' ∧ GrowX 0 H H' := by
  obtain ⟨pm, cd, F⟩ := P.fn (ns := ns68) P.f_law_word (by decide) (by decide) (by decide) (by decide) rfl rfl rfl
  obtain ⟨m0, m1, m2⟩ := fmod_nat c 65536 (by decide)
  have hX : c.fmod 65536 + 65536 = (((c.fmod 65536 + 65536).toNat : Nat) : Int) := by (first | lia | omega)
  have hXb : (c.fmod 65536 + 65536).toNat < 2 ^ 60 := by (first | lia | omega)
  unfold figs
  generalize hXd : (c.fmod 65536 + 65536).toNat = X at *
  generalize hH1 : H ++ [AO.list [AV.int 1, AV.int 1]] = H1
  have g1 : Grow H H1 := hH1 ▸ Grow.push
  have q1 : H1[H.length]? = some (.list (ws0.wl.map .int)) := hH1 ▸ get_last
  obtain ⟨i, K1, c1, t1, gx, hi⟩ := int2digits_spec (d := d) (H := H1) P (x := X) (n := 2) hXb (by (first | lia | omega)) (by (first | lia | omega)) (T0.grow g1)
  generalize hds : digits X 2 = ds at *
  have hz : ds.length ≤ 60 := by rw [← hds, digits_len]; exact mOf_le hXb (by (first | lia | omega))
  generalize hK2 : K1 ++ [AO.list (picks none (some 8) (ds.map AV.int))] = K2
  have g2 : Grow K1 K2 := hK2 ▸ Grow.push
  have hpk : picks none (some 8) ds = ds.take 8 := by
    unfold picks
    simp only [kms_lo, kms_hi, List.drop_zero, Nat.sub_zero]
    rw [if_neg (by decide)]
    show ds.take (min 8 ds.length) = _
    rw [List.take_eq_take_iff]
    (first | lia | omega)
  have q2 : K2[K1.length]? = some (.list ((ds.take 8).map .int)) := by rw [← hK2, picks_map, hpk]; exact get_last
  have hne0 : H.length ≠ 0 := by
    have := T0
    rcases T0 with ⟨h2, _⟩ | ⟨j, h2, _, _, h⟩
    · (first | lia | omega)
    · have := (List.getElem?_eq_some_iff.mp h).1; (first | lia | omega)
  have q3 : K2[H.length]? = some (.list (ws0.wl.map .int)) := g2.get (gx _ _ hne0 q1)
  have hlt : H.length < K1.length := (List.getElem?_eq_some_iff.mp (gx _ _ hne0 q1)).1
  obtain ⟨x', y', z', K3, lp, g3⟩ := word_loop (d := d + 60 + 1) P (pm := pm) (cd := cd) (c := .int c) (iw := H.length) (Ok := fun K => K[K1.length]? = some (.list ((ds.take 8).map .int))) (K0 := K2) (fun K h => (h _ (by (first | lia | omega))).trans q2) (ds.take 8) ws0 .unset .unset .unset (fun _ _ => rfl) q3 (by simp [ws0]; (first | lia | omega))
  have t2 : TabOK 0 pos8 qn8 K2 := t1.grow g2
  refine ⟨K3, CallT.def (ps := [("cell", .int c)]) (ls := [("word", .unset), ("waiting", .unset), ("figure", .unset), ("kind", .unset), ("free", .unset)]) (f := .ret (.str (mk (wrun ws0 (ds.take 8)).xs))) P.ok F (Binds.plain (names := ["cell"]) rfl ?_) rfl (fun p h => ?_) fun L hE => ?_, ?_, fun k y hk e => ?_⟩
  · exact len1 fun _ => rfl
  · simp only [List.mem_cons, List.not_mem_nil, or_false] at h
    rcases h with rfl | rfl | rfl | rfl | rfl <;> rfl
  · have hw0 : Str.ofString "([" = mk ws0.xs := by decide
    exact ⟨_, Ex.cons (Ex1.assign hE (hw0 ▸ Ev.cStr) pt1) (Ex.cons (Ex1.assign hE (hH1 ▸ Ev.list (Evs.cons Ev.cInt (Evs.cons Ev.cInt Evs.nil)) (by simp)) pt2)
      (Ex.cons (Ex1.forIt (It.list (hK2 ▸ Ev.sliceG (a := none) (b := some 8) (Ev.call (Ev.fn P hE P.g_int2digits) (Evs.cons (Ev.bin (Ev.bin (Ev.loc hE at0) Ev.cInt (Opr.mod (by decide))) Ev.cInt (hX ▸ Opr.add)) (Evs.cons Ev.cInt Evs.nil)) P.f_int2digits.cal c1) trivial Ev.cInt (Lst.at hi) (by simp; (first | lia | omega))) q2) (lp L hE))
        (Ex.one (Ex1.ret (Ev.loc hE at1)))))⟩
  · rcases t2 with ⟨h2, h⟩ | ⟨j, h2, a, b, e⟩
    · have e0 := (g3 0 (by (first | lia | omega))).trans h
      have e1 : H.length < K2.length := (List.getElem?_eq_some_iff.mp q3).1
      have e2 : K3[K1.length]? = _ := (g3 K1.length (by (first | lia | omega))).trans q2
      exact .inl ⟨by have := (List.getElem?_eq_some_iff.mp e2).1; (first | lia | omega), e0⟩
    · have hj : j ≠ H.length := fun x => by rw [x, q3] at e; cases e
      exact .inr ⟨j, h2, a, (g3 0 (by (first | lia | omega))).trans b, (g3 j hj).trans e⟩
  · have hkl := (List.getElem?_eq_some_iff.mp e).1
    exact (g3 k (by (first | lia | omega))).trans (g2.get (gx k y hk (g1.get e)))
end
end Mine

namespace Mine
open PySem PySem.W

/-! ## figures and their worth -/
def dv (n : Nat) : List Int → Int
  | [] => 0
  | d :: ds => d + 2 ^ n * dv n ds
theorem dv_app (n : Nat) : ∀ a b : List Int, dv n (a ++ b) = dv n a + 2 ^ (a.length * n) * dv n b
  | [], b => by simp [dv]
  | d :: a, b => by
    simp only [List.cons_append, dv, dv_app n a b, List.length_cons]
    rw [Nat.add_mul, Nat.one_mul, Nat.add_comm, Int.pow_add, Int.mul_add, Int.mul_assoc]
    (first | lia | omega)
def seg (ds : List Int) (L R : Nat) : List Int := (ds.drop L).take (R - L)
theorem seg_app (ds : List Int) {L M R : Nat} (h1 : L ≤ M) (h2 : M ≤ R) : seg ds L R = seg ds L M ++ seg ds M R := by
  unfold seg
  rw [show R - L = (M - L) + (R - M) by (first | lia | omega), List.take_add, List.drop_drop, show L + (M - L) = M by (first | lia | omega)]
theorem seg_len (ds : List Int) {L R : Nat} (h1 : L ≤ R) (h : R ≤ ds.length) : (seg ds L R).length = R - L := by
  unfold seg; simp; (first | lia | omega)
theorem seg_congr {a b : List Int} {L R : Nat} (h : ∀ i, L ≤ i → i < R → a[i]? = b[i]?) : seg a L R = seg b L R := by
  unfold seg
  apply List.ext_getElem?
  intro i
  by_cases hi : i < R - L
  · rw [List.getElem?_take_of_lt hi, List.getElem?_take_of_lt hi, List.getElem?_drop, List.getElem?_drop]
    exact h _ (by (first | lia | omega)) (by (first | lia | omega))
  · rw [List.getElem?_take_eq_none (by (first | lia | omega)), List.getElem?_take_eq_none (by (first | lia | omega))]
theorem seg_one {ds : List Int} {L : Nat} {v : Int} (h : ds[L]? = some v) : seg ds L (L + 1) = [v] := by
  unfold seg
  have hL := (List.getElem?_eq_some_iff.mp h).1
  rw [List.drop_eq_getElem_cons hL, show L + 1 - L = 0 + 1 by (first | lia | omega), List.take_succ_cons, List.take_zero]
  rw [List.getElem?_eq_getElem hL] at h
  rw [Option.some.inj h]

theorem put_out (n : Nat) : ∀ (fuel x L R : Nat) (ds : List Int), L < R → ∀ i, (i < L ∨ R ≤ i) → (put n fuel x L R ds)[i]? = ds[i]?
  | 0, _, _, _, _, _, _, _ => rfl
  | fuel + 1, x, L, R, ds, hLR, i, hi => by
    unfold put
    split
    · rw [List.getElem?_set_ne (by (first | lia | omega))]
    · rw [put_out n fuel _ _ _ _ (by (first | lia | omega)) i (by (first | lia | omega)), put_out n fuel _ _ _ _ (by (first | lia | omega)) i (by (first | lia | omega))]
theorem put_val (n : Nat) : ∀ (fuel x L R : Nat) (ds : List Int), R ≤ L + fuel → L < R → R ≤ ds.length → dv n (seg (put n fuel x L R ds) L R) = x
  | 0, _, _, _, _, h1, h2, _ => by (first | lia | omega)
  | fuel + 1, x, L, R, ds, h1, h2, h3 => by
    unfold put
    split
    · rename_i h
      subst h
      have : (ds.set L (x : Int))[L]? = some (x : Int) := by
        rw [List.getElem?_set_self (by (first | lia | omega))]
      rw [seg_one this]; simp [dv]
    · generalize hm : (L + R) / 2 = M
      have hm1 : L < M ∧ M < R := by (first | lia | omega)
      generalize hsh : (M - L) * n = sh
      have i1 := put_val n fuel (x % 2 ^ sh) L M ds (by (first | lia | omega)) hm1.1 (by (first | lia | omega))
      generalize hd1 : put n fuel (x % 2 ^ sh) L M ds = d1 at *
      have hl1 : d1.length = ds.length := by rw [← hd1, put_len]
      have i2 := put_val n fuel (x / 2 ^ sh) M R d1 (by (first | lia | omega)) hm1.2 (by (first | lia | omega))
      have ho := put_out n fuel (x / 2 ^ sh) M R d1 hm1.2
      generalize hd2 : put n fuel (x / 2 ^ sh) M R d1 = d2 at *
      have hl2 : d2.length = ds.length := by rw [← hd2, put_len, hl1]
      rw [seg_app d2 (Nat.le_of_lt hm1.1) (Nat.le_of_lt hm1.2), dv_app, seg_congr (a := d2) (b := d1) (L := L) (R := M) (fun i _ h => ho i (.inl h)), i1, i2, seg_len d1 (Nat.le_of_lt hm1.1) (by (first | lia | omega)), hsh]
      have := Nat.div_add_mod x (2 ^ sh)
      rw [Nat.add_comm] at this
      exact_mod_cast this
theorem seg_all (ds : List Int) : seg ds 0 ds.length = ds := by simp [seg]
theorem digits_val {x n : Nat} (hn : 1 ≤ n) : dv n (digits x n) = x := by
  have z : ∀ k, dv n (List.replicate k 0) = 0 := fun k => by
    induction k with
    | zero => rfl
    | succ k ih => simp [List.replicate_succ, dv, ih]
  unfold digits
  split
  · rename_i h; rw [z, h]; rfl
  · rename_i h
    have hm : 1 ≤ mOf x n := by
      unfold mOf
      have hb : 1 ≤ Builtin.Int.intBits (x : Int) := by
        cases hq : Builtin.Int.intBits (x : Int) with
        | zero =>
          have := intBits_le_iff.mp (show Builtin.Int.intBits (x : Int) ≤ 0 by (first | lia | omega))
          rw [Int.natAbs_natCast] at this; (first | lia | omega)
        | succ q => (first | lia | omega)
      exact (Nat.le_div_iff_mul_le (by (first | lia | omega))).mpr (by (first | lia | omega))
    have := put_val n (mOf x n) x 0 (mOf x n) (List.replicate (mOf x n) 0) (by (first | lia | omega)) (by (first | lia | omega)) (by simp)
    have hl : (put n (mOf x n) x 0 (mOf x n) (List.replicate (mOf x n) 0)).length = mOf x n := by rw [put_len]; simp
    have e := seg_all (put n (mOf x n) x 0 (mOf x n) (List.replicate (mOf x n) 0))
    rw [hl] at e
    rw [e] at this
    exact this
theorem valD_val (n : Nat) (ds : List Int) : ∀ (fuel L R : Nat), R ≤ L + fuel → L < R → R ≤ ds.length → valD n ds fuel L R = dv n (seg ds L R)
  | 0, _, _, h1, h2, _ => by (first | lia | omega)
  | fuel + 1, L, R, h1, h2, h3 => by
    unfold valD
    split
    · rename_i h
      subst h
      have hL : L < ds.length := by (first | lia | omega)
      have : ds[L]? = some (ds.getD L 0) := by simp [List.getD, hL]
      rw [seg_one this]; simp [dv]
    · generalize hm : (L + R) / 2 = M
      have hm1 : L < M ∧ M < R := by (first | lia | omega)
      rw [valD_val n ds fuel M R (by (first | lia | omega)) hm1.2 h3, valD_val n ds fuel L M (by (first | lia | omega)) hm1.1 (by (first | lia | omega)), seg_app ds (Nat.le_of_lt hm1.1) (Nat.le_of_lt hm1.2), dv_app, seg_len ds (Nat.le_of_lt hm1.1) (by (first | lia | omega)), Int.mul_comm, Int.add_comm]
theorem valD_all (n : Nat) (ds : List Int) : valD n ds ds.length 0 ds.length = dv n ds := by
  cases h : ds with
  | nil => rfl
  | cons d r =>
    rw [← h, valD_val n ds ds.length 0 ds.length (by (first | lia | omega)) (by rw [h]; simp) (Nat.le_refl _), seg_all]

/-- Horner -/
def horn (n : Nat) (a : Int) (xs : List Int) : Int := xs.foldl (fun acc d => acc * 2 ^ n + d) a
theorem horn_rev (n : Nat) : ∀ xs : List Int, horn n 0 xs.reverse = dv n xs
  | [] => rfl
  | d :: xs => by
    have ih := horn_rev n xs
    unfold horn at *
    rw [List.reverse_cons, List.foldl_append, ih]
    simp only [List.foldl_cons, List.foldl_nil, dv]
    rw [Int.mul_comm]; (first | lia | omega)
theorem divStep_val (b n : Nat) (hb : 0 < b) : ∀ (xs : List Int) (r : Nat) (qs : List Int) (Q : Int), r < b → (∀ v ∈ xs, 0 ≤ v) →
    ∃ qn, (divStep b n r qs xs).2 = qs ++ qn ∧ horn n ((b : Int) * Q + r) xs = (b : Int) * horn n Q qn + ((divStep b n r qs xs).1 : Nat) ∧ (divStep b n r qs xs).1 < b
  | [], r, qs, Q, hr, _ => ⟨[], by simp [divStep], by simp [horn, divStep], hr⟩
  | x :: xs, r, qs, Q, hr, hx => by
    have hx0 : 0 ≤ x := hx x (by simp)
    obtain ⟨qn, h1, h2, h3⟩ := divStep_val b n hb xs ((r * 2 ^ n + x.toNat) % b) (qs ++ [(((r * 2 ^ n + x.toNat) / b : Nat) : Int)]) (Q * 2 ^ n + ((r * 2 ^ n + x.toNat) / b : Nat)) (Nat.mod_lt _ hb) (fun v hv => hx v (List.mem_cons_of_mem _ hv))
    refine ⟨(((r * 2 ^ n + x.toNat) / b : Nat) : Int) :: qn, by rw [divStep, h1]; simp, ?_, by rw [divStep]; exact h3⟩
    rw [divStep]
    have e1 : horn n ((b : Int) * Q + r) (x :: xs) = horn n (((b : Int) * Q + r) * 2 ^ n + x) xs := rfl
    have e2 : horn n Q ((((r * 2 ^ n + x.toNat) / b : Nat) : Int) :: qn) = horn n (Q * 2 ^ n + (((r * 2 ^ n + x.toNat) / b : Nat) : Int)) qn := rfl
    rw [e1, e2, ← h2]
    congr 1
    have hdm := Nat.div_add_mod (r * 2 ^ n + x.toNat) b
    have hxn : ((x.toNat : Nat) : Int) = x := by (first | lia | omega)
    have : ((r : Int) * 2 ^ n + x) = (b : Int) * (((r * 2 ^ n + x.toNat) / b : Nat) : Int) + (((r * 2 ^ n + x.toNat) % b : Nat) : Int) := by
      rw [← hxn]; exact_mod_cast hdm.symm
    rw [Int.add_mul, Int.mul_add, Int.mul_assoc]
    (first | lia | omega)
theorem quot_rem {x b : Nat} (hb : 0 < b) : quot x b = ((x / b : Nat) : Int) ∧ rem x b = x % b := by
  have hn1 : 1 ≤ Builtin.Int.intBits (b : Int) := by
    cases hq : Builtin.Int.intBits (b : Int) with
    | zero =>
      have := intBits_le_iff.mp (show Builtin.Int.intBits (b : Int) ≤ 0 by (first | lia | omega))
      rw [Int.natAbs_natCast] at this; (first | lia | omega)
    | succ q => (first | lia | omega)
  unfold quot rem
  generalize Builtin.Int.intBits (b : Int) = n at *
  obtain ⟨qn, h1, h2, h3⟩ := divStep_val b n hb (digits x n).reverse 0 [] 0 hb (fun v hv => (digits_bound (Nat.lt_succ_self x) v (List.mem_reverse.mp hv)).1)
  rw [List.nil_append] at h1
  simp only [h1]
  rw [valD_all, ← horn_rev, List.reverse_reverse]
  have h0 : (b : Int) * 0 + ((0 : Nat) : Int) = 0 := by simp
  rw [h0, horn_rev, digits_val hn1] at h2
  generalize (divStep b n 0 [] (digits x n).reverse).1 = r at *
  generalize horn n 0 qn = Q at *
  have hQ : 0 ≤ Q := by
    rcases (show Q < 0 ∨ 0 ≤ Q by (first | lia | omega)) with h | h
    · have : (b : Int) * Q ≤ (b : Int) * (-1) := Int.mul_le_mul_of_nonneg_left (by (first | lia | omega)) (by (first | lia | omega))
      (first | lia | omega)
    · exact h
  obtain ⟨q, rfl⟩ := Int.eq_ofNat_of_zero_le hQ
  have h2' : x = b * q + r := by exact_mod_cast h2
  have e1 : x / b = q := by rw [h2', Nat.mul_add_div hb, Nat.div_eq_of_lt h3, Nat.add_zero]
  have e2 : x % b = r := by rw [h2', Nat.mul_add_mod, Nat.mod_eq_of_lt h3]
  exact ⟨by rw [e1], e2.symm⟩
end Mine

namespace Mine
open PySem PySem.W

/-! ## sums and products of the plane net's numbers -/
def oneE : E := (1, 0)
def zeroE : E := (0, 0)
def ofI (z : Int) : E := (z, 0)
theorem mulE_assoc (a b c : E) : mulE (mulE a b) c = mulE a (mulE b c) := by
  simp only [mulE, Prod.mk.injEq]
  constructor <;> grind
theorem mulE_comm (a b : E) : mulE a b = mulE b a := by
  simp only [mulE, Prod.mk.injEq]
  constructor <;> grind
theorem mulE_add (a b c : E) : mulE a (addE b c) = addE (mulE a b) (mulE a c) := by
  simp only [mulE, addE, Prod.mk.injEq]
  constructor <;> grind
theorem add_mulE (a b c : E) : mulE (addE a b) c = addE (mulE a c) (mulE b c) := by
  rw [mulE_comm, mulE_add, mulE_comm c a, mulE_comm c b]
theorem one_mulE (a : E) : mulE oneE a = a := by simp [mulE, oneE]
theorem mulE_one (a : E) : mulE a oneE = a := by rw [mulE_comm, one_mulE]
theorem zero_mulE (a : E) : mulE zeroE a = zeroE := by simp [mulE, zeroE]
theorem mulE_zero (a : E) : mulE a zeroE = zeroE := by rw [mulE_comm, zero_mulE]
theorem addE_assoc (a b c : E) : addE (addE a b) c = addE a (addE b c) := by simp [addE, Int.add_assoc]
theorem addE_comm (a b : E) : addE a b = addE b a := by simp [addE, Int.add_comm]
theorem addE_left (a b c : E) : addE a (addE b c) = addE b (addE a c) := by rw [← addE_assoc, addE_comm a b, addE_assoc]
theorem mulE_left (a b c : E) : mulE a (mulE b c) = mulE b (mulE a c) := by rw [← mulE_assoc, mulE_comm a b, mulE_assoc]
theorem zero_addE (a : E) : addE zeroE a = a := by simp [addE, zeroE]
theorem addE_zero (a : E) : addE a zeroE = a := by simp [addE, zeroE]
theorem addE_swap (a b c d : E) : addE (addE a b) (addE c d) = addE (addE a c) (addE b d) := by rw [addE_assoc, addE_assoc, addE_left b c d]

def sumE {α : Type} (l : List α) (f : α → E) : E := l.foldr (fun a s => addE (f a) s) zeroE
theorem sumE_nil {α : Type} (f : α → E) : sumE [] f = zeroE := rfl
theorem sumE_cons {α : Type} (a : α) (l : List α) (f : α → E) : sumE (a :: l) f = addE (f a) (sumE l f) := rfl
theorem sumE_app {α : Type} (l k : List α) (f : α → E) : sumE (l ++ k) f = addE (sumE l f) (sumE k f) := by
  induction l with
  | nil => rw [List.nil_append, sumE_nil, zero_addE]
  | cons a l ih => rw [List.cons_append, sumE_cons, sumE_cons, ih, addE_assoc]
theorem sumE_mul {α : Type} (c : E) (l : List α) (f : α → E) : sumE l (fun a => mulE c (f a)) = mulE c (sumE l f) := by
  induction l with
  | nil => rw [sumE_nil, sumE_nil, mulE_zero]
  | cons a l ih => rw [sumE_cons, sumE_cons, ih, mulE_add]
theorem sumE_add {α : Type} (l : List α) (f g : α → E) : sumE l (fun a => addE (f a) (g a)) = addE (sumE l f) (sumE l g) := by
  induction l with
  | nil => rw [sumE_nil, sumE_nil, sumE_nil, zero_addE]
  | cons a l ih => rw [sumE_cons, sumE_cons, sumE_cons, ih, addE_swap]
theorem sumE_congr {α : Type} {l : List α} {f g : α → E} (h : ∀ a ∈ l, f a = g a) : sumE l f = sumE l g := by
  induction l with
  | nil => rfl
  | cons a l ih => rw [sumE_cons, sumE_cons, h a (by simp), ih fun b hb => h b (List.mem_cons_of_mem _ hb)]

/-- over 0, 1, 2 -/
def S3 (f : Int → E) : E := addE (f 0) (addE (f 1) (f 2))
theorem S3_mul (c : E) (f : Int → E) : S3 (fun k => mulE c (f k)) = mulE c (S3 f) := by simp only [S3, mulE_add]
theorem S3_sum {α : Type} (l : List α) (f : α → Int → E) : sumE l (fun a => S3 (f a)) = S3 fun k => sumE l fun a => f a k := by
  simp only [S3, sumE_add]
theorem S3_congr {f g : Int → E} (h0 : f 0 = g 0) (h1 : f 1 = g 1) (h2 : f 2 = g 2) : S3 f = S3 g := by simp only [S3, h0, h1, h2]
/-- over all lists of n of 0, 1, 2 -/
def SK : Nat → (List Int → E) → E
  | 0, F => F []
  | n + 1, F => S3 fun k => SK n fun K => F (k :: K)
theorem SK_mul (c : E) : ∀ (n : Nat) (F : List Int → E), SK n (fun K => mulE c (F K)) = mulE c (SK n F)
  | 0, F => rfl
  | n + 1, F => by
    have : ∀ k, SK n (fun K => mulE c (F (k :: K))) = mulE c (SK n fun K => F (k :: K)) := fun k => SK_mul c n _
    simp only [SK, this, S3_mul]
theorem SK_sum {α : Type} (l : List α) : ∀ (n : Nat) (F : α → List Int → E), sumE l (fun a => SK n (F a)) = SK n fun K => sumE l fun a => F a K
  | 0, F => rfl
  | n + 1, F => by
    have : ∀ k, sumE l (fun a => SK n fun K => F a (k :: K)) = SK n fun K => sumE l fun a => F a (k :: K) := fun k => SK_sum l n _
    simp only [SK, S3_sum, this]
theorem SK_congr : ∀ (n : Nat) {F F' : List Int → E}, (∀ K, K.length = n → F K = F' K) → SK n F = SK n F'
  | 0, _, _, h => h [] rfl
  | n + 1, _, _, h => S3_congr (SK_congr n fun K hK => h _ (by simp [hK])) (SK_congr n fun K hK => h _ (by simp [hK])) (SK_congr n fun K hK => h _ (by simp [hK]))

/-- a product over ties and their marks -/
def PK {α : Type} (g : α → Int → E) : List α → List Int → E
  | a :: l, k :: K => mulE (g a k) (PK g l K)
  | _, _ => oneE
def prodE {α : Type} (g : α → E) : List α → E
  | [] => oneE
  | a :: l => mulE (g a) (prodE g l)
theorem prod_S3 {α : Type} (g : α → Int → E) : ∀ l : List α, prodE (fun a => S3 (g a)) l = SK l.length (PK g l)
  | [] => rfl
  | a :: l => by
    have : ∀ k, SK l.length (fun K => mulE (g a k) (PK g l K)) = mulE (g a k) (SK l.length (PK g l)) := fun k => SK_mul _ _ _
    simp only [prodE, prod_S3 g l, List.length_cons, SK, PK, this]
    simp only [S3, add_mulE]
theorem PK_mul {α : Type} (g h : α → Int → E) : ∀ (l : List α) (K : List Int), PK (fun a k => mulE (g a k) (h a k)) l K = mulE (PK g l K) (PK h l K)
  | [], _ => by simp only [PK, one_mulE]
  | a :: l, [] => by simp only [PK, one_mulE]
  | a :: l, k :: K => by
    simp only [PK, PK_mul g h l K]
    rw [mulE_assoc, mulE_left (h a k), ← mulE_assoc]

/-! ## rows of paints -/
theorem sum_paint (m : Nat) (F : List Int → E) : sumE (paint (m + 1)) F = sumE (paint m) fun x => S3 fun v => F (x ++ [v]) := by
  show sumE ((paint m).flatMap _) F = _
  generalize paint m = l
  induction l with
  | nil => rfl
  | cons x l ih =>
    rw [List.flatMap_cons, sumE_app, ih, sumE_cons]
    simp only [sumE_cons, sumE_nil, addE_zero, S3]

def Per (g : Int → E) : Prop := ∀ a b : Int, a % 3 = b % 3 → g a = g b
theorem S3_shift {g : Int → E} (h : Per g) (a : Int) : S3 (fun v => g (v - a)) = S3 g := by
  have h3 : a % 3 = 0 ∨ a % 3 = 1 ∨ a % 3 = 2 := by (first | lia | omega)
  simp only [S3]
  rcases h3 with h3 | h3 | h3
  · rw [h (0 - a) 0 (by (first | lia | omega)), h (1 - a) 1 (by (first | lia | omega)), h (2 - a) 2 (by (first | lia | omega))]
  · rw [h (0 - a) 2 (by (first | lia | omega)), h (1 - a) 0 (by (first | lia | omega)), h (2 - a) 1 (by (first | lia | omega)), addE_left, addE_comm (g 2) (g 1)]
  · rw [h (0 - a) 1 (by (first | lia | omega)), h (1 - a) 2 (by (first | lia | omega)), h (2 - a) 0 (by (first | lia | omega)), addE_comm (g 2) (g 0), addE_left]

/-- a row's place -/
def rowAt (x : List Int) (i : Nat) : Int := x.getD i 0
theorem rowAt_app {x : List Int} {v : Int} {i : Nat} (h : i < x.length) : rowAt (x ++ [v]) i = rowAt x i := by
  simp [rowAt, List.getD, List.getElem?_append_left h]
theorem rowAt_last {x : List Int} {v : Int} : rowAt (x ++ [v]) x.length = v := by simp [rowAt, List.getD]

/-- ties that lead each to a new place: the last one first; (from, weight) -/
def treeP : List (Nat × (Int → E)) → List Int → E
  | [], _ => oneE
  | (s, g) :: r, x => mulE (treeP r x) (g (rowAt x (r.length + 1) - rowAt x s))
def TreeOK : List (Nat × (Int → E)) → Prop
  | [] => True
  | (s, _) :: r => s ≤ r.length ∧ TreeOK r
theorem treeP_app : ∀ (r : List (Nat × (Int → E))) (x : List Int) (v : Int), TreeOK r → r.length < x.length → treeP r (x ++ [v]) = treeP r x
  | [], _, _, _, _ => rfl
  | (s, g) :: r, x, v, h, hl => by
    simp only [List.length_cons] at hl
    simp only [treeP]
    rw [treeP_app r x v h.2 (by (first | lia | omega)), rowAt_app (by (first | lia | omega)), rowAt_app (by have := h.1; (first | lia | omega))]
theorem tree_sum : ∀ r : List (Nat × (Int → E)), TreeOK r → (∀ p ∈ r, Per p.2) → sumE (paint r.length) (treeP r) = prodE (fun p => S3 p.2) r
  | [], _, _ => by simp [paint, sumE_cons, sumE_nil, treeP, prodE, addE_zero]
  | (s, g) :: r, h, hp => by
    rw [List.length_cons, sum_paint]
    have e : ∀ x ∈ paint r.length, (S3 fun v => treeP ((s, g) :: r) (x ++ [v])) = mulE (S3 g) (treeP r x) := fun x hx => by
      have hl := paint_row _ x hx
      have : ∀ v, treeP ((s, g) :: r) (x ++ [v]) = mulE (treeP r x) (g (v - rowAt x s)) := fun v => by
        simp only [treeP]
        rw [treeP_app r x v h.2 (by (first | lia | omega)), show r.length + 1 = x.length by (first | lia | omega), rowAt_last, rowAt_app (by have := h.1; (first | lia | omega))]
      simp only [this]
      rw [S3_mul, S3_shift (hp _ List.mem_cons_self), mulE_comm]
    rw [sumE_congr e, sumE_mul, tree_sum r h.2 fun p hp' => hp p (List.mem_cons_of_mem _ hp')]
    rfl

/-- one where the marks meet -/
def dl (z : Int) : E := if z % 3 = 0 then oneE else zeroE
/-- the one row that meets the marks: (from, mark), the last one first -/
def rowOf : List (Nat × Int) → List Int
  | [] => [0]
  | (s, k) :: r => let x := rowOf r; x ++ [(rowAt x s + k) % 3]
theorem rowOf_len : ∀ r : List (Nat × Int), (rowOf r).length = r.length + 1
  | [] => rfl
  | (s, k) :: r => by simp [rowOf, rowOf_len r]
theorem rowOf_mem : ∀ r : List (Nat × Int), rowOf r ∈ paint r.length
  | [] => by simp [rowOf, paint]
  | (s, k) :: r => by
    have h3 : (rowAt (rowOf r) s + k) % 3 = 0 ∨ (rowAt (rowOf r) s + k) % 3 = 1 ∨ (rowAt (rowOf r) s + k) % 3 = 2 := by (first | lia | omega)
    show _ ∈ (paint r.length).flatMap _
    rw [List.mem_flatMap]
    refine ⟨rowOf r, rowOf_mem r, ?_⟩
    simp only [rowOf]
    rcases h3 with h | h | h <;> rw [h] <;> simp
def treeD (r : List (Nat × Int)) (x : List Int) : E := treeP (r.map fun p => (p.1, fun d => dl (p.2 - d))) x
def TreeOK' : List (Nat × Int) → Prop
  | [] => True
  | (s, _) :: r => s ≤ r.length ∧ TreeOK' r
theorem treeOK_map {f : Int → Int → E} : ∀ r : List (Nat × Int), TreeOK' r → TreeOK (r.map fun p => (p.1, f p.2))
  | [], _ => trivial
  | (s, k) :: r, h => ⟨by simpa using h.1, treeOK_map r h.2⟩
theorem S3_dl (a : Int) (H : Int → E) : (S3 fun v => mulE (dl (a - v)) (H v)) = H (a % 3) := by
  have h3 : a % 3 = 0 ∨ a % 3 = 1 ∨ a % 3 = 2 := by (first | lia | omega)
  simp only [S3, dl]
  rcases h3 with h | h | h
  · rw [if_pos (by (first | lia | omega)), if_neg (by (first | lia | omega)), if_neg (by (first | lia | omega)), one_mulE, zero_mulE, zero_mulE, zero_addE, addE_zero, h]
  · rw [if_neg (by (first | lia | omega)), if_pos (by (first | lia | omega)), if_neg (by (first | lia | omega)), one_mulE, zero_mulE, zero_mulE, addE_zero, zero_addE, h]
  · rw [if_neg (by (first | lia | omega)), if_neg (by (first | lia | omega)), if_pos (by (first | lia | omega)), one_mulE, zero_mulE, zero_mulE, zero_addE, zero_addE, h]
theorem tree_pick : ∀ (r : List (Nat × Int)) (H : List Int → E), TreeOK' r → sumE (paint r.length) (fun x => mulE (treeD r x) (H x)) = H (rowOf r)
  | [], H, _ => by simp [paint, sumE_cons, sumE_nil, treeD, treeP, rowOf, addE_zero, one_mulE]
  | (s, k) :: r, H, h => by
    rw [List.length_cons, sum_paint]
    have e : ∀ x ∈ paint r.length, (S3 fun v => mulE (treeD ((s, k) :: r) (x ++ [v])) (H (x ++ [v]))) = mulE (treeD r x) (H (x ++ [(rowAt x s + k) % 3])) := fun x hx => by
      have hl := paint_row _ x hx
      have : ∀ v, mulE (treeD ((s, k) :: r) (x ++ [v])) (H (x ++ [v])) = mulE (treeD r x) (mulE (dl ((rowAt x s + k) - v)) (H (x ++ [v]))) := fun v => by
        have e1 : treeD ((s, k) :: r) (x ++ [v]) = mulE (treeD r x) (dl (k - (v - rowAt x s))) := by
          simp only [treeD, List.map_cons, treeP]
          rw [treeP_app _ x v (treeOK_map (f := fun k d => dl (k - d)) r h.2) (by simp; (first | lia | omega))]
          simp only [List.length_map]
          rw [show r.length + 1 = x.length by (first | lia | omega), rowAt_last, rowAt_app (by have := h.1; (first | lia | omega))]
        rw [e1, mulE_assoc, show k - (v - rowAt x s) = rowAt x s + k - v by (first | lia | omega)]
      simp only [this]
      rw [S3_mul, S3_dl]
    rw [sumE_congr e, tree_pick r (fun x => H (x ++ [(rowAt x s + k) % 3])) h.2]
    rfl
end Mine

namespace Mine
open PySem PySem.W

/-! ## the duality -/
structure Ti where
  b : Bool
  s7 : Nat
  t7 : Nat
  s9 : Nat
  t9 : Nat
  c : List Int
def Ti.D (t : Ti) (x : List Int) : Int := rowAt x t.t7 - rowAt x t.s7
def Ti.E (t : Ti) (y : List Int) : Int := rowAt y t.t9 - rowAt y t.s9
def nR : List Ti → Nat
  | [] => 0
  | t :: r => if t.b then nR r else nR r + 1
def nS : List Ti → Nat
  | [] => 0
  | t :: r => if t.b then nS r + 1 else nS r
def TOK : List Ti → Prop
  | [] => True
  | t :: r => (if t.b then t.t9 = nS r + 1 ∧ t.s9 ≤ nS r else t.t7 = nR r + 1 ∧ t.s7 ≤ nR r) ∧ TOK r
def pairing (x y : List Int) : List Ti → Int
  | [] => 0
  | t :: r => t.D x * t.E y + pairing x y r

/-- the third root's powers -/
def om (k : Int) : E := if k % 3 = 0 then (1, 0) else if k % 3 = 1 then (0, 1) else (-1, -1)
theorem om_per : Per om := fun a b h => by unfold om; rw [h]
theorem om_zero : om 0 = oneE := rfl
theorem om_add (a b : Int) : om (a + b) = mulE (om a) (om b) := by
  have ha : a % 3 = 0 ∨ a % 3 = 1 ∨ a % 3 = 2 := by (first | lia | omega)
  have hb : b % 3 = 0 ∨ b % 3 = 1 ∨ b % 3 = 2 := by (first | lia | omega)
  have e : (a + b) % 3 = (a % 3 + b % 3) % 3 := by (first | lia | omega)
  unfold om
  rw [e]
  rcases ha with ha | ha | ha <;> rcases hb with hb | hb | hb <;> rw [ha, hb] <;> decide

def dot (y : List Int) : List Ti → List Int → Int
  | t :: r, k :: K => k * t.E y + dot y r K
  | _, _ => 0
theorem PK_om (y : List Int) : ∀ (tr : List Ti) (K : List Int), PK (fun t k => om (k * t.E y)) tr K = om (dot y tr K)
  | [], _ => by simp only [PK, dot]; rfl
  | t :: r, [] => by simp only [PK, dot]; rfl
  | t :: r, k :: K => by simp only [PK, dot, PK_om y r K, om_add]

def rr : List Ti → List Int → List (Nat × Int)
  | t :: r, k :: K => if t.b then rr r K else (t.s7, k) :: rr r K
  | _, _ => []
def sq (x : List Int) : List Ti → List Int → List (Nat × (Int → E))
  | t :: r, k :: K => if t.b then (t.s9, fun d => om ((k - t.D x) * d)) :: sq x r K else sq x r K
  | _, _ => []
def PQ (x : List Int) : List Ti → List Int → E
  | t :: r, k :: K => if t.b then mulE (dl (k - t.D x)) (PQ x r K) else PQ x r K
  | _, _ => oneE
theorem rr_len : ∀ (tr : List Ti) (K : List Int), K.length = tr.length → (rr tr K).length = nR tr
  | [], _, _ => by simp [rr, nR]
  | t :: r, [], h => by simp at h
  | t :: r, k :: K, h => by
    have := rr_len r K (by simpa using h)
    unfold rr nR
    split <;> simp [this]
theorem sq_len (x : List Int) : ∀ (tr : List Ti) (K : List Int), K.length = tr.length → (sq x tr K).length = nS tr
  | [], _, _ => by simp [sq, nS]
  | t :: r, [], h => by simp at h
  | t :: r, k :: K, h => by
    have := sq_len x r K (by simpa using h)
    unfold sq nS
    split <;> simp [this]
theorem rr_ok : ∀ (tr : List Ti) (K : List Int), K.length = tr.length → TOK tr → TreeOK' (rr tr K)
  | [], _, _, _ => by simp [rr, TreeOK']
  | t :: r, [], h, _ => by simp at h
  | t :: r, k :: K, h, ok => by
    have hl : K.length = r.length := by simpa using h
    have ih := rr_ok r K hl ok.2
    have ok1 := ok.1
    unfold rr
    split
    · exact ih
    · rename_i hb
      rw [if_neg hb] at ok1
      exact ⟨by rw [rr_len r K hl]; exact ok1.2, ih⟩
theorem sq_ok (x : List Int) : ∀ (tr : List Ti) (K : List Int), K.length = tr.length → TOK tr → TreeOK (sq x tr K)
  | [], _, _, _ => by simp [sq, TreeOK]
  | t :: r, [], h, _ => by simp at h
  | t :: r, k :: K, h, ok => by
    have hl : K.length = r.length := by simpa using h
    have ih := sq_ok x r K hl ok.2
    have ok1 := ok.1
    unfold sq
    split
    · rename_i hb
      rw [if_pos hb] at ok1
      exact ⟨by rw [sq_len x r K hl]; exact ok1.2, ih⟩
    · exact ih
theorem PK_dl (x : List Int) : ∀ (tr : List Ti) (K : List Int), K.length = tr.length → TOK tr → PK (fun t k => dl (k - t.D x)) tr K = mulE (treeD (rr tr K) x) (PQ x tr K)
  | [], _, _, _ => by simp only [PK, rr, PQ, treeD, List.map_nil, treeP, one_mulE]
  | t :: r, [], h, _ => by simp at h
  | t :: r, k :: K, h, ok => by
    have hl : K.length = r.length := by simpa using h
    have ih := PK_dl x r K hl ok.2
    have ok1 := ok.1
    simp only [PK, ih]
    by_cases hb : t.b = true
    · simp only [rr, PQ, if_pos hb]
      rw [mulE_left]
    · rw [if_neg hb] at ok1
      simp only [rr, PQ, if_neg hb, treeD, List.map_cons, treeP, List.length_map, rr_len r K hl]
      rw [← mulE_assoc, mulE_comm (dl _)]
      congr 2
      unfold Ti.D
      rw [ok1.1]
theorem treeP_om (x y : List Int) : ∀ (tr : List Ti) (K : List Int), K.length = tr.length → TOK tr → (∀ (i : Nat) (t : Ti) (k : Int), tr[i]? = some t → K[i]? = some k → t.b = false → (k - t.D x) % 3 = 0) → treeP (sq x tr K) y = om (dot y tr K - pairing x y tr)
  | [], _, _, _, _ => by simp only [sq, treeP, dot, pairing]; rfl
  | t :: r, [], h, _, _ => by simp at h
  | t :: r, k :: K, h, ok, hr => by
    have hl : K.length = r.length := by simpa using h
    have ih := treeP_om x y r K hl ok.2 fun i t k h1 h2 => hr (i + 1) t k (by simpa using h1) (by simpa using h2)
    have ok1 := ok.1
    have e : dot y (t :: r) (k :: K) - pairing x y (t :: r) = (dot y r K - pairing x y r) + (k - t.D x) * t.E y := by
      simp only [dot, pairing, Int.sub_mul]; (first | lia | omega)
    rw [e, om_add]
    by_cases hb : t.b = true
    · rw [if_pos hb] at ok1
      simp only [sq, if_pos hb, treeP, ih, sq_len x r K hl]
      congr 2
      unfold Ti.E
      rw [ok1.1]
    · simp only [sq, if_neg hb, ih]
      have h0 := hr 0 t k (by simp) (by simp) (by simpa using hb)
      have : om ((k - t.D x) * t.E y) = oneE := by
        rw [← om_zero]
        apply om_per
        rw [Int.mul_emod, h0]; simp
      rw [this, mulE_one]
theorem S3_om (c : Int) : (S3 fun d => om (c * d)) = mulE (ofI 3) (dl c) := by
  have hc : c % 3 = 0 ∨ c % 3 = 1 ∨ c % 3 = 2 := by (first | lia | omega)
  have e0 : om (c * 0) = om 0 := om_per _ _ (by simp)
  have e1 : om (c * 1) = om (c % 3) := om_per _ _ (by rw [Int.mul_one]; (first | lia | omega))
  have e2 : om (c * 2) = om (c % 3 * 2) := om_per _ _ (by (first | lia | omega))
  simp only [S3, e0, e1, e2, dl]
  rcases hc with h | h | h <;> rw [h] <;> decide
theorem prod_sq (x : List Int) : ∀ (tr : List Ti) (K : List Int), K.length = tr.length → prodE (fun p => S3 p.2) (sq x tr K) = mulE (ofI (3 ^ nS tr)) (PQ x tr K)
  | [], _, _ => by simp only [sq, prodE, nS, PQ]; rfl
  | t :: r, [], h => by simp at h
  | t :: r, k :: K, h => by
    have ih := prod_sq x r K (by simpa using h)
    by_cases hb : t.b = true
    · simp only [sq, nS, PQ, if_pos hb, prodE, ih, S3_om]
      have e : ofI (3 ^ (nS r + 1)) = mulE (ofI 3) (ofI (3 ^ nS r)) := by
        simp [ofI, mulE, Int.pow_succ, Int.mul_comm]
      rw [e, mulE_assoc, mulE_assoc, mulE_left (dl _)]
    · simp only [sq, nS, PQ, if_neg hb, ih]
theorem sq_per (x : List Int) : ∀ (tr : List Ti) (K : List Int), ∀ p ∈ sq x tr K, Per p.2
  | [], _, p, h => by simp [sq] at h
  | t :: r, [], p, h => by simp [sq] at h
  | t :: r, k :: K, p, h => by
    unfold sq at h
    split at h
    · rcases List.mem_cons.mp h with rfl | h
      · intro a b hab
        apply om_per
        rw [Int.mul_emod, hab, ← Int.mul_emod]
      · exact sq_per x r K p h
    · exact sq_per x r K p h

/-- the picked row meets the rounds' marks -/
theorem rowOf_keep : ∀ (r : List (Nat × Int)) (s : Nat) (k : Int) (i : Nat), i ≤ r.length → rowAt (rowOf ((s, k) :: r)) i = rowAt (rowOf r) i := fun r s k i h => by
  show rowAt (rowOf r ++ [_]) i = _
  exact rowAt_app (by rw [rowOf_len]; (first | lia | omega))
theorem rr_keep : ∀ (tr : List Ti) (K : List Int), K.length = tr.length → TOK tr → ∀ (i : Nat) (t : Ti) (k : Int), tr[i]? = some t → K[i]? = some k → t.b = false → (k - t.D (rowOf (rr tr K))) % 3 = 0
  | [], _, _, _, i, t, k, h, _, _ => by simp at h
  | u :: r, [], h, _, _, _, _, _, _, _ => by simp at h
  | u :: r, l :: K, hlen, ok, i, t, k, ht, hk, hb => by
    have hl : K.length = r.length := by simpa using hlen
    have ok1 := ok.1
    have bnd : ∀ (tr : List Ti), TOK tr → ∀ (i : Nat) (t : Ti), tr[i]? = some t → t.b = false → t.t7 ≤ nR tr ∧ t.s7 ≤ nR tr := by
      intro tr
      induction tr with
      | nil => intro _ i t h; simp at h
      | cons u r ih =>
        intro ok i t h hb
        have ok1 := ok.1
        cases i with
        | zero =>
          simp at h
          subst h
          rw [if_neg (by simp [hb])] at ok1
          simp only [nR, hb]
          simp; (first | lia | omega)
        | succ i =>
          have := ih ok.2 i t (by simpa using h) hb
          unfold nR
          split <;> (first | lia | omega)
    cases i with
    | zero =>
      simp at ht hk
      subst ht hk
      rw [if_neg (by simp [hb])] at ok1
      have e : rr (u :: r) (l :: K) = (u.s7, l) :: rr r K := by simp [rr, hb]
      rw [e]
      unfold Ti.D
      have h1 : rowAt (rowOf ((u.s7, l) :: rr r K)) u.t7 = (rowAt (rowOf (rr r K)) u.s7 + l) % 3 := by
        have hle : u.t7 = (rowOf (rr r K)).length := by rw [rowOf_len, rr_len r K hl, ok1.1]
        rw [hle]
        exact rowAt_last
      rw [h1, rowOf_keep _ _ _ _ (by rw [rr_len r K hl]; exact ok1.2)]
      (first | lia | omega)
    | succ i =>
      have ht' : r[i]? = some t := by simpa using ht
      have hk' : K[i]? = some k := by simpa using hk
      have ih := rr_keep r K hl ok.2 i t k ht' hk' hb
      by_cases hu : u.b = true
      · simpa [rr, hu] using ih
      · have e : rr (u :: r) (l :: K) = (u.s7, l) :: rr r K := by simp [rr, hu]
        have b := bnd r ok.2 i t ht' hb
        rw [e]
        unfold Ti.D at ih ⊢
        rw [rowOf_keep _ _ _ _ (by rw [rr_len r K hl]; exact b.1), rowOf_keep _ _ _ _ (by rw [rr_len r K hl]; exact b.2)]
        exact ih

theorem tri_S3 {c : List Int} (d : Int) : ofI (tri c d) = S3 fun k => mulE (ofI (c.getD k.toNat 0)) (dl (k - d)) := by
  have h : d.fmod 3 = d % 3 := Int.fmod_eq_emod_of_nonneg d (by decide)
  have hd : d % 3 = 0 ∨ d % 3 = 1 ∨ d % 3 = 2 := by (first | lia | omega)
  unfold tri
  rw [h]
  simp only [S3, dl]
  rcases hd with hd | hd | hd
  · rw [hd, if_pos (by (first | lia | omega)), if_neg (by (first | lia | omega)), if_neg (by (first | lia | omega)), mulE_one, mulE_zero, mulE_zero, addE_zero, addE_zero]
  · rw [hd, if_neg (by (first | lia | omega)), if_pos (by (first | lia | omega)), if_neg (by (first | lia | omega)), mulE_one, mulE_zero, mulE_zero, addE_zero, zero_addE]
  · rw [hd, if_neg (by (first | lia | omega)), if_neg (by (first | lia | omega)), if_pos (by (first | lia | omega)), mulE_one, mulE_zero, mulE_zero, zero_addE, zero_addE]

theorem duality (tr : List Ti) (ok : TOK tr) (hp : ∀ x ∈ paint (nR tr), ∀ y ∈ paint (nS tr), pairing x y tr = 0) :
    sumE (paint (nS tr)) (fun y => prodE (fun t => S3 fun k => mulE (ofI (t.c.getD k.toNat 0)) (om (k * t.E y))) tr) = mulE (ofI (3 ^ nS tr)) (sumE (paint (nR tr)) fun x => prodE (fun t => ofI (tri t.c (t.D x))) tr) := by
  have hW : ∀ K, PK (fun (t : Ti) k => ofI (t.c.getD k.toNat 0)) tr K = PK (fun (t : Ti) k => ofI (t.c.getD k.toNat 0)) tr K := fun _ => rfl
  have hl : ∀ y, prodE (fun t => S3 fun k => mulE (ofI (t.c.getD k.toNat 0)) (om (k * t.E y))) tr = SK tr.length fun K => mulE (PK (fun (t : Ti) k => ofI (t.c.getD k.toNat 0)) tr K) (om (dot y tr K)) := fun y => by
    rw [prod_S3]
    exact SK_congr _ fun K _ => by rw [PK_mul, PK_om]
  have hr : ∀ x, prodE (fun t => ofI (tri t.c (t.D x))) tr = SK tr.length fun K => mulE (PK (fun (t : Ti) k => ofI (t.c.getD k.toNat 0)) tr K) (PK (fun t k => dl (k - t.D x)) tr K) := fun x => by
    simp only [tri_S3]
    rw [prod_S3]
    exact SK_congr _ fun K _ => by rw [PK_mul]
  simp only [hl, hr, SK_sum, sumE_mul]
  rw [← SK_mul]
  refine SK_congr _ fun K hK => ?_
  rw [mulE_left]
  congr 1
  have hC : sumE (paint (nR tr)) (fun x => PK (fun t k => dl (k - t.D x)) tr K) = PQ (rowOf (rr tr K)) tr K := by
    rw [← rr_len tr K hK, ← tree_pick (rr tr K) (fun x => PQ x tr K) (rr_ok tr K hK ok)]
    exact sumE_congr fun x _ => PK_dl x tr K hK ok
  rw [hC, ← prod_sq _ tr K hK, ← tree_sum _ (sq_ok _ tr K hK ok) (sq_per _ tr K), sq_len _ tr K hK]
  refine sumE_congr fun y hy => ?_
  rw [treeP_om (rowOf (rr tr K)) y tr K hK ok (rr_keep tr K hK ok), hp _ (by have := rowOf_mem (rr tr K); rwa [rr_len tr K hK] at this) y hy, Int.sub_zero]
end Mine

namespace Mine
open PySem PySem.W

/-! ## both maps at once -/
structure Jt where
  b : Bool
  s7 : Nat
  t7 : Option Nat
  s9 : Nat
  t9 : Option Nat
def zz (l : List Nat) : List Int := l.map fun (x : Nat) => (x : Int)
theorem zz_app (a b : List Nat) : zz (a ++ b) = zz a ++ zz b := by simp [zz]
theorem zz_len (a : List Nat) : (zz a).length = a.length := by simp [zz]
def Jt.e7 (t : Jt) : List Int := zz (t.s7 :: t.t7.toList)
def Jt.e9 (t : Jt) : List Int := zz (t.s9 :: t.t9.toList)
structure JS where
  ties : List Jt
  p7 : List Nat
  p9 : List Nat
  c7 : Nat
  c9 : Nat
  w7 : List Nat
  w9 : List Nat
def JS.m7 (S : JS) : MS := ⟨S.ties.map Jt.e7, zz S.p7, S.c7, zz S.w7, zz S.w9⟩
def JS.m9 (S : JS) : MS := ⟨S.ties.map Jt.e9, zz S.p9, S.c9, zz S.w7, zz S.w9⟩
def kd (c : Nat) : Int := if c = 40 then 7 else if c = 41 then 8 else if c = 91 then 9 else 10

theorem MRun.snoc {up v : Int} {vs : List Int} {m m₁ m₂ : MS} (h : MRun up vs m m₁) (s : MStep up v m₁ m₂) : MRun up (vs ++ [v]) m m₂ := by
  induction h with
  | nil => exact .cons s .nil
  | cons a _ ih => exact .cons a (ih s)

/-- the pile of the rounds: each one's new place upon the one it leads from -/
inductive Ch7 (T : List Jt) : List Nat → List Nat → Prop
  | nil : Ch7 T [0] []
  | snoc {p w : List Nat} {a a' t : Nat} {tie : Jt} : Ch7 T (p ++ [a]) w → T[t]? = some tie → tie.b = false → tie.s7 = a → tie.t7 = some a' → tie.t9 = none → (∀ s ∈ w, s < t) → Ch7 T (p ++ [a] ++ [a']) (w ++ [t])
inductive Ch9 (T : List Jt) : List Nat → List Nat → Prop
  | nil : Ch9 T [0] []
  | snoc {p w : List Nat} {a a' t : Nat} {tie : Jt} : Ch9 T (p ++ [a]) w → T[t]? = some tie → tie.b = true → tie.s9 = a → tie.t9 = some a' → tie.t7 = none → (∀ s ∈ w, s < t) → Ch9 T (p ++ [a] ++ [a']) (w ++ [t])
theorem Ch7.lt {T : List Jt} {p w : List Nat} (h : Ch7 T p w) : ∀ s ∈ w, s < T.length := by
  induction h with
  | nil => intro s hs; cases hs
  | snoc _ ht _ _ _ _ _ ih =>
    intro s hs
    rcases List.mem_append.mp hs with hs | hs
    · exact ih s hs
    · rw [List.mem_singleton.mp hs]; exact (List.getElem?_eq_some_iff.mp ht).1
theorem Ch9.lt {T : List Jt} {p w : List Nat} (h : Ch9 T p w) : ∀ s ∈ w, s < T.length := by
  induction h with
  | nil => intro s hs; cases hs
  | snoc _ ht _ _ _ _ _ ih =>
    intro s hs
    rcases List.mem_append.mp hs with hs | hs
    · exact ih s hs
    · rw [List.mem_singleton.mp hs]; exact (List.getElem?_eq_some_iff.mp ht).1
theorem Ch7.keep {T T' : List Jt} {p w : List Nat} (h : Ch7 T p w) (hk : ∀ t ∈ w, T'[t]? = T[t]?) : Ch7 T' p w := by
  induction h with
  | nil => exact .nil
  | snoc _ ht a b c d e ih => exact .snoc (ih fun t ht => hk t (List.mem_append_left _ ht)) ((hk _ (by simp)).trans ht) a b c d e
theorem Ch9.keep {T T' : List Jt} {p w : List Nat} (h : Ch9 T p w) (hk : ∀ t ∈ w, T'[t]? = T[t]?) : Ch9 T' p w := by
  induction h with
  | nil => exact .nil
  | snoc _ ht a b c d e ih => exact .snoc (ih fun t ht => hk t (List.mem_append_left _ ht)) ((hk _ (by simp)).trans ht) a b c d e
theorem Ch7.isR {T : List Jt} {p w : List Nat} (h : Ch7 T p w) : ∀ t ∈ w, ∃ tie, T[t]? = some tie ∧ tie.b = false := by
  induction h with
  | nil => intro s hs; cases hs
  | snoc _ ht hb _ _ _ _ ih =>
    intro s hs
    rcases List.mem_append.mp hs with hs | hs
    · exact ih s hs
    · rw [List.mem_singleton.mp hs]; exact ⟨_, ht, hb⟩
theorem Ch9.isS {T : List Jt} {p w : List Nat} (h : Ch9 T p w) : ∀ t ∈ w, ∃ tie, T[t]? = some tie ∧ tie.b = true := by
  induction h with
  | nil => intro s hs; cases hs
  | snoc _ ht hb _ _ _ _ ih =>
    intro s hs
    rcases List.mem_append.mp hs with hs | hs
    · exact ih s hs
    · rw [List.mem_singleton.mp hs]; exact ⟨_, ht, hb⟩
theorem Ch7.top {T : List Jt} {p w : List Nat} (h : Ch7 T p w) : ∃ q a, p = q ++ [a] := by
  cases h with
  | nil => exact ⟨[], 0, rfl⟩
  | snoc => exact ⟨_, _, rfl⟩
theorem Ch9.top {T : List Jt} {p w : List Nat} (h : Ch9 T p w) : ∃ q a, p = q ++ [a] := by
  cases h with
  | nil => exact ⟨[], 0, rfl⟩
  | snoc => exact ⟨_, _, rfl⟩
theorem Ch7.len {T : List Jt} {p w : List Nat} (h : Ch7 T p w) : p.length = w.length + 1 := by
  induction h with
  | nil => rfl
  | snoc _ _ _ _ _ _ _ ih => simp at ih ⊢; (first | lia | omega)
theorem Ch9.len {T : List Jt} {p w : List Nat} (h : Ch9 T p w) : p.length = w.length + 1 := by
  induction h with
  | nil => rfl
  | snoc _ _ _ _ _ _ _ ih => simp at ih ⊢; (first | lia | omega)

/-- what a tie adds -/
def phi (f g : Nat → Int) (t : Jt) : Int := match t.t7, t.t9 with
  | some a', some c' => -((f a' - f t.s7) * (g c' - g t.s9))
  | some a', none => (f a' - f t.s7) * g t.s9
  | none, some c' => f t.s7 * (g c' - g t.s9)
  | none, none => 0
def phis (f g : Nat → Int) : List Jt → Int
  | [] => 0
  | t :: r => phi f g t + phis f g r
theorem phis_app (f g : Nat → Int) : ∀ a b : List Jt, phis f g (a ++ b) = phis f g a + phis f g b
  | [], b => by simp [phis]
  | t :: a, b => by simp only [List.cons_append, phis, phis_app f g a b]; (first | lia | omega)
theorem phis_set (f g : Nat → Int) : ∀ (T : List Jt) (i : Nat) (t u : Jt), T[i]? = some t → phis f g (T.set i u) = phis f g T + phi f g u - phi f g t
  | [], i, t, u, h => by simp at h
  | v :: T, 0, t, u, h => by
    simp at h
    subst h
    simp only [List.set_cons_zero, phis]; (first | lia | omega)
  | v :: T, i + 1, t, u, h => by
    simp only [List.set_cons_succ, phis, phis_set f g T i t u (by simpa using h)]; (first | lia | omega)

structure JI (n : Nat) (xs : List Nat) (S : JS) : Prop where
  r7 : MRun 7 (xs.map kd) ms0 S.m7
  r9 : MRun 9 (xs.map kd) ms0 S.m9
  ch7 : Ch7 S.ties S.p7 S.w7
  ch9 : Ch9 S.ties S.p9 S.w9
  sum : ∀ f g : Nat → Int, ∀ q a q' c, S.p7 = q ++ [a] → S.p9 = q' ++ [c] → f a * g c - f 0 * g 0 = phis f g S.ties
  own : ∀ i t, S.ties[i]? = some t → (t.b = false → t.t7.isSome = true ∧ (t.t9 = none → i ∈ S.w7)) ∧ (t.b = true → t.t9.isSome = true ∧ (t.t7 = none → i ∈ S.w9))
  small : S.ties.length ≤ n ∧ S.w7.length ≤ n ∧ S.w9.length ≤ n ∧ n ≤ 100
  q7 : ∀ i t, S.ties[i]? = some t → t.b = false → ∀ a', t.t7 = some a' → a' = ((S.ties.take i).filter fun u => !u.b).length + 1 ∧ t.s7 ≤ ((S.ties.take i).filter fun u => !u.b).length
  q9 : ∀ i t, S.ties[i]? = some t → t.b = true → ∀ a', t.t9 = some a' → a' = ((S.ties.take i).filter fun u => u.b).length + 1 ∧ t.s9 ≤ ((S.ties.take i).filter fun u => u.b).length
  k7 : S.c7 = (S.ties.filter fun u => !u.b).length + 1
  k9 : S.c9 = (S.ties.filter fun u => u.b).length + 1
  b7 : (∀ x ∈ S.p7, x < S.c7) ∧ ∀ t ∈ S.ties, t.s7 < S.c7 ∧ ∀ a', t.t7 = some a' → a' < S.c7
  b9 : (∀ x ∈ S.p9, x < S.c9) ∧ ∀ t ∈ S.ties, t.s9 < S.c9 ∧ ∀ a', t.t9 = some a' → a' < S.c9
def js0 : JS := ⟨[], [0], [0], 1, 1, [], []⟩
theorem ji0 : JI 0 [] js0 := by
  have e7 : js0.m7 = ms0 := rfl
  have e9 : js0.m9 = ms0 := rfl
  refine ⟨e7 ▸ .nil, e9 ▸ .nil, .nil, .nil, ?_, ?_, ⟨by simp [js0], by simp [js0], by simp [js0], by (first | lia | omega)⟩, ?_, ?_, rfl, rfl, ?_, ?_⟩
  · intro f g q a q' c h1 h2
    have e1 : a = 0 := by
      have := congrArg List.getLast? h1
      simp [js0] at this; (first | lia | omega)
    have e2 : c = 0 := by
      have := congrArg List.getLast? h2
      simp [js0] at this; (first | lia | omega)
    subst e1 e2
    simp [js0, phis]
  · intro i t h; simp [js0] at h
  · intro i t h; simp [js0] at h
  · intro i t h; simp [js0] at h
  · exact ⟨by simp [js0], by simp [js0]⟩
  · exact ⟨by simp [js0], by simp [js0]⟩

theorem JI.sm7 {n : Nat} {xs : List Nat} {S : JS} (h : JI n xs S) : S.m7.Small := by
  obtain ⟨h1, h2, h3, h4⟩ := h.small
  have l7 := h.ch7.len
  refine ⟨by simp [JS.m7]; (first | lia | omega), by simp [JS.m7, zz_len]; (first | lia | omega), by simp [JS.m7, zz_len]; (first | lia | omega), by simp [JS.m7, zz_len]; (first | lia | omega), fun y hy => ?_⟩
  simp only [JS.m7, List.mem_map] at hy
  obtain ⟨t, _, rfl⟩ := hy
  unfold Jt.e7
  rw [zz_len]
  cases t.t7 <;> simp
theorem JI.sm9 {n : Nat} {xs : List Nat} {S : JS} (h : JI n xs S) : S.m9.Small := by
  obtain ⟨h1, h2, h3, h4⟩ := h.small
  have l9 := h.ch9.len
  refine ⟨by simp [JS.m9]; (first | lia | omega), by simp [JS.m9, zz_len]; (first | lia | omega), by simp [JS.m9, zz_len]; (first | lia | omega), by simp [JS.m9, zz_len]; (first | lia | omega), fun y hy => ?_⟩
  simp only [JS.m9, List.mem_map] at hy
  obtain ⟨t, _, rfl⟩ := hy
  unfold Jt.e9
  rw [zz_len]
  cases t.t9 <;> simp

def JS.openR (S : JS) (a c : Nat) : JS := ⟨S.ties ++ [⟨false, a, some S.c7, c, none⟩], S.p7 ++ [S.c7], S.p9, S.c7 + 1, S.c9, S.w7 ++ [S.ties.length], S.w9⟩
def JS.openS (S : JS) (a c : Nat) : JS := ⟨S.ties ++ [⟨true, a, none, c, some S.c9⟩], S.p7, S.p9 ++ [S.c9], S.c7, S.c9 + 1, S.w7, S.w9 ++ [S.ties.length]⟩

theorem zz_one (a : Nat) : zz [a] = [(a : Int)] := rfl
theorem app_ties {T : List Jt} {u : Jt} {i : Nat} {t : Jt} (h : (T ++ [u])[i]? = some t) : (i < T.length ∧ T[i]? = some t) ∨ (i = T.length ∧ t = u) := by
  by_cases hi : i < T.length
  · rw [List.getElem?_append_left hi] at h; exact .inl ⟨hi, h⟩
  · have := (List.getElem?_eq_some_iff.mp h).1
    simp at this
    have e : i = T.length := by (first | lia | omega)
    subst e
    simp at h
    exact .inr ⟨rfl, h.symm⟩
theorem take_app {T : List Jt} {u : Jt} {i : Nat} (h : i ≤ T.length) : (T ++ [u]).take i = T.take i := List.take_append_of_le_length h

theorem JI.stepR {n : Nat} {xs : List Nat} {S : JS} (h : JI n xs S) (hn : n < 100) {p q : List Nat} {a c : Nat} (hp : S.p7 = p ++ [a]) (hq : S.p9 = q ++ [c]) : JI (n + 1) (xs ++ [40]) (S.openR a c) := by
  obtain ⟨s1, s2, s3, s4⟩ := h.small
  have k : kd 40 = 7 := rfl
  have ha : a < S.c7 := h.b7.1 a (by rw [hp]; simp)
  have hc : c < S.c9 := h.b9.1 c (by rw [hq]; simp)
  refine ⟨?_, ?_, ?_, ?_, ?_, ?_, ⟨by simp [JS.openR]; (first | lia | omega), by simp [JS.openR]; (first | lia | omega), by simp [JS.openR]; (first | lia | omega), by (first | lia | omega)⟩, ?_, ?_, ?_, ?_, ?_, ?_⟩
  · rw [List.map_append]
    have st := MStep.opn (up := 7) (k := 7) (x := (a : Int)) (p := zz p) (m := S.m7) (.inl rfl) (by simp [JS.m7, hp, zz_app, zz_one]) h.sm7
    have e : S.m7.openS 7 7 a = (S.openR a c).m7 := by
      simp [MS.openS, MS.setw, MS.w, JS.m7, JS.openR, Jt.e7, zz]
    rw [e] at st
    exact h.r7.snoc st
  · rw [List.map_append]
    have st := MStep.opn (up := 9) (k := 7) (x := (c : Int)) (p := zz q) (m := S.m9) (.inl rfl) (by simp [JS.m9, hq, zz_app, zz_one]) h.sm9
    have e : S.m9.openS 9 7 c = (S.openR a c).m9 := by
      simp [MS.openS, MS.setw, MS.w, JS.m9, JS.openR, Jt.e9, zz]
    rw [e] at st
    exact h.r9.snoc st
  · have hk : Ch7 (S.openR a c).ties S.p7 S.w7 := h.ch7.keep fun t ht => List.getElem?_append_left (h.ch7.lt t ht)
    rw [hp] at hk
    show Ch7 _ (S.p7 ++ [S.c7]) _
    rw [hp]
    exact .snoc hk (tie := ⟨false, a, some S.c7, c, none⟩) (by simp [JS.openR]) rfl rfl rfl rfl h.ch7.lt
  · exact h.ch9.keep fun t ht => List.getElem?_append_left (h.ch9.lt t ht)
  · intro f g q1 a1 q2 c1 h1 h2
    have e1 : a1 = S.c7 := by
      have := congrArg List.getLast? h1
      simpa [JS.openR, eq_comm] using this
    have e2 : c1 = c := by
      have := congrArg List.getLast? (h2.symm.trans hq)
      simpa using this
    subst e1 e2
    have := h.sum f g p a q c1 hp hq
    show _ = phis f g (S.ties ++ _)
    rw [phis_app, ← this]
    simp only [phis, phi]
    rw [Int.sub_mul]; (first | lia | omega)
  · intro i t ht
    rcases app_ties ht with ⟨hi, ht⟩ | ⟨rfl, rfl⟩
    · obtain ⟨o1, o2⟩ := h.own i t ht
      exact ⟨fun hb => ⟨(o1 hb).1, fun e => List.mem_append_left _ ((o1 hb).2 e)⟩, o2⟩
    · exact ⟨fun _ => ⟨rfl, fun _ => by simp [JS.openR]⟩, fun hb => by cases hb⟩
  · intro i t ht hb a' ha'
    rcases app_ties ht with ⟨hi, ht⟩ | ⟨rfl, rfl⟩
    · have := h.q7 i t ht hb a' ha'
      show a' = (((S.ties ++ _).take i).filter _).length + 1 ∧ _ ≤ (((S.ties ++ _).take i).filter _).length
      rw [take_app (by (first | lia | omega))]; exact this
    · cases ha'
      show S.c7 = (((S.ties ++ _).take _).filter _).length + 1 ∧ a ≤ (((S.ties ++ _).take _).filter _).length
      rw [take_app (Nat.le_refl _), List.take_length]
      have := h.k7
      (first | lia | omega)
  · intro i t ht hb a' ha'
    rcases app_ties ht with ⟨hi, ht⟩ | ⟨rfl, rfl⟩
    · have := h.q9 i t ht hb a' ha'
      show a' = (((S.ties ++ _).take i).filter _).length + 1 ∧ _ ≤ (((S.ties ++ _).take i).filter _).length
      rw [take_app (by (first | lia | omega))]; exact this
    · cases hb
  · show S.c7 + 1 = ((S.ties ++ _).filter _).length + 1
    have := h.k7
    simp [List.filter_append]; (first | lia | omega)
  · show S.c9 = ((S.ties ++ _).filter _).length + 1
    have := h.k9
    simp [List.filter_append]; (first | lia | omega)
  · refine ⟨fun x hx => ?_, fun t ht => ?_⟩
    · rcases List.mem_append.mp hx with hx | hx
      · exact Nat.lt_succ_of_lt (h.b7.1 x hx)
      · rw [List.mem_singleton.mp hx]; exact Nat.lt_succ_self _
    · rcases List.mem_append.mp ht with ht | ht
      · have := h.b7.2 t ht
        exact ⟨Nat.lt_succ_of_lt this.1, fun a' e => Nat.lt_succ_of_lt (this.2 a' e)⟩
      · rw [List.mem_singleton.mp ht]
        exact ⟨Nat.lt_succ_of_lt ha, fun a' e => by cases e; exact Nat.lt_succ_self _⟩
  · refine ⟨h.b9.1, fun t ht => ?_⟩
    rcases List.mem_append.mp ht with ht | ht
    · exact h.b9.2 t ht
    · rw [List.mem_singleton.mp ht]
      exact ⟨hc, fun a' e => by cases e⟩
theorem JI.stepS {n : Nat} {xs : List Nat} {S : JS} (h : JI n xs S) (hn : n < 100) {p q : List Nat} {a c : Nat} (hp : S.p7 = p ++ [a]) (hq : S.p9 = q ++ [c]) : JI (n + 1) (xs ++ [91]) (S.openS a c) := by
  obtain ⟨s1, s2, s3, s4⟩ := h.small
  have k : kd 91 = 9 := rfl
  have ha : a < S.c7 := h.b7.1 a (by rw [hp]; simp)
  have hc : c < S.c9 := h.b9.1 c (by rw [hq]; simp)
  refine ⟨?_, ?_, ?_, ?_, ?_, ?_, ⟨by simp [JS.openS]; (first | lia | omega), by simp [JS.openS]; (first | lia | omega), by simp [JS.openS]; (first | lia | omega), by (first | lia | omega)⟩, ?_, ?_, ?_, ?_, ?_, ?_⟩
  · rw [List.map_append]
    have st := MStep.opn (up := 7) (k := 9) (x := (a : Int)) (p := zz p) (m := S.m7) (.inr rfl) (by simp [JS.m7, hp, zz_app, zz_one]) h.sm7
    have e : S.m7.openS 7 9 a = (S.openS a c).m7 := by
      simp [MS.openS, MS.setw, MS.w, JS.m7, JS.openS, Jt.e7, zz]
    rw [e] at st
    exact h.r7.snoc st
  · rw [List.map_append]
    have st := MStep.opn (up := 9) (k := 9) (x := (c : Int)) (p := zz q) (m := S.m9) (.inr rfl) (by simp [JS.m9, hq, zz_app, zz_one]) h.sm9
    have e : S.m9.openS 9 9 c = (S.openS a c).m9 := by
      simp [MS.openS, MS.setw, MS.w, JS.m9, JS.openS, Jt.e9, zz]
    rw [e] at st
    exact h.r9.snoc st
  · exact h.ch7.keep fun t ht => List.getElem?_append_left (h.ch7.lt t ht)
  · have hk : Ch9 (S.openS a c).ties S.p9 S.w9 := h.ch9.keep fun t ht => List.getElem?_append_left (h.ch9.lt t ht)
    rw [hq] at hk
    show Ch9 _ (S.p9 ++ [S.c9]) _
    rw [hq]
    exact .snoc hk (tie := ⟨true, a, none, c, some S.c9⟩) (by simp [JS.openS]) rfl rfl rfl rfl h.ch9.lt
  · intro f g q1 a1 q2 c1 h1 h2
    have e1 : c1 = S.c9 := by
      have := congrArg List.getLast? h2
      simpa [JS.openS, eq_comm] using this
    have e2 : a1 = a := by
      have := congrArg List.getLast? (h1.symm.trans hp)
      simpa using this
    subst e1 e2
    have := h.sum f g p a1 q c hp hq
    show _ = phis f g (S.ties ++ _)
    rw [phis_app, ← this]
    simp only [phis, phi]
    rw [Int.mul_sub]; (first | lia | omega)
  · intro i t ht
    rcases app_ties ht with ⟨hi, ht⟩ | ⟨rfl, rfl⟩
    · obtain ⟨o1, o2⟩ := h.own i t ht
      exact ⟨o1, fun hb => ⟨(o2 hb).1, fun e => List.mem_append_left _ ((o2 hb).2 e)⟩⟩
    · exact ⟨fun hb => (by cases hb), fun _ => ⟨rfl, fun _ => by simp [JS.openS]⟩⟩
  · intro i t ht hb a' ha'
    rcases app_ties ht with ⟨hi, ht⟩ | ⟨rfl, rfl⟩
    · have := h.q7 i t ht hb a' ha'
      show a' = (((S.ties ++ _).take i).filter _).length + 1 ∧ _ ≤ (((S.ties ++ _).take i).filter _).length
      rw [take_app (by (first | lia | omega))]; exact this
    · cases hb
  · intro i t ht hb a' ha'
    rcases app_ties ht with ⟨hi, ht⟩ | ⟨rfl, rfl⟩
    · have := h.q9 i t ht hb a' ha'
      show a' = (((S.ties ++ _).take i).filter _).length + 1 ∧ _ ≤ (((S.ties ++ _).take i).filter _).length
      rw [take_app (by (first | lia | omega))]; exact this
    · cases ha'
      show S.c9 = (((S.ties ++ _).take _).filter _).length + 1 ∧ c ≤ (((S.ties ++ _).take _).filter _).length
      rw [take_app (Nat.le_refl _), List.take_length]
      have := h.k9
      (first | lia | omega)
  · show S.c7 = ((S.ties ++ _).filter _).length + 1
    have := h.k7
    simp [List.filter_append]; (first | lia | omega)
  · show S.c9 + 1 = ((S.ties ++ _).filter _).length + 1
    have := h.k9
    simp [List.filter_append]; (first | lia | omega)
  · refine ⟨h.b7.1, fun t ht => ?_⟩
    rcases List.mem_append.mp ht with ht | ht
    · exact h.b7.2 t ht
    · rw [List.mem_singleton.mp ht]
      exact ⟨ha, fun a' e => by cases e⟩
  · refine ⟨fun x hx => ?_, fun t ht => ?_⟩
    · rcases List.mem_append.mp hx with hx | hx
      · exact Nat.lt_succ_of_lt (h.b9.1 x hx)
      · rw [List.mem_singleton.mp hx]; exact Nat.lt_succ_self _
    · rcases List.mem_append.mp ht with ht | ht
      · have := h.b9.2 t ht
        exact ⟨Nat.lt_succ_of_lt this.1, fun a' e => Nat.lt_succ_of_lt (this.2 a' e)⟩
      · rw [List.mem_singleton.mp ht]
        exact ⟨Nat.lt_succ_of_lt hc, fun a' e => by cases e; exact Nat.lt_succ_self _⟩
end Mine

namespace Mine
open PySem PySem.W

theorem Ch7.inv {T : List Jt} {p ws : List Nat} {t : Nat} (h : Ch7 T p (ws ++ [t])) : ∃ q a a' tie, p = q ++ [a] ++ [a'] ∧ Ch7 T (q ++ [a]) ws ∧ T[t]? = some tie ∧ tie.b = false ∧ tie.s7 = a ∧ tie.t7 = some a' ∧ tie.t9 = none ∧ ∀ s ∈ ws, s < t := by
  generalize hw : ws ++ [t] = w at h
  cases h with
  | nil => simp at hw
  | snoc h ht a b c d e =>
    obtain ⟨rfl, h2⟩ := List.append_inj' hw rfl
    cases h2
    exact ⟨_, _, _, _, rfl, h, ht, a, b, c, d, e⟩
theorem Ch9.inv {T : List Jt} {p ws : List Nat} {t : Nat} (h : Ch9 T p (ws ++ [t])) : ∃ q a a' tie, p = q ++ [a] ++ [a'] ∧ Ch9 T (q ++ [a]) ws ∧ T[t]? = some tie ∧ tie.b = true ∧ tie.s9 = a ∧ tie.t9 = some a' ∧ tie.t7 = none ∧ ∀ s ∈ ws, s < t := by
  generalize hw : ws ++ [t] = w at h
  cases h with
  | nil => simp at hw
  | snoc h ht a b c d e =>
    obtain ⟨rfl, h2⟩ := List.append_inj' hw rfl
    cases h2
    exact ⟨_, _, _, _, rfl, h, ht, a, b, c, d, e⟩
theorem map_set_same {β : Type} (f : Jt → β) : ∀ {T : List Jt} {t : Nat} {u v : Jt}, T[t]? = some u → f v = f u → (T.set t v).map f = T.map f
  | [], t, u, v, h, _ => by simp at h
  | x :: T, 0, u, v, h, e => by simp at h; subst h; simp [e]
  | x :: T, t + 1, u, v, h, e => by simp [map_set_same f (T := T) (by simpa using h) e]
theorem filt_set (pr : Jt → Bool) : ∀ {T : List Jt} {t : Nat} {u v : Jt}, T[t]? = some u → pr v = pr u → ∀ i, (((T.set t v).take i).filter pr).length = ((T.take i).filter pr).length
  | [], t, u, v, h, _, _ => by simp at h
  | x :: T, 0, u, v, h, e, i => by
    simp at h
    subst h
    cases i with
    | zero => simp
    | succ i => simp only [List.set_cons_zero, List.take_succ_cons, List.filter_cons, e]; split <;> simp
  | x :: T, t + 1, u, v, h, e, i => by
    cases i with
    | zero => simp
    | succ i =>
      have := filt_set pr (T := T) (t := t) (by simpa using h) e i
      simp only [List.set_cons_succ, List.take_succ_cons, List.filter_cons]
      split <;> simp [this]
theorem set_ties {T : List Jt} {t i : Nat} {u v w : Jt} (ht : T[t]? = some u) (h : (T.set t v)[i]? = some w) : (i ≠ t ∧ T[i]? = some w) ∨ (i = t ∧ w = v) := by
  by_cases hi : i = t
  · subst hi
    rw [List.getElem?_set_self (List.getElem?_eq_some_iff.mp ht).1] at h
    exact .inr ⟨rfl, (Option.some.inj h).symm⟩
  · rw [List.getElem?_set_ne (Ne.symm hi)] at h; exact .inl ⟨hi, h⟩

def JS.closeR (S : JS) (p ws : List Nat) (t : Nat) (tie : Jt) (c : Nat) : JS := ⟨S.ties.set t { tie with t9 := some c }, p, S.p9, S.c7, S.c9, ws, S.w9⟩
theorem JI.shutR {n : Nat} {xs : List Nat} {S : JS} (h : JI n xs S) (hn : n < 100) {ws : List Nat} {t : Nat} (hw : S.w7 = ws ++ [t]) :
    ∃ S', JI (n + 1) (xs ++ [41]) S' ∧ S'.w7 = ws ∧ S'.w9 = S.w9 ∧ S'.c7 = S.c7 ∧ S'.c9 = S.c9 ∧ S'.ties.length = S.ties.length := by
  obtain ⟨s1, s2, s3, s4⟩ := h.small
  have hch := h.ch7
  rw [hw] at hch
  obtain ⟨q, a, a', tie, hp, hc', ht, hb, e1, e2, e3, hlt⟩ := hch.inv
  obtain ⟨q9, c, hq⟩ := h.ch9.top
  have hc : c < S.c9 := h.b9.1 c (by rw [hq]; simp)
  have hmem : tie ∈ S.ties := List.mem_of_getElem? ht
  refine ⟨S.closeR (q ++ [a]) ws t tie c, ⟨?_, ?_, ?_, ?_, ?_, ?_, ⟨by simp [JS.closeR]; (first | lia | omega), by rw [hw] at s2; simp at s2; simp [JS.closeR]; (first | lia | omega), by simp [JS.closeR]; (first | lia | omega), by (first | lia | omega)⟩, ?_, ?_, ?_, ?_, ?_, ?_⟩, rfl, rfl, rfl, rfl, by simp [JS.closeR]⟩
  · rw [List.map_append]
    have st := MStep.cls (up := 7) (k := 7) (x := (a' : Int)) (p := zz (q ++ [a])) (ws := zz ws) (t := t) (y := tie.e7) (m := S.m7) (.inl rfl) (by show zz S.p7 = _; rw [hp, zz_app]; rfl) (by simp [MS.w, JS.m7, hw, zz_app, zz_one]) (by simp [JS.m7, ht]) h.sm7
    have e : S.m7.closeS 7 7 (zz ws) (zz (q ++ [a])) t tie.e7 a' = (S.closeR (q ++ [a]) ws t tie c).m7 := by
      simp only [MS.closeS, MS.setw, JS.m7, JS.closeR, if_pos]
      rw [map_set_same Jt.e7 ht (by rfl)]
    rw [e] at st
    exact h.r7.snoc st
  · rw [List.map_append]
    have st := MStep.cls (up := 9) (k := 7) (x := (c : Int)) (p := zz q9) (ws := zz ws) (t := t) (y := tie.e9) (m := S.m9) (.inl rfl) (by simp [JS.m9, hq, zz_app, zz_one]) (by simp [MS.w, JS.m9, hw, zz_app, zz_one]) (by simp [JS.m9, ht]) h.sm9
    have e : S.m9.closeS 9 7 (zz ws) (zz q9) t tie.e9 c = (S.closeR (q ++ [a]) ws t tie c).m9 := by
      have e9 : Jt.e9 { tie with t9 := some c } = tie.e9 ++ [(c : Int)] := by simp [Jt.e9, e3, zz]
      simp only [MS.closeS, MS.setw, JS.m9, JS.closeR, if_pos, List.map_set, e9]
      rw [if_neg (by decide)]
    rw [e] at st
    exact h.r9.snoc st
  · exact hc'.keep fun s hs => List.getElem?_set_ne (Ne.symm (Nat.ne_of_lt (hlt s hs)))
  · refine h.ch9.keep fun s hs => List.getElem?_set_ne (fun x => ?_)
    obtain ⟨u, hu, hub⟩ := h.ch9.isS s hs
    rw [← x, ht] at hu
    cases hu
    rw [hb] at hub; cases hub
  · intro f g q1 a1 q2 c1 h1 h2
    have e4 : a1 = a := by
      have := congrArg List.getLast? h1
      simpa [JS.closeR, eq_comm] using this
    have e5 : c1 = c := by
      have := congrArg List.getLast? (h2.symm.trans hq)
      simpa using this
    subst e4 e5
    have hs := h.sum f g (q ++ [a1]) a' q9 c1 hp hq
    show _ = phis f g (S.ties.set t _)
    rw [phis_set f g _ _ _ _ ht, ← hs]
    simp only [phi, e1, e2, e3]
    grind
  · intro i u hu
    rcases set_ties ht hu with ⟨hi, hu⟩ | ⟨rfl, rfl⟩
    · obtain ⟨o1, o2⟩ := h.own i u hu
      refine ⟨fun hb => ⟨(o1 hb).1, fun e => ?_⟩, o2⟩
      have := (o1 hb).2 e
      rw [hw] at this
      rcases List.mem_append.mp this with h | h
      · exact h
      · exact absurd (List.mem_singleton.mp h) hi
    · exact ⟨fun _ => ⟨by rw [e2]; rfl, fun e => by cases e⟩, fun hb' => by rw [hb] at hb'; cases hb'⟩
  · intro i u hu hb' a1 ha1
    show a1 = (((S.ties.set t _).take i).filter _).length + 1 ∧ _ ≤ (((S.ties.set t _).take i).filter _).length
    rw [filt_set (fun u => !u.b) ht (v := { tie with t9 := some c }) rfl]
    rcases set_ties ht hu with ⟨hi, hu⟩ | ⟨rfl, rfl⟩
    · exact h.q7 i u hu hb' a1 ha1
    · exact h.q7 i tie ht hb a1 ha1
  · intro i u hu hb' a1 ha1
    show a1 = (((S.ties.set t _).take i).filter _).length + 1 ∧ _ ≤ (((S.ties.set t _).take i).filter _).length
    rw [filt_set (fun u => u.b) ht (v := { tie with t9 := some c }) rfl]
    rcases set_ties ht hu with ⟨hi, hu⟩ | ⟨rfl, rfl⟩
    · exact h.q9 i u hu hb' a1 ha1
    · rw [hb] at hb'; cases hb'
  · have := filt_set (fun u => !u.b) ht (v := { tie with t9 := some c }) rfl S.ties.length
    rw [List.take_length, List.take_of_length_le (by simp)] at this
    show S.c7 = ((S.ties.set t _).filter _).length + 1
    rw [this]; exact h.k7
  · have := filt_set (fun u => u.b) ht (v := { tie with t9 := some c }) rfl S.ties.length
    rw [List.take_length, List.take_of_length_le (by simp)] at this
    show S.c9 = ((S.ties.set t _).filter _).length + 1
    rw [this]; exact h.k9
  · refine ⟨fun x hx => h.b7.1 x (by rw [hp]; exact List.mem_append_left _ hx), fun u hu => ?_⟩
    rcases List.mem_or_eq_of_mem_set hu with hu | rfl
    · exact h.b7.2 u hu
    · exact h.b7.2 tie hmem
  · refine ⟨h.b9.1, fun u hu => ?_⟩
    rcases List.mem_or_eq_of_mem_set hu with hu | rfl
    · exact h.b9.2 u hu
    · exact ⟨(h.b9.2 tie hmem).1, fun x e => by cases e; exact hc⟩

def JS.closeS (S : JS) (p ws : List Nat) (t : Nat) (tie : Jt) (a : Nat) : JS := ⟨S.ties.set t { tie with t7 := some a }, S.p7, p, S.c7, S.c9, S.w7, ws⟩
theorem JI.shutS {n : Nat} {xs : List Nat} {S : JS} (h : JI n xs S) (hn : n < 100) {ws : List Nat} {t : Nat} (hw : S.w9 = ws ++ [t]) :
    ∃ S', JI (n + 1) (xs ++ [93]) S' ∧ S'.w7 = S.w7 ∧ S'.w9 = ws ∧ S'.c7 = S.c7 ∧ S'.c9 = S.c9 ∧ S'.ties.length = S.ties.length := by
  obtain ⟨s1, s2, s3, s4⟩ := h.small
  have hch := h.ch9
  rw [hw] at hch
  obtain ⟨q, c, c', tie, hp, hc', ht, hb, e1, e2, e3, hlt⟩ := hch.inv
  obtain ⟨q7, a, hq⟩ := h.ch7.top
  have ha : a < S.c7 := h.b7.1 a (by rw [hq]; simp)
  have hmem : tie ∈ S.ties := List.mem_of_getElem? ht
  refine ⟨S.closeS (q ++ [c]) ws t tie a, ⟨?_, ?_, ?_, ?_, ?_, ?_, ⟨by simp [JS.closeS]; (first | lia | omega), by simp [JS.closeS]; (first | lia | omega), by rw [hw] at s3; simp at s3; simp [JS.closeS]; (first | lia | omega), by (first | lia | omega)⟩, ?_, ?_, ?_, ?_, ?_, ?_⟩, rfl, rfl, rfl, rfl, by simp [JS.closeS]⟩
  · rw [List.map_append]
    have st := MStep.cls (up := 7) (k := 9) (x := (a : Int)) (p := zz q7) (ws := zz ws) (t := t) (y := tie.e7) (m := S.m7) (.inr rfl) (by simp [JS.m7, hq, zz_app, zz_one]) (by simp [MS.w, JS.m7, hw, zz_app, zz_one]) (by simp [JS.m7, ht]) h.sm7
    have e : S.m7.closeS 7 9 (zz ws) (zz q7) t tie.e7 a = (S.closeS (q ++ [c]) ws t tie a).m7 := by
      have e9 : Jt.e7 { tie with t7 := some a } = tie.e7 ++ [(a : Int)] := by simp [Jt.e7, e3, zz]
      simp only [MS.closeS, MS.setw, JS.m7, JS.closeS, List.map_set, e9]
      rw [if_neg (by decide), if_neg (by decide)]
    rw [e] at st
    exact h.r7.snoc st
  · rw [List.map_append]
    have st := MStep.cls (up := 9) (k := 9) (x := (c' : Int)) (p := zz (q ++ [c])) (ws := zz ws) (t := t) (y := tie.e9) (m := S.m9) (.inr rfl) (by show zz S.p9 = _; rw [hp, zz_app]; rfl) (by simp [MS.w, JS.m9, hw, zz_app, zz_one]) (by simp [JS.m9, ht]) h.sm9
    have e : S.m9.closeS 9 9 (zz ws) (zz (q ++ [c])) t tie.e9 c' = (S.closeS (q ++ [c]) ws t tie a).m9 := by
      simp only [MS.closeS, MS.setw, JS.m9, JS.closeS, if_pos]
      rw [map_set_same Jt.e9 ht (by rfl), if_neg (by decide)]
    rw [e] at st
    exact h.r9.snoc st
  · refine h.ch7.keep fun s hs => List.getElem?_set_ne (fun x => ?_)
    obtain ⟨u, hu, hub⟩ := h.ch7.isR s hs
    rw [← x, ht] at hu
    cases hu
    rw [hb] at hub; cases hub
  · exact hc'.keep fun s hs => List.getElem?_set_ne (Ne.symm (Nat.ne_of_lt (hlt s hs)))
  · intro f g q1 a1 q2 c1 h1 h2
    have e4 : c1 = c := by
      have := congrArg List.getLast? h2
      simpa [JS.closeS, eq_comm] using this
    have e5 : a1 = a := by
      have := congrArg List.getLast? (h1.symm.trans hq)
      simpa using this
    subst e4 e5
    have hs := h.sum f g q7 a1 (q ++ [c1]) c' hq hp
    show _ = phis f g (S.ties.set t _)
    rw [phis_set f g _ _ _ _ ht, ← hs]
    simp only [phi, e1, e2, e3]
    grind
  · intro i u hu
    rcases set_ties ht hu with ⟨hi, hu⟩ | ⟨rfl, rfl⟩
    · obtain ⟨o1, o2⟩ := h.own i u hu
      refine ⟨o1, fun hb => ⟨(o2 hb).1, fun e => ?_⟩⟩
      have := (o2 hb).2 e
      rw [hw] at this
      rcases List.mem_append.mp this with h | h
      · exact h
      · exact absurd (List.mem_singleton.mp h) hi
    · exact ⟨fun hb' => (by rw [hb] at hb'; cases hb'), fun _ => ⟨by rw [e2]; rfl, fun e => by cases e⟩⟩
  · intro i u hu hb' a1 ha1
    show a1 = (((S.ties.set t _).take i).filter _).length + 1 ∧ _ ≤ (((S.ties.set t _).take i).filter _).length
    rw [filt_set (fun u => !u.b) ht (v := { tie with t7 := some a }) rfl]
    rcases set_ties ht hu with ⟨hi, hu⟩ | ⟨rfl, rfl⟩
    · exact h.q7 i u hu hb' a1 ha1
    · rw [hb] at hb'; cases hb'
  · intro i u hu hb' a1 ha1
    show a1 = (((S.ties.set t _).take i).filter _).length + 1 ∧ _ ≤ (((S.ties.set t _).take i).filter _).length
    rw [filt_set (fun u => u.b) ht (v := { tie with t7 := some a }) rfl]
    rcases set_ties ht hu with ⟨hi, hu⟩ | ⟨rfl, rfl⟩
    · exact h.q9 i u hu hb' a1 ha1
    · exact h.q9 i tie ht hb a1 ha1
  · have := filt_set (fun u => !u.b) ht (v := { tie with t7 := some a }) rfl S.ties.length
    rw [List.take_length, List.take_of_length_le (by simp)] at this
    show S.c7 = ((S.ties.set t _).filter _).length + 1
    rw [this]; exact h.k7
  · have := filt_set (fun u => u.b) ht (v := { tie with t7 := some a }) rfl S.ties.length
    rw [List.take_length, List.take_of_length_le (by simp)] at this
    show S.c9 = ((S.ties.set t _).filter _).length + 1
    rw [this]; exact h.k9
  · refine ⟨h.b7.1, fun u hu => ?_⟩
    rcases List.mem_or_eq_of_mem_set hu with hu | rfl
    · exact h.b7.2 u hu
    · exact ⟨(h.b7.2 tie hmem).1, fun x e => by cases e; exact ha⟩
  · refine ⟨fun x hx => h.b9.1 x (by rw [hp]; exact List.mem_append_left _ hx), fun u hu => ?_⟩
    rcases List.mem_or_eq_of_mem_set hu with hu | rfl
    · exact h.b9.2 u hu
    · exact h.b9.2 tie hmem
end Mine

namespace Mine
open PySem PySem.W

structure WI (s : WS) (S : JS) : Prop where
  ji : JI s.xs.length s.xs S
  w0 : s.w0 = (S.w7.length : Int)
  w1 : s.w1 = (S.w9.length : Int)
  cnt : s.xs.count 40 + s.xs.count 91 = S.ties.length
  bal : s.xs.length + S.w7.length + S.w9.length = 2 * S.ties.length
  five : S.ties.length ≤ 5
  c : S.c7 + S.c9 = S.ties.length + 2
  lo : 2 ≤ S.c7 ∧ 2 ≤ S.c9

theorem snoc_of {l : List Nat} (h : 0 < l.length) : ∃ ws t, l = ws ++ [t] := by
  have hne : l ≠ [] := List.length_pos_iff.mp h
  exact ⟨l.dropLast, l.getLast hne, (List.dropLast_concat_getLast hne).symm⟩
theorem WI.step {s : WS} {S : JS} (h : WI s S) (hn : s.xs.length < 10) (v : Int) : ∃ S', WI (wstep s v) S' := by
  have hk := fmod2 v
  have hw0 := h.w0
  have hw1 := h.w1
  have hbal := h.bal
  have hcnt := h.cnt
  have hfive := h.five
  have hc := h.c
  have hlo := h.lo
  obtain ⟨q7, a, e7⟩ := h.ji.ch7.top
  obtain ⟨q9, c, e9⟩ := h.ji.ch9.top
  by_cases ho : s.opens v = true
  · have hfree : S.ties.length < 5 := by
      simp only [WS.opens, Bool.and_eq_true, WS.free, decide_eq_true_eq] at ho
      have := ho.1
      (first | lia | omega)
    rcases hk with hk | hk
    · have e : wstep s v = ⟨s.xs ++ [40], s.w0 + 1, s.w1⟩ := by
        unfold wstep; rw [if_pos ho, hk]; rfl
      rw [e]
      have j := h.ji.stepR (by (first | lia | omega)) e7 e9
      exact ⟨_, ⟨by simpa using j, by simp [JS.openR]; (first | lia | omega), by simp [JS.openR]; (first | lia | omega), by simp [JS.openR]; (first | lia | omega), by simp [JS.openR]; (first | lia | omega), by simp [JS.openR]; (first | lia | omega), by simp [JS.openR]; (first | lia | omega), by simp [JS.openR]; (first | lia | omega)⟩⟩
    · have e : wstep s v = ⟨s.xs ++ [91], s.w0, s.w1 + 1⟩ := by
        unfold wstep; rw [if_pos ho, hk]; rfl
      rw [e]
      have j := h.ji.stepS (by (first | lia | omega)) e7 e9
      exact ⟨_, ⟨by simpa using j, by simp [JS.openS]; (first | lia | omega), by simp [JS.openS]; (first | lia | omega), by simp [JS.openS]; (first | lia | omega), by simp [JS.openS]; (first | lia | omega), by simp [JS.openS]; (first | lia | omega), by simp [JS.openS]; (first | lia | omega), by simp [JS.openS]; (first | lia | omega)⟩⟩
  · have hpos : 0 < s.w (s.kind (v.fmod 2)) := by
      have hge0 : 0 ≤ s.w0 := by (first | lia | omega)
      have hge1 : 0 ≤ s.w1 := by (first | lia | omega)
      unfold WS.kind
      by_cases hz : (s.w (v.fmod 2) == 0) = true
      · rw [if_pos hz]
        have hz' : s.w (v.fmod 2) = 0 := by simpa using hz
        have hnf : s.free = false := by
          cases hf : s.free with
          | false => rfl
          | true => exact absurd (by simp [WS.opens, hf, hz]) ho
        have h5 : S.ties.length = 5 := by
          simp only [WS.free, decide_eq_false_iff_not] at hnf
          (first | lia | omega)
        rcases hk with hk | hk <;> rw [hk] at hz' ⊢ <;> simp [WS.w] at hz' ⊢ <;> (first | lia | omega)
      · rw [if_neg hz]
        have hz' : s.w (v.fmod 2) ≠ 0 := by simpa using hz
        rcases hk with hk | hk <;> rw [hk] at hz' ⊢ <;> simp [WS.w] at hz' ⊢ <;> (first | lia | omega)
    have hk' := WS.kind_ok (s := s) hk
    generalize hkk : s.kind (v.fmod 2) = k' at *
    rcases hk' with rfl | rfl
    · have e : wstep s v = ⟨s.xs ++ [41], s.w0 - 1, s.w1⟩ := by
        unfold wstep; rw [if_neg ho, hkk]; rfl
      have hp : 0 < s.w0 := hpos
      obtain ⟨ws, t, hw⟩ := snoc_of (l := S.w7) (by (first | lia | omega))
      obtain ⟨S', j, a1, a2, a3, a4, a5⟩ := h.ji.shutR (by (first | lia | omega)) hw
      have hl : S.w7.length = ws.length + 1 := by rw [hw]; simp
      rw [e]
      exact ⟨S', ⟨by simpa using j, by show s.w0 - 1 = _; rw [a1]; (first | lia | omega), by show s.w1 = _; rw [a2]; (first | lia | omega), by simp; (first | lia | omega), by simp; rw [a1, a2]; (first | lia | omega), by (first | lia | omega), by (first | lia | omega), by (first | lia | omega)⟩⟩
    · have e : wstep s v = ⟨s.xs ++ [93], s.w0, s.w1 - 1⟩ := by
        unfold wstep; rw [if_neg ho, hkk]; rfl
      have hp : 0 < s.w1 := hpos
      obtain ⟨ws, t, hw⟩ := snoc_of (l := S.w9) (by (first | lia | omega))
      obtain ⟨S', j, a1, a2, a3, a4, a5⟩ := h.ji.shutS (by (first | lia | omega)) hw
      have hl : S.w9.length = ws.length + 1 := by rw [hw]; simp
      rw [e]
      exact ⟨S', ⟨by simpa using j, by show s.w0 = _; rw [a1]; (first | lia | omega), by show s.w1 - 1 = _; rw [a2]; (first | lia | omega), by simp; (first | lia | omega), by simp; rw [a1, a2]; (first | lia | omega), by (first | lia | omega), by (first | lia | omega), by (first | lia | omega)⟩⟩
theorem WI.run : ∀ (vs : List Int) {s : WS} {S : JS}, WI s S → s.xs.length + vs.length ≤ 10 → ∃ S', WI (wrun s vs) S'
  | [], s, S, h, _ => ⟨S, h⟩
  | v :: vs, s, S, h, hl => by
    simp only [List.length_cons] at hl
    obtain ⟨S₁, h₁⟩ := h.step (by (first | lia | omega)) v
    exact WI.run vs h₁ (by rw [wstep_len]; (first | lia | omega))
theorem wi0 : ∃ S, WI ws0 S := by
  have j1 := ji0.stepR (by (first | lia | omega)) (p := []) (q := []) (a := 0) (c := 0) rfl rfl
  have j2 := j1.stepS (by (first | lia | omega)) (p := [0]) (q := []) (a := 1) (c := 0) rfl rfl
  exact ⟨_, ⟨j2, rfl, rfl, rfl, rfl, by simp [JS.openR, JS.openS, js0], rfl, by decide⟩⟩
theorem wrun_len : ∀ (vs : List Int) (s : WS), (wrun s vs).xs.length = s.xs.length + vs.length
  | [], s => rfl
  | v :: vs, s => by
    show (wrun (wstep s v) vs).xs.length = _
    rw [wrun_len vs, wstep_len]; simp; (first | lia | omega)
/-- the word is whole: five pairs, all shut -/
theorem word_whole (vs : List Int) (h8 : vs.length = 8) : ∃ S, JI 10 (wrun ws0 vs).xs S ∧ S.w7 = [] ∧ S.w9 = [] ∧ S.ties.length = 5 ∧ S.c7 + S.c9 = 7 ∧ 2 ≤ S.c7 ∧ 2 ≤ S.c9 := by
  obtain ⟨S0, h0⟩ := wi0
  obtain ⟨S, h⟩ := WI.run vs h0 (by rw [h8]; decide)
  have hl := wrun_len vs ws0
  have hl2 : ws0.xs.length = 2 := rfl
  have hb := h.bal
  have hf := h.five
  have hc := h.c
  have hj := h.ji
  rw [hl, hl2, h8] at hj
  refine ⟨S, hj, List.length_eq_zero_iff.mp (by (first | lia | omega)), List.length_eq_zero_iff.mp (by (first | lia | omega)), by (first | lia | omega), by (first | lia | omega), h.lo.1, h.lo.2⟩
end Mine

namespace Mine
open PySem PySem.W

def ti (t : Jt) (c : List Int) : Ti := ⟨t.b, t.s7, t.t7.getD 0, t.s9, t.t9.getD 0, c⟩
def trOf (T : List Jt) (cs : List (List Int)) : List Ti := (List.zipWith ti T cs).reverse
def hatL (c : List Int) : List (List Int) := [[c.getD 0 0 + c.getD 1 0 + c.getD 2 0, 0], [c.getD 0 0 - c.getD 2 0, c.getD 1 0 - c.getD 2 0], [c.getD 0 0 - c.getD 1 0, c.getD 2 0 - c.getD 1 0]]
theorem tri3_hat (c : List Int) (d : Int) : tri3 (hatL c) d = S3 fun k => mulE (ofI (c.getD k.toNat 0)) (om (k * d)) := by
  have h : d.fmod 3 = d % 3 := Int.fmod_eq_emod_of_nonneg d (by decide)
  have hd : d % 3 = 0 ∨ d % 3 = 1 ∨ d % 3 = 2 := by (first | lia | omega)
  have o1 : om (1 * d) = om (d % 3) := om_per _ _ (by (first | lia | omega))
  have o2 : om (2 * d) = om (2 * (d % 3)) := om_per _ _ (by (first | lia | omega))
  have o0 : om (0 * d) = om 0 := by rw [Int.zero_mul]
  unfold tri3
  rw [h]
  simp only [S3, o0, o1, o2]
  rcases hd with hd | hd | hd <;> rw [hd] <;> simp [hatL, om, mulE, ofI, addE] <;> (first | lia | omega)

theorem sum_foldl (f : List Int → E) : ∀ (rows : List (List Int)) (a : E), (rows.map f).foldl addE a = addE a (sumE rows f)
  | [], a => by rw [sumE_nil, addE_zero]; rfl
  | r :: rows, a => by rw [List.map_cons, List.foldl_cons, sum_foldl f rows, sumE_cons, addE_assoc]
theorem sum_foldlI (f : List Int → Int) : ∀ (rows : List (List Int)) (a : Int), ofI ((rows.map f).foldl (· + ·) a) = addE (ofI a) (sumE rows fun r => ofI (f r))
  | [], a => by rw [sumE_nil, addE_zero]; rfl
  | r :: rows, a => by
    rw [List.map_cons, List.foldl_cons, sum_foldlI f rows, sumE_cons, ← addE_assoc]
    congr 1

theorem zip_get {T : List Jt} {cs : List (List Int)} {n : Nat} (h1 : n < T.length) (h2 : n < cs.length) : (List.zipWith ti T cs)[n]? = some (ti T[n] cs[n]) := by
  rw [List.getElem?_zipWith, List.getElem?_eq_getElem h1, List.getElem?_eq_getElem h2]
theorem dif_e7 {t : Jt} {a' : Nat} (h : t.t7 = some a') (x : List Int) (c : List Int) : dif x t.e7 = (ti t c).D x := by
  simp [dif, Jt.e7, zz, h, ti, Ti.D, rowAt]
theorem dif_e9 {t : Jt} {a' : Nat} (h : t.t9 = some a') (x : List Int) (c : List Int) : dif x t.e9 = (ti t c).E x := by
  simp [dif, Jt.e9, zz, h, ti, Ti.E, rowAt]
theorem placeW_prod (T : List Jt) (cs : List (List Int)) (hc : T.length ≤ cs.length) (hT : ∀ t ∈ T, t.t7.isSome = true) (x : List Int) : ∀ n, n ≤ T.length → ofI (placeW x (T.map Jt.e7) cs n) = prodE (fun t => ofI (tri t.c (t.D x))) ((List.zipWith ti T cs).take n).reverse
  | 0, _ => rfl
  | n + 1, h => by
    have hn : n < T.length := by (first | lia | omega)
    have hcn : n < cs.length := by (first | lia | omega)
    rw [List.take_add_one, zip_get hn hcn]
    simp only [Option.toList_some, List.reverse_append, List.reverse_cons, List.reverse_nil, List.nil_append, List.singleton_append, prodE]
    rw [← placeW_prod T cs hc hT x n (by (first | lia | omega))]
    have e1 : (T.map Jt.e7).getD n [] = T[n].e7 := by simp [List.getD, hn]
    have e2 : cs.getD n [] = cs[n] := by simp [List.getD, hcn]
    obtain ⟨a', ha'⟩ := Option.isSome_iff_exists.mp (hT T[n] (List.getElem_mem hn))
    have e3 := dif_e7 ha' x cs[n]
    simp only [placeW, e1, e2, e3]
    rw [mulE_comm]
    simp [ofI, mulE, ti]
theorem fieldW_prod (T : List Jt) (cs : List (List Int)) (hc : T.length ≤ cs.length) (hT : ∀ t ∈ T, t.t9.isSome = true) (y : List Int) : ∀ n, n ≤ T.length → fieldW y (T.map Jt.e9) (cs.map hatL) n = prodE (fun t => S3 fun k => mulE (ofI (t.c.getD k.toNat 0)) (om (k * t.E y))) ((List.zipWith ti T cs).take n).reverse
  | 0, _ => rfl
  | n + 1, h => by
    have hn : n < T.length := by (first | lia | omega)
    have hcn : n < cs.length := by (first | lia | omega)
    rw [List.take_add_one, zip_get hn hcn]
    simp only [Option.toList_some, List.reverse_append, List.reverse_cons, List.reverse_nil, List.nil_append, List.singleton_append, prodE]
    rw [← fieldW_prod T cs hc hT y n (by (first | lia | omega))]
    have e1 : (T.map Jt.e9).getD n [] = T[n].e9 := by simp [List.getD, hn]
    have e2 : (cs.map hatL).getD n [] = hatL cs[n] := by simp [List.getD, hcn]
    obtain ⟨a', ha'⟩ := Option.isSome_iff_exists.mp (hT T[n] (List.getElem_mem hn))
    have e3 := dif_e9 ha' y cs[n]
    simp only [fieldW, e1, e2, e3, tri3_hat]
    rw [mulE_comm]
    rfl

theorem nR_take (T : List Jt) (cs : List (List Int)) (hc : T.length ≤ cs.length) : ∀ n, n ≤ T.length → nR ((List.zipWith ti T cs).take n).reverse = ((T.take n).filter fun u => !u.b).length ∧ nS ((List.zipWith ti T cs).take n).reverse = ((T.take n).filter fun u => u.b).length
  | 0, _ => ⟨rfl, rfl⟩
  | n + 1, h => by
    have hn : n < T.length := by (first | lia | omega)
    have hcn : n < cs.length := by (first | lia | omega)
    obtain ⟨i1, i2⟩ := nR_take T cs hc n (by (first | lia | omega))
    have hT : T[n]? = some T[n] := List.getElem?_eq_getElem hn
    rw [List.take_add_one, zip_get hn hcn, List.take_add_one (l := T), hT]
    simp only [Option.toList_some, List.reverse_append, List.reverse_cons, List.reverse_nil, List.nil_append, List.singleton_append, List.filter_append, List.length_append]
    simp only [nR, nS, i1, i2, ti]
    cases hb : T[n].b <;> simp [hb]
theorem pairing_app (x y : List Int) (a b : List Ti) : pairing x y (a ++ b) = pairing x y a + pairing x y b := by
  induction a with
  | nil => simp [pairing]
  | cons t a ih => simp only [List.cons_append, pairing, ih]; (first | lia | omega)
theorem pairing_phis (x y : List Int) (T : List Jt) (cs : List (List Int)) (hc : T.length ≤ cs.length) (h7 : ∀ t ∈ T, t.t7.isSome = true) (h9 : ∀ t ∈ T, t.t9.isSome = true) : pairing x y (trOf T cs) = - phis (rowAt x) (rowAt y) T := by
  unfold trOf
  induction T generalizing cs with
  | nil => simp [pairing, phis]
  | cons t T ih =>
    cases cs with
    | nil => simp at hc
    | cons c cs =>
      have := ih cs (by simpa using hc) (fun u hu => h7 u (List.mem_cons_of_mem _ hu)) (fun u hu => h9 u (List.mem_cons_of_mem _ hu))
      simp only [List.zipWith_cons_cons, List.reverse_cons, pairing_app, this, pairing, phis]
      obtain ⟨a, ha⟩ := Option.isSome_iff_exists.mp (h7 t (by simp))
      obtain ⟨b, hb⟩ := Option.isSome_iff_exists.mp (h9 t (by simp))
      simp only [phi, ha, hb, ti, Ti.D, Ti.E, Option.getD_some]
      (first | lia | omega)
end Mine

namespace Mine
open PySem PySem.W

theorem Ch7.empty {T : List Jt} {p w : List Nat} (h : Ch7 T p w) (hw : w = []) : p = [0] := by
  cases h with
  | nil => rfl
  | snoc => simp at hw
theorem Ch9.empty {T : List Jt} {p w : List Nat} (h : Ch9 T p w) (hw : w = []) : p = [0] := by
  cases h with
  | nil => rfl
  | snoc => simp at hw
theorem JI.closed {n : Nat} {xs : List Nat} {S : JS} (j : JI n xs S) (h7 : S.w7 = []) (h9 : S.w9 = []) : (∀ t ∈ S.ties, t.t7.isSome = true) ∧ ∀ t ∈ S.ties, t.t9.isSome = true := by
  have both : ∀ t ∈ S.ties, t.t7.isSome = true ∧ t.t9.isSome = true := fun t ht => by
    obtain ⟨i, hi⟩ := List.getElem?_of_mem ht
    obtain ⟨o1, o2⟩ := j.own i t hi
    cases hb : t.b with
    | false =>
      obtain ⟨a, b⟩ := o1 hb
      refine ⟨a, ?_⟩
      cases h : t.t9 with
      | some _ => rfl
      | none => have := b h; rw [h7] at this; cases this
    | true =>
      obtain ⟨a, b⟩ := o2 hb
      refine ⟨?_, a⟩
      cases h : t.t7 with
      | some _ => rfl
      | none => have := b h; rw [h9] at this; cases this
  exact ⟨fun t ht => (both t ht).1, fun t ht => (both t ht).2⟩

theorem JI.tok {n : Nat} {xs : List Nat} {S : JS} (j : JI n xs S) (h7 : S.w7 = []) (h9 : S.w9 = []) (cs : List (List Int)) (hc : S.ties.length ≤ cs.length) : ∀ k, k ≤ S.ties.length → TOK ((List.zipWith ti S.ties cs).take k).reverse
  | 0, _ => trivial
  | k + 1, h => by
    have hn : k < S.ties.length := by (first | lia | omega)
    have hcn : k < cs.length := by (first | lia | omega)
    obtain ⟨c7, c9⟩ := j.closed h7 h9
    obtain ⟨i1, i2⟩ := nR_take S.ties cs hc k (by (first | lia | omega))
    rw [List.take_add_one, zip_get hn hcn]
    simp only [Option.toList_some, List.reverse_append, List.reverse_cons, List.reverse_nil, List.nil_append, List.singleton_append]
    refine ⟨?_, j.tok h7 h9 cs hc k (by (first | lia | omega))⟩
    rw [i1, i2]
    have hk : S.ties[k]? = some S.ties[k] := List.getElem?_eq_getElem hn
    cases hb : (S.ties[k]).b with
    | true =>
      obtain ⟨a', ha'⟩ := Option.isSome_iff_exists.mp (c9 S.ties[k] (List.getElem_mem hn))
      have := j.q9 k _ hk hb a' ha'
      simp [ti, hb, ha', this]
    | false =>
      obtain ⟨a', ha'⟩ := Option.isSome_iff_exists.mp (c7 S.ties[k] (List.getElem_mem hn))
      have := j.q7 k _ hk hb a' ha'
      simp [ti, hb, ha', this]

theorem JI.ends {n : Nat} {xs : List Nat} {S : JS} (j : JI n xs S) (h7 : S.w7 = []) (h9 : S.w9 = []) : EndsOK S.c7 S.m7.ends ∧ EndsOK S.c9 S.m9.ends := by
  obtain ⟨c7, c9⟩ := j.closed h7 h9
  refine ⟨fun e he => ?_, fun e he => ?_⟩
  · simp only [JS.m7, List.mem_map] at he
    obtain ⟨t, ht, rfl⟩ := he
    obtain ⟨a', ha'⟩ := Option.isSome_iff_exists.mp (c7 t ht)
    have := j.b7.2 t ht
    exact ⟨t.s7, a', by simp [Jt.e7, zz, ha'], this.1, this.2 a' ha'⟩
  · simp only [JS.m9, List.mem_map] at he
    obtain ⟨t, ht, rfl⟩ := he
    obtain ⟨a', ha'⟩ := Option.isSome_iff_exists.mp (c9 t ht)
    have := j.b9.2 t ht
    exact ⟨t.s9, a', by simp [Jt.e9, zz, ha'], this.1, this.2 a' ha'⟩

theorem JI.dual {n : Nat} {xs : List Nat} {S : JS} (j : JI n xs S) (h7 : S.w7 = []) (h9 : S.w9 = []) (cs : List (List Int)) (hc : cs.length = S.ties.length) :
    fields (paint (S.c9 - 1)) S.m9.ends (cs.map hatL) = (3 ^ (S.c9 - 1) * places (paint (S.c7 - 1)) S.m7.ends cs, 0) := by
  obtain ⟨c7, c9⟩ := j.closed h7 h9
  have hl : (List.zipWith ti S.ties cs).length = S.ties.length := by simp [hc]
  have htk : (List.zipWith ti S.ties cs).take S.ties.length = List.zipWith ti S.ties cs := List.take_of_length_le (by (first | lia | omega))
  have tok := j.tok h7 h9 cs (by (first | lia | omega)) S.ties.length (Nat.le_refl _)
  obtain ⟨nr, ns⟩ := nR_take S.ties cs (by (first | lia | omega)) S.ties.length (Nat.le_refl _)
  rw [htk] at tok nr ns
  rw [List.take_length] at nr ns
  have k7 := j.k7
  have k9 := j.k9
  have e7 : S.c7 - 1 = nR (trOf S.ties cs) := by unfold trOf; rw [nr]; (first | lia | omega)
  have e9 : S.c9 - 1 = nS (trOf S.ties cs) := by unfold trOf; rw [ns]; (first | lia | omega)
  have hp7 : S.p7 = [0] := j.ch7.empty h7
  have hp9 : S.p9 = [0] := j.ch9.empty h9
  have pz : ∀ x y : List Int, pairing x y (trOf S.ties cs) = 0 := fun x y => by
    rw [pairing_phis x y S.ties cs (by (first | lia | omega)) c7 c9, ← j.sum (rowAt x) (rowAt y) [] 0 [] 0 hp7 hp9]
    (first | lia | omega)
  have D := duality (trOf S.ties cs) tok fun x _ y _ => pz x y
  have ml7 : S.m7.ends.length = S.ties.length := by simp [JS.m7]
  have ml9 : S.m9.ends.length = S.ties.length := by simp [JS.m9]
  have F : fields (paint (S.c9 - 1)) S.m9.ends (cs.map hatL) = sumE (paint (nS (trOf S.ties cs))) (fun y => prodE (fun t => S3 fun k => mulE (ofI (t.c.getD k.toNat 0)) (om (k * t.E y))) (trOf S.ties cs)) := by
    unfold fields
    rw [sum_foldl, e9, ml9]
    have : ((0, 0) : E) = zeroE := rfl
    rw [this, zero_addE]
    refine sumE_congr fun y _ => ?_
    have := fieldW_prod S.ties cs (by (first | lia | omega)) c9 y S.ties.length (Nat.le_refl _)
    rw [htk] at this
    exact this
  have W : ofI (places (paint (S.c7 - 1)) S.m7.ends cs) = sumE (paint (nR (trOf S.ties cs))) (fun x => prodE (fun t => ofI (tri t.c (t.D x))) (trOf S.ties cs)) := by
    unfold places
    rw [sum_foldlI, e7, ml7]
    have : ofI 0 = zeroE := rfl
    rw [this, zero_addE]
    refine sumE_congr fun x _ => ?_
    have := placeW_prod S.ties cs (by (first | lia | omega)) c7 x S.ties.length (Nat.le_refl _)
    rw [htk] at this
    exact this
  rw [F, D, ← W, ← e9]
  simp [mulE, ofI]
end Mine

namespace Mine
open PySem PySem.W

section
variable {G : Gd} {d : Nat} {H : List AO}
def ns65 : List Str := ["x"]
theorem iseof_spec (P : Prog G) (x : Int) : CallT G (d + 1) (.ext (.ref 154)) [.int x] H (.bool (x == 0)) H := by
  obtain ⟨pm, cd, F⟩ := P.fn (ns := ns65) P.f_ISEOF (by decide) (by decide) (by decide) (by decide) rfl rfl rfl
  refine CallT.def (ps := [("x", .int x)]) (ls := []) (f := .ret (.bool (x == 0))) P.ok F (Binds.plain (names := ["x"]) rfl ?_) rfl (fun _ h => by cases h) fun L hE => ?_
  · exact len1 fun _ => rfl
  · exact ⟨_, Ex.one (Ex1.ret (Ev.cmp (Ev.loc hE at0) (Ev.globInt P hE P.g_ENDMARKER) Opr.eq))⟩
end
end Mine

namespace Mine
open PySem PySem.W

def f2 : UInt64 := 0x4000000000000000
def f4 : UInt64 := 0x4010000000000000
def f6 : UInt64 := 0x4018000000000000
def f1 : UInt64 := 0x3FF0000000000000
structure Hsv where
  r : UInt64
  g : UInt64
  b : UInt64
def Hsv.M (c : Hsv) : UInt64 := fMax c.r c.g c.b
def Hsv.m (c : Hsv) : UInt64 := fMin c.r c.g c.b
def Hsv.R (c : Hsv) : UInt64 := Float64.sub c.M c.m
def Hsv.rc (c : Hsv) : UInt64 := Float64.div (Float64.sub c.M c.r) c.R
def Hsv.gc (c : Hsv) : UInt64 := Float64.div (Float64.sub c.M c.g) c.R
def Hsv.bc (c : Hsv) : UInt64 := Float64.div (Float64.sub c.M c.b) c.R
def Hsv.h0 (c : Hsv) : UInt64 := if (Float64.cmp c.r c.M == some Ordering.eq) = true then Float64.sub c.bc c.gc else if (Float64.cmp c.g c.M == some Ordering.eq) = true then Float64.sub (Float64.add f2 c.rc) c.bc else Float64.sub (Float64.add f4 c.gc) c.rc
def Hsv.h (c : Hsv) : UInt64 := (Float64.divmod (Float64.div c.h0 f6) f1).2
def Hsv.grey (c : Hsv) : Bool := Float64.cmp c.m c.M == some Ordering.eq
def Hsv.out (c : Hsv) : UInt64 × UInt64 × UInt64 := if c.grey = true then (0, 0, c.M) else (c.h, Float64.div c.R c.M, c.M)

section
variable {G : Gd} {d : Nat} {H : List AO}
abbrev env2 (pm cd : Value) (L : Addr) : Env := callEnv (mkFd 2 "rgb_to_hsv" "rgb_to_hsv" .none pm cd) L 28
def ns2 : List Str := ["r", "g", "b", "maxc", "minc", "rangec", "v", "s", "rc", "gc", "bc", "h"]
theorem hsv_spec (P : Prog G) (c : Hsv) (hz : c.grey = false → Float64.isZero c.M = false ∧ Float64.isZero c.R = false) :
    CallT G (d + 1) (.ext (.ref 28)) [.flt c.r, .flt c.g, .flt c.b] H (.ref H.length) (H ++ [.tup [.flt c.out.1, .flt c.out.2.1, .flt c.out.2.2]]) := by
  obtain ⟨pm, cd, F⟩ := P.fn (ns := ns2) P.f_rgb_to_hsv (by decide) (by decide) (by decide) (by decide) rfl rfl rfl
  refine CallT.def (ps := [("r", .flt c.r), ("g", .flt c.g), ("b", .flt c.b)]) (ls := [("maxc", .unset), ("minc", .unset), ("rangec", .unset), ("v", .unset), ("s", .unset), ("rc", .unset), ("gc", .unset), ("bc", .unset), ("h", .unset)]) (f := .ret (.ref H.length)) P.ok F (Binds.plain (names := ["r", "g", "b"]) rfl ?_) rfl (fun p h => ?_) fun L hE => ?_
  · exact len3 fun _ _ _ => rfl
  · simp only [List.mem_cons, List.not_mem_nil, or_false] at h
    rcases h with rfl | rfl | rfl | rfl | rfl | rfl | rfl | rfl | rfl <;> rfl
  · have abc : ∀ {r : LV}, At r "r" (.flt c.r) → At r "g" (.flt c.g) → At r "b" (.flt c.b) → ∀ {p1 p2 p3 : Pos}, Evs G d (env2 pm cd L) [.Name "r" p1, .Name "g" p2, .Name "b" p3] r H [.flt c.r, .flt c.g, .flt c.b] H := fun h1 h2 h3 => Evs.cons (Ev.loc hE h1) (Evs.cons (Ev.loc hE h2) (Evs.cons (Ev.loc hE h3) Evs.nil))
    cases hg : c.grey with
    | true =>
      have ho : c.out = (0, 0, c.M) := by unfold Hsv.out; rw [if_pos hg]
      rw [ho]
      exact ⟨_, Ex.cons (Ex1.assign hE (Ev.call (Ev.bltin P.ok hE P.n_max P.b_max) (abc at0 at1 at2) Cal.bltin CallT.maxF) pt3) (Ex.cons (Ex1.assign hE (Ev.call (Ev.bltin P.ok hE P.n_min P.b_min) (abc at0 at1 at2) Cal.bltin CallT.minF) pt4)
        (Ex.cons (Ex1.assign hE (Ev.bin (Ev.loc hE at3) (Ev.loc hE at4) Opr.subF) pt5) (Ex.cons (Ex1.assign hE (Ev.loc hE at3) pt6)
        (Ex.stop (Ex1.ifT (Et.cmp (Ev.loc hE at4) (Ev.loc hE at3) (hg ▸ Opr.eqF)) (Ex.one (Ex1.ret (Ev.tup (Evs.cons Ev.cFlt (Evs.cons Ev.cFlt (Evs.cons (Ev.loc hE at6) Evs.nil))) (by simp))))) (by intro e; cases e)))))⟩
    | false =>
      obtain ⟨zM, zR⟩ := hz hg
      have ho : c.out = (c.h, Float64.div c.R c.M, c.M) := by unfold Hsv.out; rw [if_neg (by rw [hg]; decide)]
      rw [ho]
      have hh : ∃ st : Ex1 G d (env2 pm cd L) (sN 2 9) [("r", .flt c.r), ("g", .flt c.g), ("b", .flt c.b), ("maxc", .flt c.M), ("minc", .flt c.m), ("rangec", .flt c.R), ("v", .flt c.M), ("s", .flt (Float64.div c.R c.M)), ("rc", .flt c.rc), ("gc", .flt c.gc), ("bc", .flt c.bc), ("h", .unset)] H .next
          [("r", .flt c.r), ("g", .flt c.g), ("b", .flt c.b), ("maxc", .flt c.M), ("minc", .flt c.m), ("rangec", .flt c.R), ("v", .flt c.M), ("s", .flt (Float64.div c.R c.M)), ("rc", .flt c.rc), ("gc", .flt c.gc), ("bc", .flt c.bc), ("h", .flt c.h0)] H, True := by
        refine ⟨?_, trivial⟩
        unfold Hsv.h0
        cases h1 : (Float64.cmp c.r c.M == some Ordering.eq) with
        | true =>
          rw [if_pos rfl]
          exact Ex1.ifT (Et.cmp (Ev.loc hE at0) (Ev.loc hE at3) (h1 ▸ Opr.eqF)) (Ex.one (Ex1.assign hE (Ev.bin (Ev.loc hE at10) (Ev.loc hE at9) Opr.subF) pt11))
        | false =>
          rw [if_neg (by decide)]
          refine Ex1.ifF (Et.cmp (Ev.loc hE at0) (Ev.loc hE at3) (h1 ▸ Opr.eqF)) (Ex.one ?_)
          cases h2 : (Float64.cmp c.g c.M == some Ordering.eq) with
          | true =>
            rw [if_pos rfl]
            exact Ex1.ifT (Et.cmp (Ev.loc hE at1) (Ev.loc hE at3) (h2 ▸ Opr.eqF)) (Ex.one (Ex1.assign hE (Ev.bin (Ev.bin Ev.cFlt (Ev.loc hE at8) Opr.addF) (Ev.loc hE at10) Opr.subF) pt11))
          | false =>
            rw [if_neg (by decide)]
            exact Ex1.ifF (Et.cmp (Ev.loc hE at1) (Ev.loc hE at3) (h2 ▸ Opr.eqF)) (Ex.one (Ex1.assign hE (Ev.bin (Ev.bin Ev.cFlt (Ev.loc hE at9) Opr.addF) (Ev.loc hE at8) Opr.subF) pt11))
      obtain ⟨st, _⟩ := hh
      exact ⟨_, Ex.cons (Ex1.assign hE (Ev.call (Ev.bltin P.ok hE P.n_max P.b_max) (abc at0 at1 at2) Cal.bltin CallT.maxF) pt3) (Ex.cons (Ex1.assign hE (Ev.call (Ev.bltin P.ok hE P.n_min P.b_min) (abc at0 at1 at2) Cal.bltin CallT.minF) pt4)
        (Ex.cons (Ex1.assign hE (Ev.bin (Ev.loc hE at3) (Ev.loc hE at4) Opr.subF) pt5) (Ex.cons (Ex1.assign hE (Ev.loc hE at3) pt6)
        (Ex.cons (Ex1.ifF (Et.cmp (Ev.loc hE at4) (Ev.loc hE at3) (hg ▸ Opr.eqF)) Ex.nil)
        (Ex.cons (Ex1.assign hE (Ev.bin (Ev.loc hE at5) (Ev.loc hE at3) (Opr.divF zM)) pt7)
        (Ex.cons (Ex1.assign hE (Ev.bin (Ev.bin (Ev.loc hE at3) (Ev.loc hE at0) Opr.subF) (Ev.loc hE at5) (Opr.divF zR)) pt8)
        (Ex.cons (Ex1.assign hE (Ev.bin (Ev.bin (Ev.loc hE at3) (Ev.loc hE at1) Opr.subF) (Ev.loc hE at5) (Opr.divF zR)) pt9)
        (Ex.cons (Ex1.assign hE (Ev.bin (Ev.bin (Ev.loc hE at3) (Ev.loc hE at2) Opr.subF) (Ev.loc hE at5) (Opr.divF zR)) pt10)
        (Ex.cons st
        (Ex.cons (Ex1.assign hE (Ev.bin (Ev.bin (Ev.loc hE at11) Ev.cFlt (Opr.divF (by decide +kernel))) Ev.cFlt (Opr.modF (by decide +kernel))) pt11)
        (Ex.one (Ex1.ret (Ev.tup (Evs.cons (Ev.loc hE at11) (Evs.cons (Ev.loc hE at7) (Evs.cons (Ev.loc hE at6) Evs.nil))) (by simp))))))))))))))⟩
end
end Mine

namespace Mine
open PySem PySem.W

/-! ## the counts' mixture, as the fields see it -/
def f8 : UInt64 := Float64.ofInt 8
def fHalf : UInt64 := 0x3FE0000000000000
def c8 (n : Int) : UInt64 := Float64.ofFrac (decide (n < 0) != decide ((8 : Int) < 0)) n.natAbs (8 : Int).natAbs
def hs (r g b : Int) : Hsv := ⟨c8 r, c8 g, c8 b⟩
def sprF (c : Hsv) : UInt64 := Float64.add (Float64.mul (Float64.mul c.out.2.1 c.out.2.2) f8) fHalf
def hueF (c : Hsv) (spread : Int) : UInt64 := Float64.add (Float64.mul (Float64.mul c.out.1 (Float64.ofInt 6)) (Float64.ofInt spread)) fHalf
def trI (x : UInt64) : Int := match Float64.decode x with
  | .fin s m e => Float64.truncOf s m e
  | _ => -1
def finF (x : UInt64) : Bool := match Float64.decode x with
  | .fin _ _ _ => true
  | _ => false
def spread (r g b : Int) : Int := trI (sprF (hs r g b))
def hueI (r g b : Int) : Int := trI (hueF (hs r g b) (spread r g b))
def corners : List (List Int) := [[1, 0], [1, 1], [0, 1], [-1, 0], [-1, -1], [0, -1], [1, 0]]
def sixth (r g b : Int) : Int := (hueI r g b).fdiv (spread r g b)
def more (r g b : Int) : Int := (hueI r g b).fmod (spread r g b)
def cor (i : Int) (j : Nat) : Int := (corners.getD i.toNat []).getD j 0
def east (r g b : Int) : Int := (spread r g b - more r g b) * cor (sixth r g b) 0 + more r g b * cor (sixth r g b + 1) 0
def north (r g b : Int) : Int := (spread r g b - more r g b) * cor (sixth r g b) 1 + more r g b * cor (sixth r g b + 1) 1
def seenOK (r g b : Int) : Bool :=
  ((hs r g b).grey || (!Float64.isZero (hs r g b).M && !Float64.isZero (hs r g b).R)) && !Float64.isInf (c8 r) && !Float64.isInf (c8 g) && !Float64.isInf (c8 b) && finF (sprF (hs r g b)) &&
  (if spread r g b = 0 then r - b == 0 && g - b == 0 && r - g == 0
   else finF (hueF (hs r g b) (spread r g b)) && decide (0 < spread r g b) && decide (spread r g b < 100) && !Float64.isInf (Float64.ofInt (spread r g b)) && decide (0 ≤ sixth r g b) && decide (sixth r g b < 6) && east r g b == r - b && north r g b == g - b)
theorem seen_all : ∀ r ∈ ([0, 1, 2] : List Int), ∀ g ∈ ([0, 1, 2] : List Int), ∀ b ∈ ([0, 1, 2] : List Int), seenOK r g b = true := by decide +kernel
end Mine

namespace Mine
open PySem PySem.W

theorem finF_dec {x : UInt64} (h : finF x = true) : ∃ s m e, Float64.decode x = .fin s m e ∧ Float64.truncOf s m e = trI x := by
  unfold finF at h
  unfold trI
  cases hd : Float64.decode x with
  | fin s m e => exact ⟨s, m, e, rfl, rfl⟩
  | _ => rw [hd] at h; cases h
section
variable {G : Gd} {d : Nat} {H : List AO}
theorem CallT.intF' {x : UInt64} (h : finF x = true) : CallT G d (.ext (.type "int")) [.flt x] H (.int (trI x)) H := by
  obtain ⟨s, m, e, h1, h2⟩ := finF_dec h
  rw [← h2]; exact CallT.intF h1
abbrev env73 (pm cd : Value) (L : Addr) : Env := callEnv (mkFd 73 "_law_seen" "_law_seen" .none pm cd) L 203
def ns73 : List Str := ["counts", "hue", "share", "value", "spread", "sixth", "more", "corners", "east", "north"]
abbrev lv73 (counts hue share value spread sixth more corners east north : AV) : LV := [("counts", counts), ("hue", hue), ("share", share), ("value", value), ("spread", spread), ("sixth", sixth), ("more", more), ("corners", corners), ("east", east), ("north", north)]

theorem push_get {K : List AO} {x y : AO} {i : Nat} (h : K[i]? = some x) : (K ++ [y])[i]? = some x := Grow.push.get h
theorem corners_ev {pm cd : Value} {r : LV} : ∃ i K', (∀ L, EnvOK G (env73 pm cd L) → Ev G d (env73 pm cd L) (compE (sN 73 4)) r H (.ref i) K') ∧ Grow H K' ∧ IL2 K' (.ref i) corners := by
  refine ⟨_, _, fun L hE => Ev.list (Evs.cons (Ev.list (Evs.cons Ev.cInt (Evs.cons Ev.cInt Evs.nil)) (by simp)) (Evs.cons (Ev.list (Evs.cons Ev.cInt (Evs.cons Ev.cInt Evs.nil)) (by simp)) (Evs.cons (Ev.list (Evs.cons Ev.cInt (Evs.cons Ev.cInt Evs.nil)) (by simp)) (Evs.cons (Ev.list (Evs.cons (Ev.neg Ev.cInt) (Evs.cons Ev.cInt Evs.nil)) (by simp))
    (Evs.cons (Ev.list (Evs.cons (Ev.neg Ev.cInt) (Evs.cons (Ev.neg Ev.cInt) Evs.nil)) (by simp)) (Evs.cons (Ev.list (Evs.cons Ev.cInt (Evs.cons (Ev.neg Ev.cInt) Evs.nil)) (by simp)) (Evs.cons (Ev.list (Evs.cons Ev.cInt (Evs.cons Ev.cInt Evs.nil)) (by simp)) Evs.nil))))))) (by simp), ?_, ?_⟩
  · exact (((((((Grow.push.trans .push).trans .push).trans .push).trans .push).trans .push).trans .push).trans .push)
  · exact ⟨_, _, rfl, get_last, .cons ⟨_, rfl, push_get (push_get (push_get (push_get (push_get (push_get (push_get get_last))))))⟩ (.cons ⟨_, rfl, push_get (push_get (push_get (push_get (push_get (push_get get_last)))))⟩ (.cons ⟨_, rfl, push_get (push_get (push_get (push_get (push_get get_last))))⟩
      (.cons ⟨_, rfl, push_get (push_get (push_get (push_get get_last)))⟩ (.cons ⟨_, rfl, push_get (push_get (push_get get_last))⟩ (.cons ⟨_, rfl, push_get (push_get get_last)⟩ (.cons ⟨_, rfl, push_get get_last⟩ .nil))))))⟩
theorem cor_get {i : Int} (h0 : 0 ≤ i) (h1 : i < 7) : corners[i.toNat]? = some [cor i 0, cor i 1] ∧ (cor i 0).natAbs < 2 ^ 64 ∧ (cor i 1).natAbs < 2 ^ 64 := by
  have : i = 0 ∨ i = 1 ∨ i = 2 ∨ i = 3 ∨ i = 4 ∨ i = 5 ∨ i = 6 := by (first | lia | omega)
  rcases this with rfl | rfl | rfl | rfl | rfl | rfl | rfl <;> exact ⟨rfl, by decide, by decide⟩
theorem seen_spec (P : Prog G) {a : AV} {r g b : Int} (ok : seenOK r g b = true) (ha : IL H a [r, g, b]) :
    ∃ x H', CallT G (d + 2) (.ext (.ref 203)) [a] H x H' ∧ Grow H H' ∧ IL2 H' x (hatL [r, g, b]) := by
  obtain ⟨pm, cd, F⟩ := P.fn (ns := ns73) P.f_law_seen (by decide) (by decide) (by decide) (by decide) rfl rfl rfl
  simp only [seenOK, Bool.and_eq_true, Bool.or_eq_true, Bool.not_eq_true'] at ok
  obtain ⟨⟨⟨⟨⟨k1, k2⟩, k3⟩, k4⟩, k5⟩, k6⟩ := ok
  have hz : (hs r g b).grey = false → Float64.isZero (hs r g b).M = false ∧ Float64.isZero (hs r g b).R = false := fun e => by
    rcases k1 with k1 | k1
    · rw [e] at k1; cases k1
    · exact k1
  have c1 := hsv_spec (d := d) (H := H) P (hs r g b) hz
  generalize hH1 : H ++ [AO.tup [AV.flt (hs r g b).out.1, AV.flt (hs r g b).out.2.1, AV.flt (hs r g b).out.2.2]] = H1 at c1
  have g1 : Grow H H1 := hH1 ▸ Grow.push
  have q1 : H1[H.length]? = some (AO.tup [AV.flt (hs r g b).out.1, AV.flt (hs r g b).out.2.1, AV.flt (hs r g b).out.2.2]) := hH1 ▸ get_last
  have bnd : Binds G (mkFd 73 "_law_seen" "_law_seen" .none pm cd) [a] [("counts", a)] := Binds.plain (names := ["counts"]) rfl (by
    exact len1 fun _ => rfl)
  have un : ∀ p ∈ ([("hue", .unset), ("share", .unset), ("value", .unset), ("spread", .unset), ("sixth", .unset), ("more", .unset), ("corners", .unset), ("east", .unset), ("north", .unset)] : LV), p.2 = .unset := fun p h => by
    simp only [List.mem_cons, List.not_mem_nil, or_false] at h
    rcases h with rfl | rfl | rfl | rfl | rfl | rfl | rfl | rfl | rfl <;> rfl
  obtain ⟨ia, rfl, hia⟩ := ha
  have il : IL H (.ref ia) [r, g, b] := ⟨ia, rfl, hia⟩
  have sm : ∀ {K : List AO}, Grow H K → CallT G (d + 1) (.ext (.builtin "sum")) [.ref ia] K (.int [r, g, b].sum) K := fun gk => CallT.sum (gk.get hia)
  have st0 : ∀ L, EnvOK G (env73 pm cd L) → Ex1 G (d + 1) (env73 pm cd L) (sN 73 0) (lv73 (.ref ia) .unset .unset .unset .unset .unset .unset .unset .unset .unset) H .next (lv73 (.ref ia) (.flt (hs r g b).out.1) (.flt (hs r g b).out.2.1) (.flt (hs r g b).out.2.2) .unset .unset .unset .unset .unset .unset) H1 := fun L hE =>
    Ex1.assignTup (xs := ["hue", "share", "value"]) hE (Ev.call (Ev.fn P hE P.g_rgb_to_hsv) (Evs.cons (Ev.bin (Ev.sub (Ev.loc hE at0) Ev.cInt (Sub.il il (by decide) rfl (by decide))) Ev.cInt (Opr.divI (by decide) k2))
      (Evs.cons (Ev.bin (Ev.sub (Ev.loc hE at0) Ev.cInt (Sub.il il (by decide) rfl (by decide))) Ev.cInt (Opr.divI (by decide) k3)) (Evs.cons (Ev.bin (Ev.sub (Ev.loc hE at0) Ev.cInt (Sub.il il (by decide) rfl (by decide))) Ev.cInt (Opr.divI (by decide) k4)) Evs.nil))) P.f_rgb_to_hsv.cal c1)
      (Unp.tup q1) (.cons (.cons (.cons .nil))) (.cons pt1 (.cons pt2 (.cons pt3 .nil)))
  have st1 : ∀ L, EnvOK G (env73 pm cd L) → Ex1 G (d + 1) (env73 pm cd L) (sN 73 1) (lv73 (.ref ia) (.flt (hs r g b).out.1) (.flt (hs r g b).out.2.1) (.flt (hs r g b).out.2.2) .unset .unset .unset .unset .unset .unset) H1 .next (lv73 (.ref ia) (.flt (hs r g b).out.1) (.flt (hs r g b).out.2.1) (.flt (hs r g b).out.2.2) (.int (spread r g b)) .unset .unset .unset .unset .unset) H1 := fun L hE =>
    Ex1.assign hE (Ev.call (Ev.bltin P.ok hE P.n_int P.b_int) (Evs.cons (Ev.bin (Ev.bin (Ev.bin (Ev.loc hE at2) (Ev.loc hE at3) Opr.mulF) Ev.cInt (Opr.mulFI (by decide +kernel))) Ev.cFlt Opr.addF) Evs.nil) Cal.type (CallT.intF' k5)) pt4
  have hsum : [r, g, b].sum = r + g + b := by simp; (first | lia | omega)
  rw [hsum] at sm
  by_cases h0 : spread r g b = 0
  · rw [if_pos h0] at k6
    simp only [Bool.and_eq_true, beq_iff_eq] at k6
    obtain ⟨⟨e1, e2⟩, e3⟩ := k6
    have hb : (spread r g b == 0) = true := by simpa using h0
    generalize hA : H1 ++ [AO.list [AV.int (r + g + b), AV.int 0]] = HA
    generalize hB : HA ++ [AO.list [AV.int 0, AV.int 0]] = HB
    generalize hC : HB ++ [AO.list [AV.int 0, AV.int 0]] = HC
    have gA : Grow H1 HA := hA ▸ Grow.push
    have gB : Grow HA HB := hB ▸ Grow.push
    have gC : Grow HB HC := hC ▸ Grow.push
    have qA : HA[H1.length]? = some (AO.list ([r + g + b, 0].map AV.int)) := hA ▸ get_last
    have qB : HB[HA.length]? = some (AO.list (([0, 0] : List Int).map AV.int)) := hB ▸ get_last
    have qC : HC[HB.length]? = some (AO.list (([0, 0] : List Int).map AV.int)) := hC ▸ get_last
    refine ⟨.ref HC.length, HC ++ [.list [.ref H1.length, .ref HA.length, .ref HB.length]], CallT.def (ps := [("counts", .ref ia)]) (ls := [("hue", .unset), ("share", .unset), ("value", .unset), ("spread", .unset), ("sixth", .unset), ("more", .unset), ("corners", .unset), ("east", .unset), ("north", .unset)]) (f := .ret (.ref HC.length)) P.ok F bnd rfl un fun L hE => ?_, (((g1.trans gA).trans gB).trans gC).trans .push, ?_⟩
    · exact ⟨_, Ex.cons (st0 L hE) (Ex.cons (st1 L hE) (Ex.stop (Ex1.ifT (Et.cmp (Ev.loc hE at4) Ev.cInt (hb ▸ Opr.eq)) (Ex.one (Ex1.ret (Ev.list (Evs.cons (hA ▸ Ev.list (Evs.cons (Ev.call (Ev.bltin P.ok hE P.n_sum P.b_sum) (Evs.cons (Ev.loc hE at0) Evs.nil) Cal.bltin (sm g1)) (Evs.cons Ev.cInt Evs.nil)) (by simp))
        (Evs.cons (hB ▸ Ev.list (Evs.cons Ev.cInt (Evs.cons Ev.cInt Evs.nil)) (by simp)) (Evs.cons (hC ▸ Ev.list (Evs.cons Ev.cInt (Evs.cons Ev.cInt Evs.nil)) (by simp)) Evs.nil))) (by simp))))) (by intro e; cases e)))⟩
    · have eh : hatL [r, g, b] = [[r + g + b, 0], [0, 0], [0, 0]] := by
        simp [hatL]; (first | lia | omega)
      rw [eh]
      exact ⟨_, _, rfl, get_last, .cons ⟨_, rfl, Grow.push.get (gC.get (gB.get qA))⟩ (.cons ⟨_, rfl, Grow.push.get (gC.get qB)⟩ (.cons ⟨_, rfl, Grow.push.get qC⟩ .nil))⟩
  · rw [if_neg h0] at k6
    simp only [Bool.and_eq_true, Bool.not_eq_true', beq_iff_eq, decide_eq_true_eq] at k6
    obtain ⟨⟨⟨⟨⟨⟨⟨j1, j2⟩, j3⟩, j4⟩, j5⟩, j6⟩, j7⟩, j8⟩ := k6
    have hb : (spread r g b == 0) = false := by simpa using h0
    generalize hA : H1 ++ [AO.tup [AV.int (sixth r g b), AV.int (more r g b)]] = HA
    have gA : Grow H1 HA := hA ▸ Grow.push
    have qA : HA[H1.length]? = some (AO.tup [AV.int (sixth r g b), AV.int (more r g b)]) := hA ▸ get_last
    have dm : CallT G (d + 1) (.ext (.builtin "divmod")) [.int (hueI r g b), .int (spread r g b)] H1 (.ref H1.length) HA := hA ▸ CallT.divmod h0 (by (first | lia | omega))
    have st3 : ∀ L, EnvOK G (env73 pm cd L) → Ex1 G (d + 1) (env73 pm cd L) (sN 73 3) (lv73 (.ref ia) (.flt (hs r g b).out.1) (.flt (hs r g b).out.2.1) (.flt (hs r g b).out.2.2) (.int (spread r g b)) .unset .unset .unset .unset .unset) H1 .next (lv73 (.ref ia) (.flt (hs r g b).out.1) (.flt (hs r g b).out.2.1) (.flt (hs r g b).out.2.2) (.int (spread r g b)) (.int (sixth r g b)) (.int (more r g b)) .unset .unset .unset) HA := fun L hE =>
      Ex1.assignTup (xs := ["sixth", "more"]) hE (Ev.call (Ev.bltin P.ok hE P.n_divmod P.b_divmod) (Evs.cons (Ev.call (Ev.bltin P.ok hE P.n_int P.b_int) (Evs.cons (Ev.bin (Ev.bin (Ev.bin (Ev.loc hE at1) Ev.cInt (Opr.mulFI (by decide +kernel))) (Ev.loc hE at4) (Opr.mulFI j4)) Ev.cFlt Opr.addF) Evs.nil) Cal.type (CallT.intF' j1)) (Evs.cons (Ev.loc hE at4) Evs.nil)) Cal.bltin dm)
        (Unp.tup qA) (.cons (.cons .nil)) (.cons pt5 (.cons pt6 .nil))
    obtain ⟨ic, HC, ec, gC, ilc⟩ := corners_ev (d := d + 1) (H := HA) (pm := pm) (cd := cd) (r := lv73 (.ref ia) (.flt (hs r g b).out.1) (.flt (hs r g b).out.2.1) (.flt (hs r g b).out.2.2) (.int (spread r g b)) (.int (sixth r g b)) (.int (more r g b)) .unset .unset .unset)
    obtain ⟨u1, u2, u3⟩ := cor_get (i := sixth r g b) j5 (by (first | lia | omega))
    obtain ⟨w1, w2, w3⟩ := cor_get (i := sixth r g b + 1) (by (first | lia | omega)) (by (first | lia | omega))
    obtain ⟨b1, ib1, sb1⟩ := Sub.il2 (G := G) (d := d + 1) ilc j5 u1 (by (first | lia | omega))
    obtain ⟨b2, ib2, sb2⟩ := Sub.il2 (G := G) (d := d + 1) ilc (k := sixth r g b + 1) (by (first | lia | omega)) w1 (by (first | lia | omega))
    have eE : east r g b = (spread r g b - more r g b) * cor (sixth r g b) 0 + more r g b * cor (sixth r g b + 1) 0 := rfl
    have eN : north r g b = (spread r g b - more r g b) * cor (sixth r g b) 1 + more r g b * cor (sixth r g b + 1) 1 := rfl
    have gI : Grow H HC := (g1.trans gA).trans gC
    generalize hX : HC ++ [AO.list [AV.int (r + g + b), AV.int 0]] = HX
    generalize hY : HX ++ [AO.list [AV.int (east r g b), AV.int (north r g b)]] = HY
    generalize hZ : HY ++ [AO.list [AV.int (east r g b - north r g b), AV.int (-north r g b)]] = HZ
    have gX : Grow HC HX := hX ▸ Grow.push
    have gY : Grow HX HY := hY ▸ Grow.push
    have gZ : Grow HY HZ := hZ ▸ Grow.push
    have qX : HX[HC.length]? = some (AO.list ([r + g + b, 0].map AV.int)) := hX ▸ get_last
    have qY : HY[HX.length]? = some (AO.list ([east r g b, north r g b].map AV.int)) := hY ▸ get_last
    have qZ : HZ[HY.length]? = some (AO.list ([east r g b - north r g b, -north r g b].map AV.int)) := hZ ▸ get_last
    refine ⟨.ref HZ.length, HZ ++ [.list [.ref HC.length, .ref HX.length, .ref HY.length]], CallT.def (ps := [("counts", .ref ia)]) (ls := [("hue", .unset), ("share", .unset), ("value", .unset), ("spread", .unset), ("sixth", .unset), ("more", .unset), ("corners", .unset), ("east", .unset), ("north", .unset)]) (f := .ret (.ref HZ.length)) P.ok F bnd rfl un fun L hE => ?_, (((gI.trans gX).trans gY).trans gZ).trans .push, ?_⟩
    · exact ⟨_, Ex.cons (st0 L hE) (Ex.cons (st1 L hE) (Ex.cons (Ex1.ifF (Et.cmp (Ev.loc hE at4) Ev.cInt (hb ▸ Opr.eq)) Ex.nil) (Ex.cons (st3 L hE) (Ex.cons (Ex1.assign hE (ec L hE) pt7)
        (Ex.cons (Ex1.assign hE (Ev.bin (Ev.bin (Ev.bin (Ev.loc hE at4) (Ev.loc hE at6) Opr.sub) (Ev.sub (Ev.sub (Ev.loc hE at7) (Ev.loc hE at5) sb1) Ev.cInt (Sub.il ib1 (by decide) rfl (by decide))) (Opr.mul (mulR u2))) (Ev.bin (Ev.loc hE at6) (Ev.sub (Ev.sub (Ev.loc hE at7) (Ev.bin (Ev.loc hE at5) Ev.cInt Opr.add) sb2) Ev.cInt (Sub.il ib2 (by decide) rfl (by decide))) (Opr.mul (mulR w2))) (eE ▸ Opr.add)) pt8)
        (Ex.cons (Ex1.assign hE (Ev.bin (Ev.bin (Ev.bin (Ev.loc hE at4) (Ev.loc hE at6) Opr.sub) (Ev.sub (Ev.sub (Ev.loc hE at7) (Ev.loc hE at5) sb1) Ev.cInt (Sub.il ib1 (by decide) rfl (by decide))) (Opr.mul (mulR u3))) (Ev.bin (Ev.loc hE at6) (Ev.sub (Ev.sub (Ev.loc hE at7) (Ev.bin (Ev.loc hE at5) Ev.cInt Opr.add) sb2) Ev.cInt (Sub.il ib2 (by decide) rfl (by decide))) (Opr.mul (mulR w3))) (eN ▸ Opr.add)) pt9)
        (Ex.one (Ex1.ret (Ev.list (Evs.cons (hX ▸ Ev.list (Evs.cons (Ev.call (Ev.bltin P.ok hE P.n_sum P.b_sum) (Evs.cons (Ev.loc hE at0) Evs.nil) Cal.bltin (sm gI)) (Evs.cons Ev.cInt Evs.nil)) (by simp))
          (Evs.cons (hY ▸ Ev.list (Evs.cons (Ev.loc hE at8) (Evs.cons (Ev.loc hE at9) Evs.nil)) (by simp)) (Evs.cons (hZ ▸ Ev.list (Evs.cons (Ev.bin (Ev.loc hE at8) (Ev.loc hE at9) Opr.sub) (Evs.cons (Ev.neg (Ev.loc hE at9)) Evs.nil)) (by simp)) Evs.nil))) (by simp))))))))))⟩
    · have eh : hatL [r, g, b] = [[r + g + b, 0], [east r g b, north r g b], [east r g b - north r g b, -north r g b]] := by
        simp [hatL]; (first | lia | omega)
      rw [eh]
      exact ⟨_, _, rfl, get_last, .cons ⟨_, rfl, Grow.push.get (gZ.get (gY.get qX))⟩ (.cons ⟨_, rfl, Grow.push.get (gZ.get qY)⟩ (.cons ⟨_, rfl, Grow.push.get qZ⟩ .nil))⟩
end
end Mine

namespace Mine
open PySem PySem.W

def whB : Stmt → List Stmt
  | .While _ b _ _ => b
  | _ => []
theorem get_ne {K : List AO} {i j : Nat} {x y : AO} (h : K[j]? = some y) (hij : i ≠ j) : (K.set i x)[j]? = some y := by
  rw [List.getElem?_set_ne hij]; exact h
section
variable {G : Gd} {d : Nat} {H : List AO}
abbrev env4 (pm cd : Value) (L : Addr) : Env := callEnv (mkFd 4 "compute_powers" "compute_powers" (.ref 29) pm cd) L 36
def ns4 : List Str := ["w", "base", "more_than", "show", "seen", "need", "ws", "lo", "d", "it", "first", "this", "hi", "sq"]
abbrev lv4 (w base more show_ seen need ws lo d it first this hi sq : AV) : LV := [("w", w), ("base", base), ("more_than", more), ("show", show_), ("seen", seen), ("need", need), ("ws", ws), ("lo", lo), ("d", d), ("it", it), ("first", first), ("this", this), ("hi", hi), ("sq", sq)]

theorem bind4 (P : Prog G) (pm cd : Value) (x y z : AV) : Binds G (mkFd 4 "compute_powers" "compute_powers" (.ref 29) pm cd) [x, y, z] [("w", x), ("base", y), ("more_than", z), ("show", .bool false)] := fun s al vs hk hvs => by
  obtain ⟨a, b, c, rfl, ha, hb, hc⟩ := vrs3 hvs
  obtain ⟨o, ho, rfl⟩ := P.o_compute_powers
  exact ⟨[("w", a), ("base", b), ("more_than", c), ("show", .bool false)], BindsTo.of_defaults rfl (hk _ _ ho) rfl rfl rfl, .cons ⟨rfl, ha⟩ (.cons ⟨rfl, hb⟩ (.cons ⟨rfl, hc⟩ (.cons ⟨rfl, rfl⟩ .nil)))⟩

theorem powers_spec (P : Prog G) {m : Nat} (hm : m = 1 ∨ m = 2 ∨ m = 3 ∨ m = 4) :
    ∃ i H', CallT G (d + 1) (.ext (.ref 36)) [.int (2 * (m : Int)), .int 3, .int (m : Int)] H (.ref i) H' ∧ Grow H H' ∧ H'[i]? = some (dictI G [((m : Int), .int (3 ^ m))]) := by
  obtain ⟨pm, cd, F⟩ := P.fn (ns := ns4) P.f_compute_powers (by decide) (by decide) (by decide) (by decide) rfl rfl rfl
  have hm1 : 1 ≤ m := by (first | lia | omega)
  have hm4 : m ≤ 4 := by (first | lia | omega)
  generalize hH1 : H ++ [setS G []] = H1
  generalize hH2 : H1 ++ [setF G] = H2
  generalize hH3 : H2 ++ [setS G [2 * (m : Int)]] = H3
  have l1 : H1.length = H.length + 1 := by rw [← hH1]; simp
  have l2 : H2.length = H.length + 2 := by rw [← hH2]; simp [l1]
  have l3 : H3.length = H.length + 3 := by rw [← hH3]; simp [l2]
  generalize hi0 : H.length = i0 at *
  generalize hi1 : H1.length = i1 at *
  generalize hi2 : H2.length = i2 at *
  have a0 : H3[i0]? = some (setS G []) := by rw [← hH3, ← hH2, ← hH1, ← hi0]; exact Grow.push.get (Grow.push.get get_last)
  have a1 : H3[i1]? = some (setF G) := by rw [← hH3, ← hH2, ← hi1]; exact Grow.push.get get_last
  have a2 : H3[i2]? = some (setS G [2 * (m : Int)]) := by rw [← hH3, ← hi2]; exact get_last
  have n01 : i0 ≠ i1 := by (first | lia | omega)
  have n02 : i0 ≠ i2 := by (first | lia | omega)
  have n12 : i1 ≠ i2 := by (first | lia | omega)
  generalize hK1 : H3.set i2 (setS G []) = K1
  have b0 : K1[i0]? = some (setS G []) := hK1 ▸ get_ne a0 n02.symm
  have b1 : K1[i1]? = some (setF G) := hK1 ▸ get_ne a1 n12.symm
  have b2 : K1[i2]? = some (setS G []) := hK1 ▸ get_set a2
  generalize hK2 : K1.set i0 (setS G ([] ++ [2 * (m : Int)])) = K2
  have c0 : K2[i0]? = some (setS G [2 * (m : Int)]) := hK2 ▸ get_set b0
  have c1 : K2[i1]? = some (setF G) := hK2 ▸ get_ne b1 n01
  have c2 : K2[i2]? = some (setS G []) := hK2 ▸ get_ne b2 n02
  generalize hK3 : K2.set i1 (set1 G m) = K3
  have d0 : K3[i0]? = some (setS G [2 * (m : Int)]) := hK3 ▸ get_ne c0 n01.symm
  have d1 : K3[i1]? = some (set1 G m) := hK3 ▸ get_set c1
  have d2 : K3[i2]? = some (setS G []) := hK3 ▸ get_ne c2 n12
  generalize hK4 : K3.set i2 (setS G ([] ++ [(m : Int)])) = K4
  have e0 : K4[i0]? = some (setS G [2 * (m : Int)]) := hK4 ▸ get_ne d0 n02.symm
  have e1 : K4[i1]? = some (set1 G m) := hK4 ▸ get_ne d1 n12.symm
  have e2 : K4[i2]? = some (setS G [(m : Int)]) := hK4 ▸ get_set d2
  generalize hK5 : K4.set i2 (setS G []) = K5
  have f0 : K5[i0]? = some (setS G [2 * (m : Int)]) := hK5 ▸ get_ne e0 n02.symm
  have f1 : K5[i1]? = some (set1 G m) := hK5 ▸ get_ne e1 n12.symm
  have f2 : K5[i2]? = some (setS G []) := hK5 ▸ get_set e2
  have lK5 : K5.length = i0 + 3 := by rw [← hK5, ← hK4, ← hK3, ← hK2, ← hK1]; simp [l3]
  generalize hK6 : K5 ++ [dictI G []] = K6
  have lK6 : K6.length = i0 + 4 := by rw [← hK6]; simp [lK5]
  have g1 : K6[i1]? = some (set1 G m) := hK6 ▸ Grow.push.get f1
  generalize hi3 : K5.length = i3 at *
  have g3 : K6[i3]? = some (dictI G []) := by rw [← hK6, ← hi3]; exact get_last
  generalize hK7 : K6 ++ [.list [.int (m : Int)]] = K7
  generalize hi4 : K6.length = i4 at *
  have k3 : K7[i3]? = some (dictI G []) := hK7 ▸ Grow.push.get g3
  have k4 : K7[i4]? = some (.list [.int (m : Int)]) := by rw [← hK7, ← hi4]; exact get_last
  have lK7 : K7.length = i0 + 5 := by rw [← hK7]; simp [hi4, lK6]
  generalize hK8 : K7 ++ [itL i4 0] = K8
  generalize hi5 : K7.length = i5 at *
  have p3 : K8[i3]? = some (dictI G []) := hK8 ▸ Grow.push.get k3
  have p4 : K8[i4]? = some (.list [.int (m : Int)]) := hK8 ▸ Grow.push.get k4
  have p5 : K8[i5]? = some (itL i4 0) := by rw [← hK8, ← hi5]; exact get_last
  generalize hK9 : K8.set i5 (itL i4 (0 + 1)) = K9
  have q3 : K9[i3]? = some (dictI G []) := hK9 ▸ get_ne p3 (by (first | lia | omega))
  have q4 : K9[i4]? = some (.list [.int (m : Int)]) := hK9 ▸ get_ne p4 (by (first | lia | omega))
  have q5 : K9[i5]? = some (itL i4 1) := hK9 ▸ get_set p5
  generalize hK10 : K9.set i3 (dictI G (storA [] (m : Int) (.int ((3 : Int) ^ (m : Int).toNat)))) = K10
  have r3 : K10[i3]? = some (dictI G [((m : Int), .int (3 ^ m))]) := hK10 ▸ get_set q3
  have r4 : K10[i4]? = some (.list [.int (m : Int)]) := hK10 ▸ get_ne q4 (by (first | lia | omega))
  have r5 : K10[i5]? = some (itL i4 1) := hK10 ▸ get_ne q5 (by (first | lia | omega))
  have s3 : (K10.set i5 itE)[i3]? = some (dictI G [((m : Int), .int (3 ^ m))]) := get_ne r3 (by (first | lia | omega))
  have grow : Grow H (K10.set i5 itE) := by
    have t3 : Grow H H3 := by rw [← hH3, ← hH2, ← hH1]; exact (Grow.push.trans .push).trans .push
    have t5 : Grow H K5 := by
      rw [← hK5, ← hK4, ← hK3, ← hK2, ← hK1]
      exact ((((t3.set (by (first | lia | omega))).set (by (first | lia | omega))).set (by (first | lia | omega))).set (by (first | lia | omega))).set (by (first | lia | omega))
    have t8 : Grow H K8 := by rw [← hK8, ← hK7, ← hK6]; exact ((t5.trans .push).trans .push).trans .push
    rw [← hK10, ← hK9]
    exact ((t8.set (by (first | lia | omega))).set (by (first | lia | omega))).set (by (first | lia | omega))
  have tw1 : decide (2 * (m : Int) ∈ ([] : List Int)) = false := rfl
  have tw2 : decide (2 * (m : Int) ≤ (m : Int)) = false := by simp; (first | lia | omega)
  have tw3 : decide ((m : Int) ∈ [2 * (m : Int)]) = false := by simp; (first | lia | omega)
  have tw4 : decide ((m : Int) ≤ (m : Int)) = true := by simp
  have half : (2 * (m : Int)).fdiv (2 ^ (1 : Int).toNat) = (m : Int) := by
    rcases hm with rfl | rfl | rfl | rfl <;> decide
  have even : Builtin.bitAnd (2 * (m : Int)) 1 = 0 := by
    rcases hm with rfl | rfl | rfl | rfl <;> decide
  have bits : (Builtin.Int.intBits 3 : Int) * (m : Int) ≤ 2 ^ 27 := by
    rcases hm with rfl | rfl | rfl | rfl <;> decide
  refine ⟨i3, K10.set i5 itE, CallT.def (ps := [("w", .int (2 * (m : Int))), ("base", .int 3), ("more_than", .int (m : Int)), ("show", .bool false)]) (ls := [("seen", .unset), ("need", .unset), ("ws", .unset), ("lo", .unset), ("d", .unset), ("it", .unset), ("first", .unset), ("this", .unset), ("hi", .unset), ("sq", .unset)]) (f := .ret (.ref i3)) P.ok F (bind4 P pm cd _ _ _) rfl (fun p h => by
    simp only [List.mem_cons, List.not_mem_nil, or_false] at h
    rcases h with rfl | rfl | rfl | rfl | rfl | rfl | rfl | rfl | rfl | rfl <;> rfl) fun L hE => ?_, grow, s3⟩
  have st0 : Ex1 G d (env4 pm cd L) (sN 4 0) (lv4 (.int (2 * (m : Int))) (.int 3) (.int (m : Int)) (.bool false) .unset .unset .unset .unset .unset .unset .unset .unset .unset .unset) H .next (lv4 (.int (2 * (m : Int))) (.int 3) (.int (m : Int)) (.bool false) (.ref i0) .unset .unset .unset .unset .unset .unset .unset .unset .unset) H1 :=
    Ex1.assign hE (hi0 ▸ hH1 ▸ Ev.call (Ev.bltin P.ok hE P.n_set P.b_set) Evs.nil Cal.type CallT.set0) pt4
  have st1 : Ex1 G d (env4 pm cd L) (sN 4 1) (lv4 (.int (2 * (m : Int))) (.int 3) (.int (m : Int)) (.bool false) (.ref i0) .unset .unset .unset .unset .unset .unset .unset .unset .unset) H1 .next (lv4 (.int (2 * (m : Int))) (.int 3) (.int (m : Int)) (.bool false) (.ref i0) (.ref i1) .unset .unset .unset .unset .unset .unset .unset .unset) H2 :=
    Ex1.assign hE (hi1 ▸ hH2 ▸ Ev.call (Ev.bltin P.ok hE P.n_set P.b_set) Evs.nil Cal.type CallT.setL) pt5
  have oShr : Opr G d (binaryOp .RShift) (.int (2 * (m : Int))) (.int 1) K2 (.int (m : Int)) K2 := by
    have := Opr.shr (G := G) (d := d) (H := K2) (x := 2 * (m : Int)) (y := 1) (by decide)
    rw [half] at this; exact this
  have oAnd : Opr G d (binaryOp .BitAnd) (.int (2 * (m : Int))) (.int 1) K4 (.int 0) K4 := by
    have := Opr.and (G := G) (d := d) (H := K4) (x := 2 * (m : Int)) (y := 1)
    rw [even] at this; exact this
  have st2 : Ex1 G d (env4 pm cd L) (sN 4 2) (lv4 (.int (2 * (m : Int))) (.int 3) (.int (m : Int)) (.bool false) (.ref i0) (.ref i1) .unset .unset .unset .unset .unset .unset .unset .unset) H2 .next (lv4 (.int (2 * (m : Int))) (.int 3) (.int (m : Int)) (.bool false) (.ref i0) (.ref i1) (.ref i2) .unset .unset .unset .unset .unset .unset .unset) H3 :=
    Ex1.assign hE (hi2 ▸ hH3 ▸ Ev.setD (nm := "compute_powers") F.code (Ev.loc hE at0)) pt6
  have b10 : Ex1 G d (env4 pm cd L) (nth (whB (sN 4 3)) 0) (lv4 (.int (2 * (m : Int))) (.int 3) (.int (m : Int)) (.bool false) (.ref i0) (.ref i1) (.ref i2) .unset .unset .unset .unset .unset .unset .unset) H3 .next (lv4 (.int (2 * (m : Int))) (.int 3) (.int (m : Int)) (.bool false) (.ref i0) (.ref i1) (.ref i2) .unset .unset .unset .unset .unset .unset .unset) K1 :=
    Ex1.assign hE (hK1 ▸ Ev.meth (Ev.loc hE at6) (IsT.set a2) meth_setpop Evs.nil (CallT.setpop a2)) pt0
  have b11 : Ex1 G d (env4 pm cd L) (nth (whB (sN 4 3)) 1) (lv4 (.int (2 * (m : Int))) (.int 3) (.int (m : Int)) (.bool false) (.ref i0) (.ref i1) (.ref i2) .unset .unset .unset .unset .unset .unset .unset) K1 .next (lv4 (.int (2 * (m : Int))) (.int 3) (.int (m : Int)) (.bool false) (.ref i0) (.ref i1) (.ref i2) .unset .unset .unset .unset .unset .unset .unset) K1 :=
    Ex1.ifF (Et.or (Et.cmp (Ev.loc hE at0) (Ev.loc hE at4) (tw1 ▸ Opr.inSet b0 (by simp))) (fun _ => Et.cmp (Ev.loc hE at0) (Ev.loc hE at2) (tw2 ▸ Opr.le)) (fun x => by cases x)) Ex.nil
  have b12 : Ex1 G d (env4 pm cd L) (nth (whB (sN 4 3)) 2) (lv4 (.int (2 * (m : Int))) (.int 3) (.int (m : Int)) (.bool false) (.ref i0) (.ref i1) (.ref i2) .unset .unset .unset .unset .unset .unset .unset) K1 .next (lv4 (.int (2 * (m : Int))) (.int 3) (.int (m : Int)) (.bool false) (.ref i0) (.ref i1) (.ref i2) .unset .unset .unset .unset .unset .unset .unset) K2 :=
    Ex1.expr hE (hK2 ▸ Ev.meth (Ev.loc hE at4) (IsT.set b0) meth_setadd (Evs.cons (Ev.loc hE at0) Evs.nil) (CallT.setadd b0 (by simp) (by simp)))
  have b13 : Ex1 G d (env4 pm cd L) (nth (whB (sN 4 3)) 3) (lv4 (.int (2 * (m : Int))) (.int 3) (.int (m : Int)) (.bool false) (.ref i0) (.ref i1) (.ref i2) .unset .unset .unset .unset .unset .unset .unset) K2 .next (lv4 (.int (2 * (m : Int))) (.int 3) (.int (m : Int)) (.bool false) (.ref i0) (.ref i1) (.ref i2) (.int (m : Int)) .unset .unset .unset .unset .unset .unset) K2 :=
    Ex1.assign hE (Ev.bin (Ev.loc hE at0) (Ev.cInt (i := 1)) oShr) pt7
  have b14 : Ex1 G d (env4 pm cd L) (nth (whB (sN 4 3)) 4) (lv4 (.int (2 * (m : Int))) (.int 3) (.int (m : Int)) (.bool false) (.ref i0) (.ref i1) (.ref i2) (.int (m : Int)) .unset .unset .unset .unset .unset .unset) K2 .next (lv4 (.int (2 * (m : Int))) (.int 3) (.int (m : Int)) (.bool false) (.ref i0) (.ref i1) (.ref i2) (.int (m : Int)) .unset .unset .unset .unset .unset .unset) K3 :=
    Ex1.expr hE (hK3 ▸ Ev.meth (Ev.loc hE at5) (IsT.setF c1) meth_setadd (Evs.cons (Ev.loc hE at7) Evs.nil) (CallT.setadd1 c1 hm))
  have b15 : Ex1 G d (env4 pm cd L) (nth (whB (sN 4 3)) 5) (lv4 (.int (2 * (m : Int))) (.int 3) (.int (m : Int)) (.bool false) (.ref i0) (.ref i1) (.ref i2) (.int (m : Int)) .unset .unset .unset .unset .unset .unset) K3 .next (lv4 (.int (2 * (m : Int))) (.int 3) (.int (m : Int)) (.bool false) (.ref i0) (.ref i1) (.ref i2) (.int (m : Int)) .unset .unset .unset .unset .unset .unset) K4 :=
    Ex1.expr hE (hK4 ▸ Ev.meth (Ev.loc hE at6) (IsT.set d2) meth_setadd (Evs.cons (Ev.loc hE at7) Evs.nil) (CallT.setadd d2 (by simp) (by simp)))
  have b16 : Ex1 G d (env4 pm cd L) (nth (whB (sN 4 3)) 6) (lv4 (.int (2 * (m : Int))) (.int 3) (.int (m : Int)) (.bool false) (.ref i0) (.ref i1) (.ref i2) (.int (m : Int)) .unset .unset .unset .unset .unset .unset) K4 .next (lv4 (.int (2 * (m : Int))) (.int 3) (.int (m : Int)) (.bool false) (.ref i0) (.ref i1) (.ref i2) (.int (m : Int)) .unset .unset .unset .unset .unset .unset) K4 :=
    Ex1.ifF (Et.val (Ev.bin (Ev.loc hE at0) Ev.cInt oAnd) Tru.int) Ex.nil
  have body1 : Ex G d (env4 pm cd L) (whB (sN 4 3)) (lv4 (.int (2 * (m : Int))) (.int 3) (.int (m : Int)) (.bool false) (.ref i0) (.ref i1) (.ref i2) .unset .unset .unset .unset .unset .unset .unset) H3 .next (lv4 (.int (2 * (m : Int))) (.int 3) (.int (m : Int)) (.bool false) (.ref i0) (.ref i1) (.ref i2) (.int (m : Int)) .unset .unset .unset .unset .unset .unset) K4 :=
    Ex.cons b10 (Ex.cons b11 (Ex.cons b12 (Ex.cons b13 (Ex.cons b14 (Ex.cons b15 (Ex.one b16))))))
  have b20 : Ex1 G d (env4 pm cd L) (nth (whB (sN 4 3)) 0) (lv4 (.int (2 * (m : Int))) (.int 3) (.int (m : Int)) (.bool false) (.ref i0) (.ref i1) (.ref i2) (.int (m : Int)) .unset .unset .unset .unset .unset .unset) K4 .next (lv4 (.int (m : Int)) (.int 3) (.int (m : Int)) (.bool false) (.ref i0) (.ref i1) (.ref i2) (.int (m : Int)) .unset .unset .unset .unset .unset .unset) K5 :=
    Ex1.assign hE (hK5 ▸ Ev.meth (Ev.loc hE at6) (IsT.set e2) meth_setpop Evs.nil (CallT.setpop e2)) pt0
  have b21 : Ex1 G d (env4 pm cd L) (nth (whB (sN 4 3)) 1) (lv4 (.int (m : Int)) (.int 3) (.int (m : Int)) (.bool false) (.ref i0) (.ref i1) (.ref i2) (.int (m : Int)) .unset .unset .unset .unset .unset .unset) K5 .cont (lv4 (.int (m : Int)) (.int 3) (.int (m : Int)) (.bool false) (.ref i0) (.ref i1) (.ref i2) (.int (m : Int)) .unset .unset .unset .unset .unset .unset) K5 :=
    Ex1.ifT (Et.or (Et.cmp (Ev.loc hE at0) (Ev.loc hE at4) (tw3 ▸ Opr.inSet f0 (by simp))) (fun _ => Et.cmp (Ev.loc hE at0) (Ev.loc hE at2) (tw4 ▸ Opr.le)) (fun x => by cases x)) (Ex.one Ex1.cont)
  have body2 : Ex G d (env4 pm cd L) (whB (sN 4 3)) (lv4 (.int (2 * (m : Int))) (.int 3) (.int (m : Int)) (.bool false) (.ref i0) (.ref i1) (.ref i2) (.int (m : Int)) .unset .unset .unset .unset .unset .unset) K4 .cont (lv4 (.int (m : Int)) (.int 3) (.int (m : Int)) (.bool false) (.ref i0) (.ref i1) (.ref i2) (.int (m : Int)) .unset .unset .unset .unset .unset .unset) K5 :=
    Ex.cons b20 (Ex.stop b21 (by intro e; cases e))
  have st3 : Ex1 G d (env4 pm cd L) (sN 4 3) (lv4 (.int (2 * (m : Int))) (.int 3) (.int (m : Int)) (.bool false) (.ref i0) (.ref i1) (.ref i2) .unset .unset .unset .unset .unset .unset .unset) H3 .next (lv4 (.int (m : Int)) (.int 3) (.int (m : Int)) (.bool false) (.ref i0) (.ref i1) (.ref i2) (.int (m : Int)) .unset .unset .unset .unset .unset .unset) K5 :=
    Ex1.while (n := 2) (WL.next (Et.val (Ev.loc hE at6) (Tru.set a2 (by simp))) body1 (.inl rfl) (WL.next (Et.val (Ev.loc hE at6) (Tru.set e2 (by simp))) body2 (.inr rfl) (WL.stop (Et.val (Ev.loc hE at6) (Tru.set f2 (by simp))))))
  have st4 : Ex1 G d (env4 pm cd L) (sN 4 4) (lv4 (.int (m : Int)) (.int 3) (.int (m : Int)) (.bool false) (.ref i0) (.ref i1) (.ref i2) (.int (m : Int)) .unset .unset .unset .unset .unset .unset) K5 .next (lv4 (.int (m : Int)) (.int 3) (.int (m : Int)) (.bool false) (.ref i0) (.ref i1) (.ref i2) (.int (m : Int)) (.ref i3) .unset .unset .unset .unset .unset) K6 :=
    Ex1.assign hE (hi3 ▸ hK6 ▸ Ev.dict0) pt8
  have st5 : Ex1 G d (env4 pm cd L) (sN 4 5) (lv4 (.int (m : Int)) (.int 3) (.int (m : Int)) (.bool false) (.ref i0) (.ref i1) (.ref i2) (.int (m : Int)) (.ref i3) .unset .unset .unset .unset .unset) K6 .next (lv4 (.int (m : Int)) (.int 3) (.int (m : Int)) (.bool false) (.ref i0) (.ref i1) (.ref i2) (.int (m : Int)) (.ref i3) .unset .unset .unset .unset .unset) K6 :=
    Ex1.ifF (Et.not (Et.val (Ev.loc hE at5) (Tru.set1 g1))) Ex.nil
  have st6 : Ex1 G d (env4 pm cd L) (sN 4 6) (lv4 (.int (m : Int)) (.int 3) (.int (m : Int)) (.bool false) (.ref i0) (.ref i1) (.ref i2) (.int (m : Int)) (.ref i3) .unset .unset .unset .unset .unset) K6 .next (lv4 (.int (m : Int)) (.int 3) (.int (m : Int)) (.bool false) (.ref i0) (.ref i1) (.ref i2) (.int (m : Int)) (.ref i3) (.ref i5) .unset .unset .unset .unset) K8 :=
    Ex1.assign hE (hi5 ▸ hK8 ▸ Ev.call (Ev.bltin P.ok hE P.n_iter P.b_iter) (Evs.cons (hi4 ▸ hK7 ▸ Ev.call (Ev.bltin P.ok hE P.n_sorted P.b_sorted) (Evs.cons (Ev.loc hE at5) Evs.nil) Cal.bltin (CallT.sorted1 g1)) Evs.nil) Cal.bltin (CallT.iterL k4)) pt9
  have st7 : Ex1 G d (env4 pm cd L) (sN 4 7) (lv4 (.int (m : Int)) (.int 3) (.int (m : Int)) (.bool false) (.ref i0) (.ref i1) (.ref i2) (.int (m : Int)) (.ref i3) (.ref i5) .unset .unset .unset .unset) K8 .next (lv4 (.int (m : Int)) (.int 3) (.int (m : Int)) (.bool false) (.ref i0) (.ref i1) (.ref i2) (.int (m : Int)) (.ref i3) (.ref i5) (.int (m : Int)) .unset .unset .unset) K9 :=
    Ex1.assign hE (hK9 ▸ Ev.call (Ev.bltin P.ok hE P.n_next P.b_next) (Evs.cons (Ev.loc hE at9) Evs.nil) Cal.bltin (CallT.nextL p5 p4 rfl)) pt10
  have st8 : Ex1 G d (env4 pm cd L) (sN 4 8) (lv4 (.int (m : Int)) (.int 3) (.int (m : Int)) (.bool false) (.ref i0) (.ref i1) (.ref i2) (.int (m : Int)) (.ref i3) (.ref i5) (.int (m : Int)) .unset .unset .unset) K9 .next (lv4 (.int (m : Int)) (.int 3) (.int (m : Int)) (.bool false) (.ref i0) (.ref i1) (.ref i2) (.int (m : Int)) (.ref i3) (.ref i5) (.int (m : Int)) .unset .unset .unset) K9 :=
    Ex1.ifF (Et.val (Ev.loc hE at3) Tru.bool) Ex.nil
  have st9 : Ex1 G d (env4 pm cd L) (sN 4 9) (lv4 (.int (m : Int)) (.int 3) (.int (m : Int)) (.bool false) (.ref i0) (.ref i1) (.ref i2) (.int (m : Int)) (.ref i3) (.ref i5) (.int (m : Int)) .unset .unset .unset) K9 .next (lv4 (.int (m : Int)) (.int 3) (.int (m : Int)) (.bool false) (.ref i0) (.ref i1) (.ref i2) (.int (m : Int)) (.ref i3) (.ref i5) (.int (m : Int)) .unset .unset .unset) K10 :=
    hK10 ▸ Ex1.assignSub (Ev.bin (Ev.loc hE at1) (Ev.loc hE at10) (Opr.pow (by (first | lia | omega)) bits)) (Ev.loc hE at8) (Ev.loc hE at10) (Stores.dict q3 (by simp))
  have st10 : Ex1 G d (env4 pm cd L) (sN 4 10) (lv4 (.int (m : Int)) (.int 3) (.int (m : Int)) (.bool false) (.ref i0) (.ref i1) (.ref i2) (.int (m : Int)) (.ref i3) (.ref i5) (.int (m : Int)) .unset .unset .unset) K10 .next (lv4 (.int (m : Int)) (.int 3) (.int (m : Int)) (.bool false) (.ref i0) (.ref i1) (.ref i2) (.int (m : Int)) (.ref i3) (.ref i5) (.int (m : Int)) .unset .unset .unset) (K10.set i5 itE) :=
    Ex1.forDone hE (Ev.loc hE at9) r5 r4 (by simp)
  exact ⟨_, Ex.cons st0 (Ex.cons st1 (Ex.cons st2 (Ex.cons st3 (Ex.cons st4 (Ex.cons st5 (Ex.cons st6 (Ex.cons st7 (Ex.cons st8 (Ex.cons st9 (Ex.cons st10 (Ex.one (Ex1.ret (Ev.loc hE at8)))))))))))))⟩
end
end Mine

namespace Mine
open PySem PySem.W

def thenB : Stmt → List Stmt
  | .If _ b _ _ => b
  | _ => []
/-! ## the blanks' machine -/
structure WSt where
  n : Nat
  nt : Nat
  b : Nat
  count : List Int
def grown (cnt : List Int) (b : Nat) : List Int := if cnt.length ≤ b then cnt ++ List.replicate (b - cnt.length + 1) 0 else cnt
def wStep (s : WSt) (c : Nat) : Option WSt :=
  if c = 32 then some { s with n := s.n + 1, b := s.b + 1 }
  else if c = 9 then some { n := s.n + 1, nt := s.nt + 1, b := 0, count := (grown s.count s.b).set s.b ((grown s.count s.b).getD s.b 0 + 1) }
  else none
def wRun : List Nat → WSt → WSt
  | [], s => s
  | c :: cs, s => match wStep s c with
    | some s' => wRun cs s'
    | none => s
theorem grown_len (cnt : List Int) (b : Nat) : b < (grown cnt b).length := by
  unfold grown; split
  · simp; (first | lia | omega)
  · (first | lia | omega)
theorem grown_le (cnt : List Int) (b : Nat) : (grown cnt b).length ≤ cnt.length + b + 1 := by
  unfold grown; split
  · simp; (first | lia | omega)
  · (first | lia | omega)

section
variable {G : Gd} {d : Nat} {env : Env} {r r' : LV} {H H' H₁ : List AO}
theorem Opr.ge {x y : Int} : Opr G d (compareOp .GtE) (.int x) (.int y) H (.bool (decide (x ≥ y))) H := int2 fun _ k => by
  with_reducible refine PyProof.Rows.ge_int ?_
  exact k _ _ rfl
theorem Ex1.assign3 {x y z : Str} {px py pz pos : Pos} {e : Expr} {a : AV} {r₁ r₂ : LV} (hE : EnvOK G env) (h : Ev G d env e r H a H₁) (P1 : Put x a r r₁) (P2 : Put y a r₁ r₂) (P3 : Put z a r₂ r')
    (hw : swappedStores [.Name x px, .Name y py, .Name z pz] e env = pure none := by rfl) : Ex1 G d env (.Assign [.Name x px, .Name y py, .Name z pz] e pos) r H .next r' H₁ := .mk fun A s al Q hA R L k => by
  refine wpAny_Assign_three (h.run hA R L fun v s₁ e₁ R₁ L₁ V₁ S₁ => ?_) rfl hw
  refine wpAny_assign_Name (wp_store hE L₁ P1 V₁ fun h1 L2 hs1 => ?_)
  have R2 := R₁.local L₁.off hE.fresh hs1
  refine wpAny_assign_Name (wp_store hE (s := { s₁ with heap := h1, toks := s₁.toks + 1 }) L2 P2 V₁ fun h2 L3 hs2 => ?_)
  have R3 := R2.local L2.off hE.fresh hs2
  refine wpAny_assign_Name (wp_store hE (s := { s₁ with heap := h2, toks := s₁.toks + 1 + 1 }) L3 P3 V₁ fun h3 L4 hs3 => ?_)
  have R4 := R3.local L3.off hE.fresh hs3
  refine k _ _ e₁ R4 L4 rfl ?_
  have a1 := StepL.local (al := al ++ e₁) (s := s₁) (n := s₁.toks + 1) hs1 L2.some
  have a2 := StepL.local (al := al ++ e₁) (s := { s₁ with heap := h1, toks := s₁.toks + 1 }) (n := s₁.toks + 1 + 1) hs2 L3.some
  have a3 := StepL.local (al := al ++ e₁) (s := { s₁ with heap := h2, toks := s₁.toks + 1 + 1 }) (n := s₁.toks + 1 + 1 + 1) hs3 L4.some
  have := S₁.toL.trans (a1.trans (by simpa using a2.trans (by simpa using a3)))
  simpa using this
end

section
variable {G : Gd} {d : Nat} {H : List AO}
abbrev env101 (pm cd : Value) (L : Addr) : Env := callEnv (mkFd 101 "__init__" "Whitespace.__init__" .none pm cd) L 95
def ns101 : List Str := ["self", "ws", "S", "T", "count", "b", "n", "nt", "ch"]
abbrev lv101 (self ws S T count b n nt ch : AV) : LV := [("self", self), ("ws", ws), ("S", S), ("T", T), ("count", count), ("b", b), ("n", n), ("nt", nt), ("ch", ch)]
abbrev lvW (self ws : AV) (i : Nat) (s : WSt) (ch : AV) : LV := lv101 self ws (.str (Str.ofString " ")) (.str (Str.ofString "\t")) (.ref i) (.int s.b) (.int s.n) (.int s.nt) ch

def chr (c : Nat) : AV := .str ⟨#[c]⟩
theorem chr_eq (c k : Nat) : ((⟨#[c]⟩ : Str) == ⟨#[k]⟩) = decide (c = k) := by
  by_cases h : c = k
  · subst h; simp
  · have : ((⟨#[c]⟩ : Str) == ⟨#[k]⟩) = false := by
      rw [beq_eq_false_iff_ne]
      intro e
      injection e with e
      simp at e
      exact h e
    rw [this, decide_eq_false h]

theorem turnW (P : Prog G) {pm cd : Value} {self ws ch : AV} {i : Nat} {s s' : WSt} {c : Nat} (hs : wStep s c = some s') (hi : H[i]? = some (.list (s.count.map .int))) (hb : s.b ≤ 100) (hc : s.count.length ≤ 1000) :
    ∃ i' K' f, (∀ L, EnvOK G (env101 pm cd L) → Turn G d (env101 pm cd L) (forT (sN 101 4)) (forB (sN 101 4)) (fun _ => True) (chr c) (lvW self ws i s ch) H f (lvW self ws i' s' (chr c)) K') ∧ f = .next ∧ K'[i']? = some (.list (s'.count.map .int)) ∧ (∀ J, Grow J H → J.length ≤ i → Grow J K' ∧ J.length ≤ i') := by
  unfold wStep at hs
  by_cases h32 : c = 32
  · rw [if_pos h32] at hs
    cases hs
    subst h32
    refine ⟨i, H, .next, fun L hE => ⟨lvW self ws i s (chr 32), H, Asg.name hE pt8, Ex.one (Ex1.ifT (Et.cmp (Ev.loc hE at8) (Ev.loc hE at2) (Opr.eqS (x := ⟨#[32]⟩) (y := Str.ofString " "))) (Ex.cons (Ex1.assign hE (Ev.bin (Ev.loc hE at6) Ev.cInt Opr.add) pt6) (Ex.one (Ex1.assign hE (Ev.bin (Ev.loc hE at5) Ev.cInt Opr.add) pt5)))), trivial⟩, rfl, hi, fun J g hl => ⟨g, hl⟩⟩
  · rw [if_neg h32] at hs
    by_cases h9 : c = 9
    · rw [if_pos h9] at hs
      cases hs
      subst h9
      -- the growth
      have grow1 : ∃ i1 K1, (∀ L, EnvOK G (env101 pm cd L) → Ex1 G d (env101 pm cd L) (nth (thenB (nth (elseB (nth (forB (sN 101 4)) 0)) 0)) 2) (lv101 self ws (.str (Str.ofString " ")) (.str (Str.ofString "\t")) (.ref i) (.int s.b) (.int (s.n + 1)) (.int (s.nt + 1)) (chr 9)) H .next
          (lv101 self ws (.str (Str.ofString " ")) (.str (Str.ofString "\t")) (.ref i1) (.int s.b) (.int (s.n + 1)) (.int (s.nt + 1)) (chr 9)) K1) ∧ K1[i1]? = some (.list ((grown s.count s.b).map .int)) ∧ (∀ J, Grow J H → J.length ≤ i → Grow J K1 ∧ J.length ≤ i1) := by
        have hlen : (s.count.map AV.int).length = s.count.length := by simp
        by_cases hg : s.count.length ≤ s.b
        · have e : ((s.b : Int) - ((s.count.length : Nat) : Int) + 1).toNat = s.b - s.count.length + 1 := by (first | lia | omega)
          generalize h1 : H ++ [AO.list [AV.int 0]] = H1
          generalize h2 : H1 ++ [AO.list ((List.replicate (s.b - s.count.length + 1) (0 : Int)).map AV.int)] = H2
          generalize h3 : H2 ++ [AO.list ((grown s.count s.b).map AV.int)] = H3
          have q1 : H1[H.length]? = some (AO.list [AV.int 0]) := h1 ▸ get_last
          have q2 : H2[H1.length]? = some (AO.list ((List.replicate (s.b - s.count.length + 1) (0 : Int)).map AV.int)) := h2 ▸ get_last
          have q3 : H3[H2.length]? = some (AO.list ((grown s.count s.b).map AV.int)) := h3 ▸ get_last
          have g2 : Grow H H2 := by rw [← h2, ← h1]; exact Grow.push.trans .push
          have g3 : Grow H2 H3 := h3 ▸ Grow.push
          have o1 : Opr G d (binaryOp .Mult) (.ref H.length) (.int ((s.b : Int) - ((s.count.length : Nat) : Int) + 1)) H1 (.ref H1.length) H2 := by
            have := Opr.mulL (G := G) (d := d) (x := (s.b : Int) - ((s.count.length : Nat) : Int) + 1) q1 (by (first | lia | omega)) (by (first | lia | omega)) (by rw [e]; simp; (first | lia | omega))
            rw [e, rep_flat (f := AV.int)] at this
            rw [← h2]; exact this
          have o2 : Opr G d (binaryOp .Add) (.ref i) (.ref H1.length) H2 (.ref H2.length) H3 := by
            have := Opr.addL (G := G) (d := d) (g2.get hi) q2 (by simp; (first | lia | omega))
            rw [← List.map_append] at this
            rw [← h3]; unfold grown; rw [if_pos hg]; exact this
          have tst : decide ((s.b : Int) ≥ ((s.count.length : Nat) : Int)) = true := by simp; (first | lia | omega)
          have hl : ∀ {K : List AO}, Grow H K → CallT G d (.ext (.builtin "len")) [.ref i] K (.int (s.count.length : Nat)) K := fun g => by
            have := CallT.len (G := G) (d := d) (g.get hi) (by rw [hlen]; (first | lia | omega))
            rw [hlen] at this; exact this
          refine ⟨H2.length, H3, fun L hE => Ex1.ifT (Et.cmp (Ev.loc hE at5) (Ev.call (Ev.bltin P.ok hE P.n_len P.b_len) (Evs.cons (Ev.loc hE at4) Evs.nil) Cal.bltin (hl .refl)) (tst ▸ Opr.ge)) (Ex.one (Ex1.assign hE (Ev.bin (Ev.loc hE at4) (Ev.bin (h1 ▸ Ev.list (Evs.cons Ev.cInt Evs.nil) (by simp)) (Ev.bin (Ev.bin (Ev.loc hE at5) (Ev.call (Ev.bltin P.ok hE P.n_len P.b_len) (Evs.cons (Ev.loc hE at4) Evs.nil) Cal.bltin (hl (h1 ▸ Grow.push))) Opr.sub) Ev.cInt Opr.add) o1) o2) pt4)), q3, fun J g hJ => ⟨(g.trans g2).trans g3, ?_⟩⟩
          have := (g.trans g2).len
          exact this
        · have tst : decide ((s.b : Int) ≥ ((s.count.length : Nat) : Int)) = false := by simp; (first | lia | omega)
          have hl : CallT G d (.ext (.builtin "len")) [.ref i] H (.int (s.count.length : Nat)) H := by
            have := CallT.len (G := G) (d := d) hi (by rw [hlen]; (first | lia | omega))
            rw [hlen] at this; exact this
          refine ⟨i, H, fun L hE => Ex1.ifF (Et.cmp (Ev.loc hE at5) (Ev.call (Ev.bltin P.ok hE P.n_len P.b_len) (Evs.cons (Ev.loc hE at4) Evs.nil) Cal.bltin hl) (tst ▸ Opr.ge)) Ex.nil, by unfold grown; rw [if_neg hg]; exact hi, fun J g hJ => ⟨g, hJ⟩⟩
      obtain ⟨i1, K1, x1, q1, g1⟩ := grow1
      have hbl : s.b < (grown s.count s.b).length := grown_len _ _
      have hget : ((grown s.count s.b).map AV.int)[((s.b : Nat) : Int).toNat]? = some (.int ((grown s.count s.b).getD s.b 0)) := by
        rw [Int.toNat_natCast, List.getElem?_map, List.getElem?_eq_getElem hbl]; simp [List.getD, List.getElem?_eq_getElem hbl]
      have st := Stores.list (G := G) (d := d) (k := ((s.b : Nat) : Int)) (c := AV.int ((grown s.count s.b).getD s.b 0 + 1)) q1 (by (first | lia | omega)) (by simp; (first | lia | omega)) (by (first | lia | omega))
      rw [Int.toNat_natCast, ← List.map_set] at st
      refine ⟨i1, K1.set i1 (.list (((grown s.count s.b).set s.b ((grown s.count s.b).getD s.b 0 + 1)).map .int)), .next, fun L hE => ⟨lvW self ws i s (chr 9), H, Asg.name hE pt8, Ex.one (Ex1.ifF (Et.cmp (Ev.loc hE at8) (Ev.loc hE at2) (Opr.eqS (x := ⟨#[9]⟩) (y := Str.ofString " "))) (Ex.one (Ex1.ifT (Et.cmp (Ev.loc hE at8) (Ev.loc hE at3) (Opr.eqS (x := ⟨#[9]⟩) (y := Str.ofString "\t")))
        (Ex.cons (Ex1.assign hE (Ev.bin (Ev.loc hE at6) Ev.cInt Opr.add) pt6) (Ex.cons (Ex1.assign hE (Ev.bin (Ev.loc hE at7) Ev.cInt Opr.add) pt7) (Ex.cons (x1 L hE) (Ex.cons (Ex1.assignSub (Ev.bin (Ev.sub (Ev.loc hE at4) (Ev.loc hE at5) (Sub.list q1 (by (first | lia | omega)) hget (by (first | lia | omega)))) Ev.cInt Opr.add) (Ev.loc hE at4) (Ev.loc hE at5) st) (Ex.one (Ex1.assign hE Ev.cInt pt5))))))))), trivial⟩, rfl, get_set q1, fun J g hl => ⟨(g1 J g hl).1.set (g1 J g hl).2, (g1 J g hl).2⟩⟩
    · rw [if_neg h9] at hs; cases hs
end
end Mine

namespace Mine
open PySem PySem.W

theorem wStep_bound {s s' : WSt} {c : Nat} (h : wStep s c = some s') : s'.b ≤ s.b + 1 ∧ s'.count.length ≤ s.count.length + s.b + 1 := by
  unfold wStep at h
  by_cases h32 : c = 32
  · rw [if_pos h32] at h; cases h; exact ⟨Nat.le_refl _, by show s.count.length ≤ _; (first | lia | omega)⟩
  · rw [if_neg h32] at h
    by_cases h9 : c = 9
    · rw [if_pos h9] at h; cases h
      refine ⟨Nat.zero_le _, ?_⟩
      show ((grown s.count s.b).set _ _).length ≤ _
      rw [List.length_set]; exact grown_le _ _
    · rw [if_neg h9] at h; cases h
theorem wRun_bound : ∀ (cs : List Nat) {s : WSt}, s.b + cs.length ≤ 20 → s.count.length + 21 * cs.length ≤ 420 → (wRun cs s).count.length ≤ 420
  | [], s, _, h => by simpa [wRun] using h
  | c :: cs, s, hb, hc => by
    simp only [List.length_cons] at hb hc
    cases hs : wStep s c with
    | none =>
      have e : wRun (c :: cs) s = s := by unfold wRun; rw [hs]
      rw [e]; (first | lia | omega)
    | some s' =>
      have e : wRun (c :: cs) s = wRun cs s' := by conv => lhs; unfold wRun; rw [hs]
      rw [e]
      obtain ⟨b1, b2⟩ := wStep_bound hs
      exact wRun_bound cs (by (first | lia | omega)) (by (first | lia | omega))
section
variable {G : Gd} {d : Nat} {H : List AO}
theorem brkW (P : Prog G) {pm cd : Value} {self ws ch : AV} {i : Nat} {s : WSt} {c : Nat} (hs : wStep s c = none) (L : Addr) (hE : EnvOK G (env101 pm cd L)) :
    Turn G d (env101 pm cd L) (forT (sN 101 4)) (forB (sN 101 4)) (fun _ => True) (chr c) (lvW self ws i s ch) H .brk (lvW self ws i s (chr c)) H := by
  unfold wStep at hs
  by_cases h32 : c = 32
  · rw [if_pos h32] at hs; cases hs
  · rw [if_neg h32] at hs
    by_cases h9 : c = 9
    · rw [if_pos h9] at hs; cases hs
    · have e1 : ((⟨#[c]⟩ : Str) == Str.ofString " ") = false := (chr_eq c 32).trans (decide_eq_false h32)
      have e2 : ((⟨#[c]⟩ : Str) == Str.ofString "\t") = false := (chr_eq c 9).trans (decide_eq_false h9)
      exact ⟨lvW self ws i s (chr c), H, Asg.name hE pt8, Ex.one (Ex1.ifF (Et.cmp (Ev.loc hE at8) (Ev.loc hE at2) (e1 ▸ Opr.eqS (x := ⟨#[c]⟩) (y := Str.ofString " "))) (Ex.one (Ex1.ifF (Et.cmp (Ev.loc hE at8) (Ev.loc hE at3) (e2 ▸ Opr.eqS (x := ⟨#[c]⟩) (y := Str.ofString "\t"))) (Ex.one Ex1.brk)))), trivial⟩
theorem loopW (P : Prog G) {pm cd : Value} {self ws : AV} : ∀ (cs : List Nat) {H : List AO} {ch : AV} {i : Nat} {s : WSt}, H[i]? = some (.list (s.count.map .int)) → s.b + cs.length ≤ 20 → s.count.length + 21 * cs.length ≤ 420 →
    ∃ i' K' ch', (∀ L, EnvOK G (env101 pm cd L) → Loop (Turn G d (env101 pm cd L) (forT (sN 101 4)) (forB (sN 101 4)) (fun _ => True)) (cs.map chr) (lvW self ws i s ch) H .next (lvW self ws i' (wRun cs s) ch') K') ∧ K'[i']? = some (.list ((wRun cs s).count.map .int)) ∧ (∀ J, Grow J H → J.length ≤ i → Grow J K')
  | [], H, ch, i, s, hi, _, _ => ⟨i, H, ch, fun L hE => .nil, hi, fun J g _ => g⟩
  | c :: cs, H, ch, i, s, hi, hb, hc => by
    simp only [List.length_cons] at hb hc
    cases hs : wStep s c with
    | none =>
      have e : wRun (c :: cs) s = s := by unfold wRun; rw [hs]
      rw [e]
      exact ⟨i, H, chr c, fun L hE => .brk (brkW P hs L hE), hi, fun J g _ => g⟩
    | some s' =>
      have e : wRun (c :: cs) s = wRun cs s' := by conv => lhs; unfold wRun; rw [hs]
      rw [e]
      obtain ⟨b1, b2⟩ := wStep_bound hs
      obtain ⟨i1, K1, f, t, rfl, q, g⟩ := turnW (d := d) P (pm := pm) (cd := cd) (self := self) (ws := ws) (ch := ch) hs hi (by (first | lia | omega)) (by (first | lia | omega))
      obtain ⟨i2, K2, ch2, lp, q2, g2⟩ := loopW P (pm := pm) (cd := cd) (self := self) (ws := ws) cs (ch := chr c) q (by (first | lia | omega)) (by (first | lia | omega))
      exact ⟨i2, K2, ch2, fun L hE => .next (t L hE) (lp L hE), q2, fun J gJ hJ => g2 J (g J gJ hJ).1 (g J gJ hJ).2⟩

/-- the class Whitespace, as the head has laid it -/
structure White (G : Gd) : Prop where
  K : ∃ K, Klass G K 140 ∧ findIn K (.ref 140) "__init__" = some (some (.ref 95)) ∧ typeIn K (.ref 95) = some (.type "function") ∧ findIn K (.ref 140) "indent_level" = some (some (.ref 109)) ∧ typeIn K (.ref 109) = some (.type "function") ∧
    readsIn K 140 (.type "type") = true ∧ (∃ t, findCls K (.ref 140) (.type "type") "S" = some (.val (.str (Str.ofString " ") t))) ∧ (∃ t, findCls K (.ref 140) (.type "type") "T" = some (.val (.str (Str.ofString "\t") t))) ∧
    findIn K (.ref 140) "raw" = some none ∧ findIn K (.ref 140) "n" = some none ∧ findIn K (.ref 140) "nt" = some none ∧ findIn K (.ref 140) "norm" = some none ∧ findIn K (.ref 140) "is_simple" = some none
  g : G.mg "Whitespace" = some (.ref 140)
  n_tuple : G.mg "tuple" = none
  b_tuple : G.mb "tuple" = some (.type "tuple")
  init : ∃ pm cd, (∃ o, G.h₀.get? 95 = some o ∧ o.data = .func (mkFd 101 "__init__" "Whitespace.__init__" .none pm cd)) ∧ G.h₀.CodeRec cd "Whitespace.__init__"
  indent : ∃ pm cd, (∃ o, G.h₀.get? 109 = some o ∧ o.data = .func (mkFd 103 "indent_level" "Whitespace.indent_level" .none pm cd)) ∧ G.h₀.CodeRec cd "Whitespace.indent_level"

def wst0 : WSt := ⟨0, 0, 0, []⟩
/-- the object's attributes -/
def wAttrs (raw : Str) (s : WSt) (t : Nat) : List (Str × AV) := [(("raw" : Str), .str raw), (("n" : Str), .int s.n), (("nt" : Str), .int s.nt), (("norm" : Str), .ref t), (("is_simple" : Str), .bool (decide ((s.count.length : Int) ≤ 1)))]
theorem init_spec (P : Prog G) (W : White G) {raw : Str} (ha : (raw.cps.all fun c => decide (c < 128)) = true) (hl : raw.cps.size ≤ 20) {H : List AO} :
    ∃ H' t u, CodeT G (d + 1) (.ext (.ref 95)) [.ref (H.length + 1), .str raw] (H ++ [attrA []] ++ [instA 140 H.length]) .none H' ∧ Grow H H' ∧ H'[H.length + 1]? = some (instA 140 H.length) ∧
      H'[H.length]? = some (attrA (wAttrs raw (wRun raw.cps.toList wst0) t)) ∧ H'[t]? = some (.tup [.ref u, .int (wRun raw.cps.toList wst0).b]) ∧ H'[u]? = some (.tup ((wRun raw.cps.toList wst0).count.map .int)) := by
  obtain ⟨K, Y, hinit, htf, hil, htf2, hrd, hS, hT, a_raw, a_n, a_nt, a_norm, a_simple⟩ := W.K
  obtain ⟨pm, cd, hobj, hcode⟩ := W.init
  have F : FnInfo G 95 (mkFd 101 "__init__" "Whitespace.__init__" .none pm cd) (fbody 101) ns101 := ⟨⟨hobj, rfl, by decide, (show ∀ x ∈ ns101, (fscope 101).names.lookup x = some .local by decide), by decide, (show ∀ x ∈ (fscope 101).names, x.2 ≠ .cell by decide), rfl, rfl, rfl, rfl, rfl⟩, hcode⟩
  have bnd : ∀ x y, Binds G (mkFd 101 "__init__" "Whitespace.__init__" .none pm cd) [x, y] [("self", x), ("ws", y)] := fun x y => Binds.plain (names := ["self", "ws"]) rfl (by
    exact len2 fun _ _ => rfl)
  generalize hs : wRun raw.cps.toList wst0 = s
  generalize hn : H.length = n
  generalize hH2 : H ++ [attrA []] ++ [instA 140 n] = H2
  have l2 : H2.length = n + 2 := by rw [← hH2, ← hn]; simp
  have gH2 : Grow H H2 := by rw [← hH2]; exact Grow.push.trans .push
  have a0 : H2[n]? = some (attrA []) := by rw [← hH2, ← hn]; exact Grow.push.get get_last
  have a1 : H2[n + 1]? = some (instA 140 n) := by
    rw [← hH2]
    have := get_last (H := H ++ [attrA []]) (x := instA 140 n)
    rw [show (H ++ [attrA []]).length = n + 1 by rw [← hn]; simp] at this
    exact this
  generalize hK1 : H2.set n (attrA ([] ++ [(("raw" : Str), .str raw)])) = K1
  have l1 : K1.length = n + 2 := by rw [← hK1]; simp [l2]
  have b0 : K1[n]? = some (attrA [(("raw" : Str), .str raw)]) := hK1 ▸ get_set a0
  have b1 : K1[n + 1]? = some (instA 140 n) := hK1 ▸ get_ne a1 (by (first | lia | omega))
  have gK1 : Grow H K1 := hK1 ▸ gH2.set (by (first | lia | omega))
  generalize hK2 : K1 ++ [.tup [.str (Str.ofString " "), .str (Str.ofString "\t")]] = K2
  have c2 : K2[K1.length]? = some (.tup [.str (Str.ofString " "), .str (Str.ofString "\t")]) := hK2 ▸ get_last
  have gK2 : Grow K1 K2 := hK2 ▸ Grow.push
  generalize hK3 : K2 ++ [.list []] = K3
  have c3 : K3[K2.length]? = some (.list (wst0.count.map .int)) := hK3 ▸ get_last
  have gK3 : Grow K2 K3 := hK3 ▸ Grow.push
  have szl : raw.cps.toList.length ≤ 20 := by simpa using hl
  obtain ⟨i', K4, ch', lp, q4, g4⟩ := loopW (d := d) P (pm := pm) (cd := cd) (self := .ref (n + 1)) (ws := .str raw) raw.cps.toList (ch := .unset) c3 (by show 0 + _ ≤ 20; (first | lia | omega)) (by show 0 + 21 * _ ≤ 420; (first | lia | omega))
  rw [hs] at lp q4
  have gK4 : Grow K2 K4 := g4 K2 gK3 (Nat.le_refl _)
  have d0 : K4[n]? = some (attrA [(("raw" : Str), .str raw)]) := gK4.get (gK2.get b0)
  have d1 : K4[n + 1]? = some (instA 140 n) := gK4.get (gK2.get b1)
  have gH4 : Grow H K4 := (gK1.trans gK2).trans gK4
  have hi' : i' ≠ n := fun e => by rw [e, d0] at q4; cases q4
  generalize hK5 : K4.set n (attrA ([(("raw" : Str), .str raw)] ++ [(("n" : Str), .int s.n)])) = K5
  have e0 : K5[n]? = some (attrA [(("raw" : Str), .str raw), (("n" : Str), .int s.n)]) := hK5 ▸ get_set d0
  have e1 : K5[n + 1]? = some (instA 140 n) := hK5 ▸ get_ne d1 (by (first | lia | omega))
  have e2 : K5[i']? = some (.list (s.count.map .int)) := hK5 ▸ get_ne q4 (Ne.symm hi')
  generalize hK6 : K5.set n (attrA ([(("raw" : Str), .str raw), (("n" : Str), .int s.n)] ++ [(("nt" : Str), .int s.nt)])) = K6
  have f0 : K6[n]? = some (attrA [(("raw" : Str), .str raw), (("n" : Str), .int s.n), (("nt" : Str), .int s.nt)]) := hK6 ▸ get_set e0
  have f1 : K6[n + 1]? = some (instA 140 n) := hK6 ▸ get_ne e1 (by (first | lia | omega))
  have f2 : K6[i']? = some (.list (s.count.map .int)) := hK6 ▸ get_ne e2 (Ne.symm hi')
  have gH6 : Grow H K6 := by rw [← hK6, ← hK5]; exact (gH4.set (by (first | lia | omega))).set (by (first | lia | omega))
  generalize hK7 : K6 ++ [.tup (s.count.map .int)] = K7
  generalize hK8 : K7 ++ [.tup [.ref K6.length, .int s.b]] = K8
  have h0 : K8[n]? = some (attrA [(("raw" : Str), .str raw), (("n" : Str), .int s.n), (("nt" : Str), .int s.nt)]) := by rw [← hK8, ← hK7]; exact Grow.push.get (Grow.push.get f0)
  have h1 : K8[n + 1]? = some (instA 140 n) := by rw [← hK8, ← hK7]; exact Grow.push.get (Grow.push.get f1)
  have h2 : K8[i']? = some (.list (s.count.map .int)) := by rw [← hK8, ← hK7]; exact Grow.push.get (Grow.push.get f2)
  have h3 : K8[K6.length]? = some (.tup (s.count.map .int)) := by rw [← hK8, ← hK7]; exact Grow.push.get get_last
  have h4 : K8[K7.length]? = some (.tup [.ref K6.length, .int s.b]) := by rw [← hK8]; exact get_last
  have gH8 : Grow H K8 := by rw [← hK8, ← hK7]; exact (gH6.trans .push).trans .push
  have ln6 : n < K6.length := (List.getElem?_eq_some_iff.mp f0).1
  have ln7 : K6.length < K7.length := by rw [← hK7]; simp
  generalize hK9 : K8.set n (attrA ([(("raw" : Str), .str raw), (("n" : Str), .int s.n), (("nt" : Str), .int s.nt)] ++ [(("norm" : Str), .ref K7.length)])) = K9
  have i0 : K9[n]? = some (attrA [(("raw" : Str), .str raw), (("n" : Str), .int s.n), (("nt" : Str), .int s.nt), (("norm" : Str), .ref K7.length)]) := hK9 ▸ get_set h0
  have i1 : K9[n + 1]? = some (instA 140 n) := hK9 ▸ get_ne h1 (by (first | lia | omega))
  have i2 : K9[i']? = some (.list (s.count.map .int)) := hK9 ▸ get_ne h2 (Ne.symm hi')
  have i3 : K9[K6.length]? = some (.tup (s.count.map .int)) := hK9 ▸ get_ne h3 (by (first | lia | omega))
  have i4 : K9[K7.length]? = some (.tup [.ref K6.length, .int s.b]) := hK9 ▸ get_ne h4 (by (first | lia | omega))
  have gH9 : Grow H K9 := hK9 ▸ gH8.set (by (first | lia | omega))
  have un : ∀ p ∈ ([("S", .unset), ("T", .unset), ("count", .unset), ("b", .unset), ("n", .unset), ("nt", .unset), ("ch", .unset)] : LV), p.2 = .unset := fun p h => by
    simp only [List.mem_cons, List.not_mem_nil, or_false] at h
    rcases h with rfl | rfl | rfl | rfl | rfl | rfl | rfl <;> rfl
  have hcl : s.count.length ≤ 420 := by
    rw [← hs]; exact wRun_bound _ (by show 0 + _ ≤ 20; (first | lia | omega)) (by show 0 + 21 * _ ≤ 420; (first | lia | omega))
  have hcm : (s.count.map AV.int).length = s.count.length := by simp
  refine ⟨K9.set n (attrA ([(("raw" : Str), .str raw), (("n" : Str), .int s.n), (("nt" : Str), .int s.nt), (("norm" : Str), .ref K7.length)] ++ [(("is_simple" : Str), .bool (decide ((s.count.length : Int) ≤ 1)))])), K7.length, K6.length,
    CodeT.def (ps := [("self", .ref (n + 1)), ("ws", .str raw)]) (ls := [("S", .unset), ("T", .unset), ("count", .unset), ("b", .unset), ("n", .unset), ("nt", .unset), ("ch", .unset)]) (f := .next) P.ok F (bnd _ _) rfl un fun L hE => ?_, gH9.set (by (first | lia | omega)), get_ne i1 (by (first | lia | omega)), get_set i0, get_ne i4 (by (first | lia | omega)), get_ne i3 (by (first | lia | omega))⟩
  have hlen : CallT G d (.ext (.builtin "len")) [.ref i'] K9 (.int (s.count.length : Nat)) K9 := by
    have := CallT.len (G := G) (d := d) i2 (by rw [hcm]; (first | lia | omega))
    rw [hcm] at this; exact this
  have st0 : Ex1 G d (env101 pm cd L) (sN 101 0) (lv101 (.ref (n + 1)) (.str raw) .unset .unset .unset .unset .unset .unset .unset) H2 .next (lv101 (.ref (n + 1)) (.str raw) .unset .unset .unset .unset .unset .unset .unset) K1 :=
    hK1 ▸ Ex1.setAttr Y (Ev.loc hE at1) (Ev.loc hE at0) a1 a0 rfl a_raw (by simp)
  have st1 : Ex1 G d (env101 pm cd L) (sN 101 1) (lv101 (.ref (n + 1)) (.str raw) .unset .unset .unset .unset .unset .unset .unset) K1 .next (lv101 (.ref (n + 1)) (.str raw) (.str (Str.ofString " ")) (.str (Str.ofString "\t")) .unset .unset .unset .unset .unset) K2 :=
    Ex1.swap (xs := ["S", "T"]) hE (hK2 ▸ Ev.tup (Evs.cons (Ev.clsAttr Y (Ev.fn P hE W.g) hrd hS) (Evs.cons (Ev.clsAttr Y (Ev.fn P hE W.g) hrd hT) Evs.nil)) (by simp)) (Unp.tup c2) (.cons pt3 (.cons pt2 .nil)) rfl
  have st2 : Ex1 G d (env101 pm cd L) (sN 101 2) (lv101 (.ref (n + 1)) (.str raw) (.str (Str.ofString " ")) (.str (Str.ofString "\t")) .unset .unset .unset .unset .unset) K2 .next (lv101 (.ref (n + 1)) (.str raw) (.str (Str.ofString " ")) (.str (Str.ofString "\t")) (.ref K2.length) .unset .unset .unset .unset) K3 :=
    Ex1.assign hE (hK3 ▸ Ev.list Evs.nil (by simp)) pt4
  have st3 : Ex1 G d (env101 pm cd L) (sN 101 3) (lv101 (.ref (n + 1)) (.str raw) (.str (Str.ofString " ")) (.str (Str.ofString "\t")) (.ref K2.length) .unset .unset .unset .unset) K3 .next (lvW (.ref (n + 1)) (.str raw) K2.length wst0 .unset) K3 :=
    Ex1.assign3 hE (Ev.cInt (i := 0)) pt5 pt6 pt7
  have st4 : Ex1 G d (env101 pm cd L) (sN 101 4) (lvW (.ref (n + 1)) (.str raw) K2.length wst0 .unset) K3 .next (lvW (.ref (n + 1)) (.str raw) i' s ch') K4 :=
    Ex1.forIt (It.str (Ev.attr Y (Ev.loc hE at0) (gK3.get (gK2.get b1)) (gK3.get (gK2.get b0)) rfl a_raw) ha) (lp L hE)
  have st5 : Ex1 G d (env101 pm cd L) (sN 101 5) (lvW (.ref (n + 1)) (.str raw) i' s ch') K4 .next (lvW (.ref (n + 1)) (.str raw) i' s ch') K5 :=
    hK5 ▸ Ex1.setAttr Y (Ev.loc hE at6) (Ev.loc hE at0) d1 d0 rfl a_n (by simp)
  have st6 : Ex1 G d (env101 pm cd L) (sN 101 6) (lvW (.ref (n + 1)) (.str raw) i' s ch') K5 .next (lvW (.ref (n + 1)) (.str raw) i' s ch') K6 :=
    hK6 ▸ Ex1.setAttr Y (Ev.loc hE at7) (Ev.loc hE at0) e1 e0 rfl a_nt (by simp)
  have st7 : Ex1 G d (env101 pm cd L) (sN 101 7) (lvW (.ref (n + 1)) (.str raw) i' s ch') K6 .next (lvW (.ref (n + 1)) (.str raw) i' s ch') K9 :=
    hK9 ▸ Ex1.setAttr Y (hK8 ▸ Ev.tup (Evs.cons (hK7 ▸ Ev.call (Ev.bltin P.ok hE W.n_tuple W.b_tuple) (Evs.cons (Ev.loc hE at4) Evs.nil) Cal.type (CallT.tuple f2 (by (first | lia | omega)))) (Evs.cons (Ev.loc hE at5) Evs.nil)) (by simp)) (Ev.loc hE at0) h1 h0 rfl a_norm (by simp)
  have st8 : Ex1 G d (env101 pm cd L) (sN 101 8) (lvW (.ref (n + 1)) (.str raw) i' s ch') K9 .next (lvW (.ref (n + 1)) (.str raw) i' s ch') (K9.set n (attrA ([(("raw" : Str), .str raw), (("n" : Str), .int s.n), (("nt" : Str), .int s.nt), (("norm" : Str), .ref K7.length)] ++ [(("is_simple" : Str), .bool (decide ((s.count.length : Int) ≤ 1)))]))) :=
    Ex1.setAttr Y (Ev.cmp (Ev.call (Ev.bltin P.ok hE P.n_len P.b_len) (Evs.cons (Ev.loc hE at4) Evs.nil) Cal.bltin (hlen)) Ev.cInt Opr.le) (Ev.loc hE at0) i1 i0 rfl a_simple (by simp)
  exact ⟨_, Ex.cons st0 (Ex.cons st1 (Ex.cons st2 (Ex.cons st3 (Ex.cons st4 (Ex.cons st5 (Ex.cons st6 (Ex.cons st7 (Ex.one st8))))))))⟩
end
end Mine

namespace Mine
open PySem PySem.W

section
variable {G : Gd} {d : Nat} {env : Env} {r r' : LV} {H H' H₁ : List AO}
theorem Sub.tup {i : Nat} {xs : List AV} {k : Int} {c : AV} (hx : H[i]? = some (.tup xs)) (h0 : 0 ≤ k) (hk : xs[k.toNat]? = some c) (hz : k < 2 ^ 63) : Sub G d (.ref i) (.int k) H c H := .mk fun A s al x y Q hA R hv hw => by
  obtain ⟨a, vs, n, rfl, hi, hm, ho, hl, q, hlen⟩ := R.isTup hx hv
  obtain ⟨t, rfl⟩ := hw
  obtain ⟨v, hv, qv⟩ := paired_get q hk
  have hlt : k.toNat < vs.size := by
    have := (List.getElem?_eq_some_iff.mp hv).1
    simpa using this
  have hj : seqIndex? k vs.size = some k.toNat := by
    unfold seqIndex?
    have h1 : ¬ k < 0 := by (first | lia | omega)
    simp only [h1, if_false]
    first | rw [if_pos (by (first | lia | omega))] | (rw [if_neg (by (first | lia | omega))]) | simp <;> (first | lia | omega)
  exact ⟨⟨"tuple", _, ⟨_, ho, rfl⟩, F.slot_tuple_getitem.lookup⟩, fun k => P.getItem_tuple ho (by (first | lia | omega)) hz hj (by simpa using hv) (fin00 k R qv)⟩
theorem CallT.lenT {i : Nat} {xs : List AV} (hx : H[i]? = some (.tup xs)) (hz : xs.length < 2 ^ 62) : CallT G d (.ext (.builtin "len")) [.ref i] H (.int (xs.length : Nat)) H := .mk fun A s al fv vs Q hA R hf hvs k => by
  cases hf
  obtain ⟨v, rfl, hv⟩ := vrs1 hvs
  obtain ⟨a, vs, n, rfl, hi, hm, ho, hl, q, hlen⟩ := R.isTup hx hv
  refine P.len_tuple ho ?_ ?_
  · (first | lia | omega)
  · exact fin0 k R ⟨_, by rw [hlen]⟩
end

def ilRun (t : Int) (cnt : List Int) : Nat → Nat → Int → Int
  | _, 0, il => il
  | a, n + 1, il => ilRun t cnt (a + 1) n (il + (a : Int).fdiv t * cnt.getD a 0)
def indW (s : WSt) (t : Nat) : Int := s.b + t * (ilRun t s.count t (s.count.length - t) 0 + s.nt)

section
variable {G : Gd} {d : Nat} {H : List AO}
abbrev env103 (pm cd : Value) (L : Addr) : Env := callEnv (mkFd 103 "indent_level" "Whitespace.indent_level" .none pm cd) L 109
def ns103 : List Str := ["self", "tabsize", "count", "trailing", "il", "i"]
abbrev lv103 (self tabsize count trailing il i : AV) : LV := [("self", self), ("tabsize", tabsize), ("count", count), ("trailing", trailing), ("il", il), ("i", i)]

theorem ind_loop {pm cd : Value} {L : Addr} (hE : EnvOK G (env103 pm cd L)) {self tr : AV} {u : Nat} {cnt : List Int} {t : Nat} (ht : 0 < t) (ht2 : t < 1000) (hu : H[u]? = some (.tup (cnt.map .int))) (hc : cnt.length < 1000) :
    ∀ (n a : Nat) (il : Int) (x : AV), a + n ≤ cnt.length → ∃ x', Loop (Turn G d (env103 pm cd L) (forT (sN 103 2)) (forB (sN 103 2)) fun _ => True) (span (a : Int) n) (lv103 self (.int t) (.ref u) tr (.int il) x) H .next (lv103 self (.int t) (.ref u) tr (.int (ilRun t cnt a n il)) x') H
  | 0, a, il, x, h => ⟨x, .nil⟩
  | n + 1, a, il, x, h => by
    rw [span_succ, show ((a : Int) + 1) = ((a + 1 : Nat) : Int) by (first | lia | omega)]
    obtain ⟨x', lp⟩ := ind_loop hE ht ht2 hu hc n (a + 1) (il + (a : Int).fdiv t * cnt.getD a 0) (.int a) (by (first | lia | omega))
    have ha : a < cnt.length := by (first | lia | omega)
    have hget : (cnt.map AV.int)[((a : Nat) : Int).toNat]? = some (.int (cnt.getD a 0)) := by
      rw [Int.toNat_natCast, List.getElem?_map, List.getElem?_eq_getElem ha]; simp [List.getD, List.getElem?_eq_getElem ha]
    have hb : ((a : Int).fdiv t).natAbs < 2 ^ 64 := by
      rw [Int.fdiv_eq_ediv_of_nonneg _ (by (first | lia | omega))]
      have h1 : (a : Int) / (t : Int) = ((a / t : Nat) : Int) := by simp
      rw [h1, Int.natAbs_natCast]
      have := Nat.div_le_self a t
      (first | lia | omega)
    refine ⟨x', .next ⟨_, _, Asg.name hE pt5, Ex.one (Ex1.assign hE (Ev.bin (Ev.loc hE at4) (Ev.bin (Ev.bin (Ev.loc hE at5) (Ev.loc hE at1) (Opr.div (by (first | lia | omega)) (by (first | lia | omega)))) (Ev.sub (Ev.loc hE at2) (Ev.loc hE at5) (Sub.tup hu (by (first | lia | omega)) hget (by (first | lia | omega)))) (Opr.mul (mulL hb))) Opr.add) pt4), trivial⟩ lp⟩

theorem indent_spec (P : Prog G) (W : White G) {i j t u : Nat} {raw : Str} {s : WSt} {tab : Nat} (ht : 0 < tab) (ht2 : tab < 1000) (hi : H[i]? = some (instA 140 j)) (hj : H[j]? = some (attrA (wAttrs raw s t))) (h1 : H[t]? = some (.tup [.ref u, .int s.b])) (h2 : H[u]? = some (.tup (s.count.map .int))) (hc : s.count.length < 1000) :
    CallT G (d + 1) (.ext (.ref 109)) [.ref i, .int tab] H (.int (indW s tab)) H := by
  obtain ⟨K, Y, hinit, htf, hil, htf2, hrd, hS, hT, a_raw, a_n, a_nt, a_norm, a_simple⟩ := W.K
  obtain ⟨pm, cd, hobj, hcode⟩ := W.indent
  have F : FnInfo G 109 (mkFd 103 "indent_level" "Whitespace.indent_level" .none pm cd) (fbody 103) ns103 := ⟨⟨hobj, rfl, by decide, (show ∀ x ∈ ns103, (fscope 103).names.lookup x = some .local by decide), by decide, (show ∀ x ∈ (fscope 103).names, x.2 ≠ .cell by decide), rfl, rfl, rfl, rfl, rfl⟩, hcode⟩
  have bnd : ∀ x y, Binds G (mkFd 103 "indent_level" "Whitespace.indent_level" .none pm cd) [x, y] [("self", x), ("tabsize", y)] := fun x y => Binds.plain (names := ["self", "tabsize"]) rfl (by
    exact len2 fun _ _ => rfl)
  have un : ∀ p ∈ ([("count", .unset), ("trailing", .unset), ("il", .unset), ("i", .unset)] : LV), p.2 = .unset := fun p h => by
    simp only [List.mem_cons, List.not_mem_nil, or_false] at h
    rcases h with rfl | rfl | rfl | rfl <;> rfl
  have hcm : (s.count.map AV.int).length = s.count.length := by simp
  have hlen : CallT G d (.ext (.builtin "len")) [.ref u] H (.int (s.count.length : Nat)) H := by
    have := CallT.lenT (G := G) (d := d) h2 (by rw [hcm]; (first | lia | omega))
    rw [hcm] at this; exact this
  refine CallT.def (ps := [("self", .ref i), ("tabsize", .int tab)]) (ls := [("count", .unset), ("trailing", .unset), ("il", .unset), ("i", .unset)]) (f := .ret (.int (indW s tab))) P.ok F (bnd _ _) rfl un fun L hE => ?_
  have st0 : Ex1 G d (env103 pm cd L) (sN 103 0) (lv103 (.ref i) (.int tab) .unset .unset .unset .unset) H .next (lv103 (.ref i) (.int tab) (.ref u) (.int s.b) .unset .unset) H :=
    Ex1.assignTup (xs := ["count", "trailing"]) hE (Ev.attr Y (Ev.loc hE at0) hi hj rfl a_norm) (Unp.tup h1) (.cons (.cons .nil)) (.cons pt2 (.cons pt3 .nil))
  have st1 : Ex1 G d (env103 pm cd L) (sN 103 1) (lv103 (.ref i) (.int tab) (.ref u) (.int s.b) .unset .unset) H .next (lv103 (.ref i) (.int tab) (.ref u) (.int s.b) (.int 0) .unset) H :=
    Ex1.assign hE Ev.cInt pt4
  have hsp : ((s.count.length : Nat) : Int) - (tab : Int) = ((s.count.length : Nat) : Int) - (tab : Int) := rfl
  by_cases hle : tab ≤ s.count.length
  · obtain ⟨x', lp⟩ := ind_loop (d := d) hE (self := .ref i) (tr := .int s.b) ht ht2 h2 hc (s.count.length - tab) tab 0 .unset (by (first | lia | omega))
    have e : (((s.count.length : Nat) : Int) - (tab : Int)).toNat = s.count.length - tab := by (first | lia | omega)
    rw [← e] at lp
    have st2 : Ex1 G d (env103 pm cd L) (sN 103 2) (lv103 (.ref i) (.int tab) (.ref u) (.int s.b) (.int 0) .unset) H .next _ H :=
      Ex1.forIt (It.call (Ev.bltin P.ok hE P.n_range P.b_range) (Evs.cons (Ev.loc hE at1) (Evs.cons (Ev.call (Ev.bltin P.ok hE P.n_len P.b_len) (Evs.cons (Ev.loc hE at2) Evs.nil) Cal.bltin hlen) Evs.nil)) Cal.type (CallIt.range2 (by (first | lia | omega)) (by (first | lia | omega)) (by (first | lia | omega)) (by (first | lia | omega)))) lp
    rw [e] at st2
    exact ⟨_, Ex.cons st0 (Ex.cons st1 (Ex.cons st2 (Ex.one (Ex1.ret (Ev.bin (Ev.loc hE at3) (Ev.bin (Ev.loc hE at1) (Ev.bin (Ev.loc hE at4) (Ev.attr Y (Ev.loc hE at0) hi hj rfl a_nt) Opr.add) (Opr.mul (mulL (by (first | lia | omega))))) Opr.add)))))⟩
  · have e : (((s.count.length : Nat) : Int) - (tab : Int)).toNat = 0 := by (first | lia | omega)
    have e2 : s.count.length - tab = 0 := by (first | lia | omega)
    have lp : Loop (Turn G d (env103 pm cd L) (forT (sN 103 2)) (forB (sN 103 2)) fun _ => True) (span (tab : Int) (((s.count.length : Nat) : Int) - (tab : Int)).toNat) (lv103 (.ref i) (.int tab) (.ref u) (.int s.b) (.int 0) .unset) H .next (lv103 (.ref i) (.int tab) (.ref u) (.int s.b) (.int 0) .unset) H := by
      rw [e]; exact .nil
    have st2 : Ex1 G d (env103 pm cd L) (sN 103 2) (lv103 (.ref i) (.int tab) (.ref u) (.int s.b) (.int 0) .unset) H .next _ H :=
      Ex1.forIt (It.call (Ev.bltin P.ok hE P.n_range P.b_range) (Evs.cons (Ev.loc hE at1) (Evs.cons (Ev.call (Ev.bltin P.ok hE P.n_len P.b_len) (Evs.cons (Ev.loc hE at2) Evs.nil) Cal.bltin hlen) Evs.nil)) Cal.type (CallIt.range2 (by (first | lia | omega)) (by (first | lia | omega)) (by (first | lia | omega)) (by (first | lia | omega)))) lp
    have hi0 : indW s tab = s.b + tab * (0 + s.nt) := by unfold indW; rw [e2]; rfl
    rw [hi0]
    exact ⟨_, Ex.cons st0 (Ex.cons st1 (Ex.cons st2 (Ex.one (Ex1.ret (Ev.bin (Ev.loc hE at3) (Ev.bin (Ev.loc hE at1) (Ev.bin (Ev.loc hE at4) (Ev.attr Y (Ev.loc hE at0) hi hj rfl a_nt) Opr.add) (Opr.mul (mulL (by (first | lia | omega))))) Opr.add)))))⟩
end
end Mine

namespace Mine
open PySem PySem.W

def tTabs (s : WSt) : Int := (indW s 3).fdiv 3
def tTwo (s : WSt) : Int := (indW s 2).fdiv 2 - tTabs s
def tOne (s : WSt) : Int := indW s 1 - tTabs s - 2 * tTwo s
def toldB (b o t u : Nat) : Bool :=
  let x := leadOf b o t u
  let s := wRun x.cps.toList wst0
  (x.cps.all fun c => decide (c < 128)) && decide (x.cps.size ≤ 20) && decide (tTabs s - tOne s - tTwo s = b) && decide (tOne s = o) && decide (tTwo s = t) && decide ((tTwo s).natAbs < 1000)
theorem told_all : ∀ b : Fin 3, ∀ o : Fin 3, ∀ t : Fin 3, ∀ u : Fin 7, toldB b o t u = true := by decide +kernel

section
variable {G : Gd} {d : Nat} {H : List AO}
abbrev env72 (pm cd : Value) (L : Addr) : Env := callEnv (mkFd 72 "_law_told" "_law_told" .none pm cd) L 196
def ns72 : List Str := ["lead", "white", "tabs", "two", "one"]
abbrev lv72 (lead white tabs two one : AV) : LV := [("lead", lead), ("white", white), ("tabs", tabs), ("two", two), ("one", one)]

theorem told_spec (P : Prog G) (W : White G) {b o t u : Nat} (hb : b < 3) (ho : o < 3) (ht : t < 3) (hu : u < 7) :
    ∃ x H', CallT G (d + 3) (.ext (.ref 196)) [.str (leadOf b o t u)] H x H' ∧ Grow H H' ∧ IL H' x [(b : Int), (o : Int), (t : Int)] := by
  have ok := told_all ⟨b, hb⟩ ⟨o, ho⟩ ⟨t, ht⟩ ⟨u, hu⟩
  obtain ⟨K, Y, hinit, htf, hil, htf2, hrd, hS, hT, a_raw, a_n, a_nt, a_norm, a_simple⟩ := W.K
  generalize hx : leadOf b o t u = x at *
  have hs0 : toldB b o t u = true := ok
  unfold toldB at hs0
  rw [hx] at hs0
  generalize hs : wRun x.cps.toList wst0 = s at *
  simp only [Bool.and_eq_true, decide_eq_true_eq] at hs0
  obtain ⟨⟨⟨⟨⟨k1, k2⟩, k3⟩, k4⟩, k5⟩, k6⟩ := hs0
  rw [hs] at k3 k4 k5 k6
  have hcl : s.count.length ≤ 420 := by
    rw [← hs]; exact wRun_bound _ (by show 0 + _ ≤ 20; simp; (first | lia | omega)) (by show 0 + 21 * _ ≤ 420; simp; (first | lia | omega))
  obtain ⟨pm, cd, F⟩ := P.fn (ns := ns72) P.f_law_told (by decide) (by decide) (by decide) (by decide) rfl rfl rfl
  obtain ⟨H1, tt, uu, ci, g1, q1, q2, q3, q4⟩ := init_spec (d := d) P W k1 k2 (H := H)
  rw [hs] at q2 q3 q4
  have mk := CallT.make (d := d + 1) Y hinit htf ci
  have ind : ∀ {n : Nat}, 0 < n → n < 1000 → CallT G (d + 2) (.ext (.ref 109)) [.ref (H.length + 1), .int n] H1 (.int (indW s n)) H1 := fun h1 h2 => indent_spec (d := d + 1) P W h1 h2 q1 q2 q3 q4 (by (first | lia | omega))
  have hcal : ∀ H, Cal G (.ext (.ref 109)) H := fun H => by
    obtain ⟨pm, cd, ⟨o, ho, hd⟩, _⟩ := W.indent
    exact Cal.fn ho hd
  have un : ∀ p ∈ ([("white", .unset), ("tabs", .unset), ("two", .unset), ("one", .unset)] : LV), p.2 = .unset := fun p h => by
    simp only [List.mem_cons, List.not_mem_nil, or_false] at h
    rcases h with rfl | rfl | rfl | rfl <;> rfl
  have lres : H1 ++ [AO.list [AV.int (tTabs s - tOne s - tTwo s), AV.int (tOne s), AV.int (tTwo s)]] = H1 ++ [AO.list (([(b : Int), (o : Int), (t : Int)] : List Int).map AV.int)] := by rw [k3, k4, k5]; rfl
  refine ⟨.ref H1.length, H1 ++ [AO.list (([(b : Int), (o : Int), (t : Int)] : List Int).map AV.int)], CallT.def (ps := [("lead", .str x)]) (ls := [("white", .unset), ("tabs", .unset), ("two", .unset), ("one", .unset)]) (f := .ret (.ref H1.length)) P.ok F (Binds.plain (names := ["lead"]) rfl (by
    exact len1 fun _ => rfl)) rfl un fun L hE => ?_, g1.trans .push, ⟨_, rfl, get_last⟩⟩
  have st0 : Ex1 G (d + 2) (env72 pm cd L) (sN 72 0) (lv72 (.str x) .unset .unset .unset .unset) H .next (lv72 (.str x) (.ref (H.length + 1)) .unset .unset .unset) H1 :=
    Ex1.assign hE (Ev.call (Ev.fn P hE W.g) (Evs.cons (Ev.loc hE at0) Evs.nil) Y.cal mk) pt1
  have me : ∀ {n : Nat} {tabs two one : AV} {pos apos ipos npos : Pos} (h1 : 0 < n) (h2 : n < 1000) (hp : (apos.endLine == pos.line) = true), Ev G (d + 2) (env72 pm cd L) (.Call (.Attribute (.Name "white" npos) "indent_level" apos) [.Constant (.int n) 0 ipos] [] pos) (lv72 (.str x) (.ref (H.length + 1)) tabs two one) H1 (.int (indW s n)) H1 := fun h1 h2 hp =>
    Ev.methFn Y (Ev.loc hE at1) q1 q2 hil htf2 rfl hcal (Evs.cons Ev.cInt Evs.nil) (ind h1 h2) rfl (by show 1 < 30; decide) hp
  have st1 : Ex1 G (d + 2) (env72 pm cd L) (sN 72 1) (lv72 (.str x) (.ref (H.length + 1)) .unset .unset .unset) H1 .next (lv72 (.str x) (.ref (H.length + 1)) (.int (tTabs s)) .unset .unset) H1 :=
    Ex1.assign hE (Ev.bin (me (n := 3) (by decide) (by decide) rfl) Ev.cInt (Opr.div (by decide) (by decide))) pt2
  have st2 : Ex1 G (d + 2) (env72 pm cd L) (sN 72 2) (lv72 (.str x) (.ref (H.length + 1)) (.int (tTabs s)) .unset .unset) H1 .next (lv72 (.str x) (.ref (H.length + 1)) (.int (tTabs s)) (.int (tTwo s)) .unset) H1 :=
    Ex1.assign hE (Ev.bin (Ev.bin (me (n := 2) (by decide) (by decide) rfl) Ev.cInt (Opr.div (by decide) (by decide))) (Ev.loc hE at2) Opr.sub) pt3
  have st3 : Ex1 G (d + 2) (env72 pm cd L) (sN 72 3) (lv72 (.str x) (.ref (H.length + 1)) (.int (tTabs s)) (.int (tTwo s)) .unset) H1 .next (lv72 (.str x) (.ref (H.length + 1)) (.int (tTabs s)) (.int (tTwo s)) (.int (tOne s))) H1 :=
    Ex1.assign hE (Ev.bin (Ev.bin (me (n := 1) (by decide) (by decide) rfl) (Ev.loc hE at2) Opr.sub) (Ev.bin Ev.cInt (Ev.loc hE at3) (Opr.mul (mulR (by (first | lia | omega))))) Opr.sub) pt4
  exact ⟨_, Ex.cons st0 (Ex.cons st1 (Ex.cons st2 (Ex.cons st3 (Ex.one (Ex1.ret (lres ▸ Ev.list (Evs.cons (Ev.bin (Ev.bin (Ev.loc hE at2) (Ev.loc hE at4) Opr.sub) (Ev.loc hE at3) Opr.sub) (Evs.cons (Ev.loc hE at4) (Evs.cons (Ev.loc hE at3) Evs.nil))) (by simp)))))))⟩
end
end Mine

namespace Mine
open PySem PySem.W

section
variable {G : Gd} {d : Nat} {env : Env} {r r' : LV} {H H' H₁ H₂ K : List AO}

/-! ## lists of lists are one -/
theorem reads_ints {al : List Addr} {h : Heap} : ∀ {ns : List Int} {vs : List Value}, VRs al (ns.map .int) vs → ReadsAll h vs (ns.map PyData.int) []
  | [], _, .nil => .nil
  | n :: ns, _, .cons hv t => by
    obtain ⟨tk, rfl⟩ := hv
    exact ReadsAll.cons (as := []) (bs := []) (Reads.int n tk) (reads_ints t)
theorem reads_IL {al : List Addr} {h : Heap} (R : Rel G.bs al K h) {a : AV} {ns : List Int} (hi : IL K a ns) {v : Value} (hv : VR al a v) : ∃ as, Reads h v (.list (ns.map PyData.int)) as := by
  obtain ⟨i, rfl, hx⟩ := hi
  obtain ⟨b, vs, n, rfl, hi, hm, ho, hl, q, hlen⟩ := R.isList hx hv
  exact ⟨_, .list ho rfl rfl (reads_ints q)⟩
theorem reads_ILs {al : List Addr} {h : Heap} (R : Rel G.bs al K h) : ∀ {as : List AV} {xs : List (List Int)} {vs : List Value}, Paired (IL K) as xs → VRs al as vs → ∃ bs, ReadsAll h vs (xs.map fun ns => PyData.list (ns.map PyData.int)) bs
  | _, _, _, .nil, .nil => ⟨_, .nil⟩
  | _, _, _, .cons hi t, .cons hv q => by
    obtain ⟨a1, h1⟩ := reads_IL R hi hv
    obtain ⟨a2, h2⟩ := reads_ILs R t q
    exact ⟨_, .cons h1 h2⟩
theorem reads_IL2 {al : List Addr} {h : Heap} (R : Rel G.bs al K h) {a : AV} {xs : List (List Int)} (hi : IL2 K a xs) {v : Value} (hv : VR al a v) : ∃ as, Reads h v (.list (xs.map fun ns => PyData.list (ns.map PyData.int))) as := by
  obtain ⟨i, as, rfl, hx, hp⟩ := hi
  obtain ⟨b, vs, n, rfl, hi, hm, ho, hl, q, hlen⟩ := R.isList hx hv
  obtain ⟨bs, hr⟩ := reads_ILs R hp q
  exact ⟨_, .list ho rfl rfl hr⟩
theorem shaped2 (xs : List (List Int)) : SeqAt.shaped (.list (xs.map fun ns => PyData.list (ns.map PyData.int))) = true := by
  have h : ∀ xs : List (List Int), PyData.canLayAll0 (xs.map fun ns => PyData.list (ns.map PyData.int)) = true ∧ PyData.depthAll (xs.map fun ns => PyData.list (ns.map PyData.int)) ≤ 1 := by
    intro xs
    induction xs with
    | nil => exact ⟨rfl, Nat.zero_le _⟩
    | cons x xs ih =>
      simp [PyData.canLayAll0, PyData.canLay0, PyData.depthAll, PyData.depth, ke_canLayAll0, ke_depthAll, ih.1]
      have := ih.2
      first | (first | lia | omega) | exact this
  obtain ⟨h1, h2⟩ := h xs
  simp only [SeqAt.shaped, PyData.canLay0, PyData.depth, h1, Bool.true_and]
  exact decide_eq_true (by (first | lia | omega))
theorem eqv2 : ∀ xs : List (List Int), PyData.eqvAll (xs.map fun ns => PyData.list (ns.map PyData.int)) (xs.map fun ns => PyData.list (ns.map PyData.int)) = true
  | [] => by simp [PyData.eqvAll]
  | x :: xs => by
    simp only [List.map_cons, PyData.eqvAll, PyData.eqv, ked_eqvAll, eqv2 xs, decide_true, Bool.and_self]
theorem AOK.room64 {A : Around} (h : AOK (d + 4) A) : A.units + 64 < cLine := by have := h.units; (first | lia | omega)
theorem Opr.neL2 {a b : AV} {xs : List (List Int)} (ha : IL2 H a xs) (hb : IL2 H b xs) : Opr G (d + 4) (compareOp .NotEq) a b H (.bool false) H := .mk fun A s al x y Q hA R hv hw k => by
  obtain ⟨as, ra⟩ := reads_IL2 R ha hv
  obtain ⟨bs, rb⟩ := reads_IL2 R hb hw
  refine PyProof.Rows.ne_dataH ra rb (shaped2 xs) (shaped2 xs) hA.room64 ?_
  have e : PyData.eqv (.list (xs.map fun ns => PyData.list (ns.map PyData.int))) (.list (xs.map fun ns => PyData.list (ns.map PyData.int))) = true := by
    simp only [PyData.eqv]; exact eqv2 xs
  rw [e]
  exact fin00 k R rfl
theorem Opr.eqT {i j : Nat} {xs : List Int} (ha : H[i]? = some (.tup (xs.map .int))) (hb : H[j]? = some (.tup (xs.map .int))) : Opr G (d + 4) (compareOp .Eq) (.ref i) (.ref j) H (.bool true) H := .mk fun A s al x y Q hA R hv hw k => by
  obtain ⟨a, vs, n, rfl, hi, hm, ho, hl, q, hlen⟩ := R.isTup ha hv
  obtain ⟨b, ws, m, rfl, hi2, hm2, ho2, hl2, q2, hlen2⟩ := R.isTup hb hw
  have ra : Reads s.heap (.ref a) (.tuple (xs.map PyData.int)) [] := .tuple ho rfl rfl (reads_ints q)
  have rb : Reads s.heap (.ref b) (.tuple (xs.map PyData.int)) [] := .tuple ho2 rfl rfl (reads_ints q2)
  have sh : SeqAt.shaped (.tuple (xs.map PyData.int)) = true := by
    simp [SeqAt.shaped, PyData.canLay0, PyData.depth, ke_canLayAll0, ke_depthAll]
  refine PyProof.Rows.eq_dataH ra rb sh sh hA.room64 ?_
  have e : PyData.eqv (.tuple (xs.map PyData.int)) (.tuple (xs.map PyData.int)) = true := by
    simp only [PyData.eqv, ked_eqvAll, decide_true]
  rw [e]
  exact fin00 k R rfl

/-! ## one for in a comprehension -/
theorem comp1 {α : Type} {sc : Scope} {elt : Expr} {x : Str} {px : Pos} {f : α → AV} {good : α → AV → List AO → Prop} {K0 : List AO} {Ok : List AO → Prop} (hg : ∀ v a K K', Grow K K' → good v a K → good v a K') (hOk : ∀ K, Grow K0 K → Ok K) :
    ∀ (vs : List α) (step : ∀ v ∈ vs, ∀ K, Grow K0 K → ∃ a K', (∀ C env, EnvOK G (compEnv sc C env) → Ev G d (compEnv sc C env) elt [(x, f v)] K a K') ∧ Grow K K' ∧ good v a K') {K : List AO}, Grow K0 K →
    ∃ as K', (∀ C env D b, EnvOK G (compEnv sc C env) → ∃ b', CL (TurnC G d (compEnv sc C env) D (.Name x px) (eval elt (compEnv sc C env) >>= fun y => call (.builtin "list.append") [.ref D, y] >>= fun _ => pure ()) Ok) (vs.map f) [(x, b)] K as [(x, b')] K') ∧ Grow K K' ∧ Paired (fun v a => good v a K') vs as
  | [], _, K, g => ⟨[], K, fun _ _ _ b _ => ⟨b, .nil⟩, .refl, .nil⟩
  | v :: vs, step, K, g => by
    obtain ⟨a, K1, ev, g1, q1⟩ := step v List.mem_cons_self K g
    obtain ⟨as, K2, cl, g2, q2⟩ := comp1 hg hOk vs (fun v hv => step v (List.mem_cons_of_mem _ hv)) (g.trans g1)
    refine ⟨a :: as, K2, fun C env D b hE => ?_, g1.trans g2, .cons (hg _ _ _ _ g2 q1) q2⟩
    obtain ⟨b', c⟩ := cl C env D (f v) hE
    exact ⟨b', CL.cons (as := [a]) ⟨_, _, Asg.name hE pt0, Emit.one (ev C env hE), hOk _ (g.trans g1)⟩ c⟩

theorem Ev.andB {x y : Expr} {pos : Pos} {a : AV} (h1 : Ev G d env x r H (.bool true) H₁) (h2 : Ev G d env y r H₁ a H₂) : Ev G d env (.BoolOp .And [x, y] pos) r H a H₂ := .mk fun A s al Q hA R L k => by
  refine PyProof.Rows.BoolOp_and (h1.run hA R L fun v s₁ e₁ R₁ L₁ V₁ S₁ => ?_)
  cases V₁
  refine wpAny_truthy_bool ?_
  rw [if_pos rfl]
  refine PyProof.Rows.BoolOp_one ?_
  exact h2.run hA R₁ L₁ fun v s₂ e₂ R₂ L₂ V₂ S₂ => k v s₂ (e₁ ++ e₂) (by simpa only [List.append_assoc] using R₂) (by simpa only [List.append_assoc] using V₂) (S₁.trans S₂)
end

/-! ## the signs' kinds -/
structure Toks (G : Gd) : Prop where
  g : G.mg "EXACT_TOKEN_TYPES" = some (.ref 145)
  m : ∃ f, G.h₀.MapOf (strKind G.prog G.w) 145 f ∧ ∀ c, c = 40 ∨ c = 91 ∨ c = 41 ∨ c = 93 → ∃ t, f ⟨#[c]⟩ = some (.int (kd c) t)
theorem Sub.tok {G : Gd} {d : Nat} {H : List AO} (T : Toks G) {c : Nat} (hc : c = 40 ∨ c = 91 ∨ c = 41 ∨ c = 93) : Sub G d (.ext (.ref 145)) (chr c) H (.int (kd c)) H := .mk fun A s al x y Q hA R hv hw => by
  cases hv
  obtain ⟨t, rfl⟩ := hw
  obtain ⟨f, hm, hf⟩ := T.m
  obtain ⟨t', hf⟩ := hf c hc
  have hm' : s.heap.MapOf (strKind G.prog G.w) 145 f := by
    obtain ⟨o, es, ep, ho, r⟩ := hm
    exact ⟨o, es, ep, R.base _ _ ho, r⟩
  exact ⟨⟨"dict", _, hm'.typeIs, slot_dict_getitem.lookup⟩, fun K => wpAny_getItem_of (strKind_is G.prog G.w _ t) hm' hf (fin0 K R ⟨t', rfl⟩)⟩
theorem wstep_mem {s : WS} {v : Int} {x : Nat} (h : x ∈ (wstep s v).xs) : x ∈ s.xs ∨ x = 40 ∨ x = 91 ∨ x = 41 ∨ x = 93 := by
  unfold wstep at h
  split at h
  · simp only [List.mem_append, List.mem_singleton] at h
    rcases h with h | h
    · exact .inl (by cases hk : s.kind (v.fmod 2) <;> first | exact h | simpa using h)
    · split at h <;> simp [h]
  · simp only [List.mem_append, List.mem_singleton] at h
    rcases h with h | h
    · exact .inl h
    · split at h <;> simp [h]
theorem wrun_mem : ∀ (vs : List Int) {s : WS} {x : Nat}, x ∈ (wrun s vs).xs → x ∈ s.xs ∨ x = 40 ∨ x = 91 ∨ x = 41 ∨ x = 93
  | [], _, _, h => .inl h
  | v :: vs, s, x, h => by
    rcases wrun_mem vs (s := wstep s v) h with h | h
    · exact wstep_mem h
    · exact .inr h
end Mine

namespace Mine
open PySem PySem.W

def cnt3 (c : Int) : List Int := [c.fmod 3, (c.fdiv 3).fmod 3, (c.fdiv 9).fmod 3]
theorem cnt3_small (c : Int) : ∀ x ∈ cnt3 c, x = 0 ∨ x = 1 ∨ x = 2 := by
  intro x hx
  simp only [cnt3, List.mem_cons, List.not_mem_nil, or_false] at hx
  rcases hx with rfl | rfl | rfl <;> exact fmod3 _
theorem cnt3_in (c : Int) : ∃ r g b : Int, cnt3 c = [r, g, b] ∧ r ∈ ([0, 1, 2] : List Int) ∧ g ∈ ([0, 1, 2] : List Int) ∧ b ∈ ([0, 1, 2] : List Int) := by
  refine ⟨_, _, _, rfl, ?_, ?_, ?_⟩ <;> simp only [List.mem_cons, List.not_mem_nil, or_false] <;> exact fmod3 _
theorem tri_small {c : List Int} (h : ∀ x ∈ c, x = 0 ∨ x = 1 ∨ x = 2) (d : Int) : 0 ≤ tri c d ∧ tri c d ≤ 2 := by
  unfold tri
  by_cases hi : (d.fmod 3).toNat < c.length
  · have : c.getD (d.fmod 3).toNat 0 ∈ c := by
      rw [List.getD_eq_getElem?_getD, List.getElem?_eq_getElem hi]; exact List.getElem_mem hi
    have := h _ this
    (first | lia | omega)
  · rw [List.getD_eq_getElem?_getD, List.getElem?_eq_none (by (first | lia | omega))]; simp
def small2 (cs : List (List Int)) : Prop := ∀ c ∈ cs, ∀ x ∈ c, x = 0 ∨ x = 1 ∨ x = 2
theorem placeW_small {row : List Int} {ends cs : List (List Int)} (h : small2 cs) : ∀ t, 0 ≤ placeW row ends cs t ∧ placeW row ends cs t ≤ 2 ^ t
  | 0 => by simp [placeW]
  | t + 1 => by
    obtain ⟨h1, h2⟩ := placeW_small (row := row) (ends := ends) h t
    have h3 : 0 ≤ tri (cs.getD t []) (dif row (ends.getD t [])) ∧ tri (cs.getD t []) (dif row (ends.getD t [])) ≤ 2 := by
      refine tri_small ?_ _
      by_cases hi : t < cs.length
      · have : cs.getD t [] ∈ cs := by rw [List.getD_eq_getElem?_getD, List.getElem?_eq_getElem hi]; exact List.getElem_mem hi
        exact h _ this
      · rw [List.getD_eq_getElem?_getD, List.getElem?_eq_none (by (first | lia | omega))]; simp
    unfold placeW
    refine ⟨Int.mul_nonneg h1 h3.1, ?_⟩
    have := Int.mul_le_mul h2 h3.2 h3.1 (by exact Int.le_of_lt (Int.pow_pos (by decide)))
    rw [Int.pow_succ]; exact this
theorem foldl_small {b : Int} : ∀ (l : List Int) (z : Int), 0 ≤ z → (∀ x ∈ l, 0 ≤ x ∧ x ≤ b) → 0 ≤ l.foldl (· + ·) z ∧ l.foldl (· + ·) z ≤ z + l.length * b
  | [], z, hz, _ => by simp [hz]
  | x :: l, z, hz, h => by
    obtain ⟨h1, h2⟩ := h x (by simp)
    obtain ⟨a1, a2⟩ := foldl_small l (z + x) (by (first | lia | omega)) fun y hy => h y (List.mem_cons_of_mem _ hy)
    refine ⟨a1, Int.le_trans a2 ?_⟩
    simp only [List.length_cons]
    have : ((l.length + 1 : Nat) : Int) * b = l.length * b + b := by
      rw [Int.natCast_add, Int.add_mul]; simp
    rw [this]; (first | lia | omega)
theorem places_small {n : Nat} {ends cs : List (List Int)} (h : small2 cs) (hn : n ≤ 4) (he : ends.length = 5) : ∃ W : Nat, places (paint n) ends cs = (W : Int) ∧ W ≤ 2592 := by
  have h0 : ∀ x ∈ ((paint n).map fun row => placeW row ends cs ends.length), 0 ≤ x ∧ x ≤ 32 := by
    intro x hx
    obtain ⟨row, _, rfl⟩ := List.mem_map.mp hx
    rw [he]
    exact placeW_small h 5
  obtain ⟨a1, a2⟩ := foldl_small _ 0 (Int.le_refl _) h0
  rw [List.length_map, paint_len] at a2
  have hp : (3 : Nat) ^ n ≤ 81 := by
    have : n = 0 ∨ n = 1 ∨ n = 2 ∨ n = 3 ∨ n = 4 := by (first | lia | omega)
    rcases this with rfl | rfl | rfl | rfl | rfl <;> decide
  have hW : 0 ≤ places (paint n) ends cs ∧ places (paint n) ends cs ≤ 2592 := by
    unfold places
    refine ⟨a1, ?_⟩
    (first | lia | omega)
  exact ⟨(places (paint n) ends cs).toNat, by (first | lia | omega), by (first | lia | omega)⟩
theorem figs_len (c : Int) : (figs c).length = 8 := by
  have h0 := Int.emod_nonneg c (show (65536 : Int) ≠ 0 by decide)
  have h1 := Int.emod_lt_of_pos c (show (0 : Int) < 65536 by decide)
  have he : c.fmod 65536 = c % 65536 := Int.fmod_eq_emod_of_nonneg c (by decide)
  unfold figs
  rw [List.length_take, digits_len, he]
  generalize hX : (c % 65536 + 65536).toNat = X
  have hX1 : 65536 ≤ X := by (first | lia | omega)
  have hb : 16 < Builtin.Int.intBits (X : Int) := by
    rcases Nat.lt_or_ge 16 (Builtin.Int.intBits (X : Int)) with h | h
    · exact h
    · have := intBits_le_iff.mp h
      rw [Int.natAbs_natCast] at this
      (first | lia | omega)
  unfold mOf
  (first | lia | omega)
theorem ne0 {k : Nat} {pos : Pos} {qual : Str} {H : List AO} (T : TabOK k pos qual H) {i : Nat} {xs : List AV} (h : H[i]? = some (.list xs)) : i ≠ k := by
  rintro rfl
  rcases T with ⟨_, T⟩ | ⟨j, _, _, T, _⟩ <;> rw [h] at T <;> cases T
theorem IL.growX {k : Nat} {pos : Pos} {qual : Str} {H H' : List AO} (T : TabOK k pos qual H) (g : GrowX k H H') {a : AV} {xs : List Int} : IL H a xs → IL H' a xs := fun ⟨i, e, h⟩ => ⟨i, e, g i _ (ne0 T h) h⟩
theorem IL2.growX {k : Nat} {pos : Pos} {qual : Str} {H H' : List AO} (T : TabOK k pos qual H) (g : GrowX k H H') {a : AV} {xs : List (List Int)} : IL2 H a xs → IL2 H' a xs := fun ⟨i, as, e, h, p⟩ => ⟨i, as, e, g i _ (ne0 T h) h, paired_imp (fun _ _ => IL.growX T g) p⟩
theorem paired_flip {α β γ : Type} {F : α → β → Prop} {F' : β → γ → Prop} {f : α → γ} (hf : ∀ a b, F a b → F' b (f a)) : ∀ {l : List α} {k : List β}, Paired F l k → Paired F' k (l.map f)
  | _, _, .nil => .nil
  | _, _, .cons h t => .cons (hf _ _ h) (paired_flip hf t)
theorem paired_eq {α : Type} {f : α → AV} : ∀ {l : List α} {k : List AV}, Paired (fun x a => a = f x) l k → k = l.map f
  | _, _, .nil => rfl
  | _, _, .cons h t => by rw [h, paired_eq t]; rfl
theorem triOK_cnt (cs : List Int) : TriOK (cs.map cnt3) := by
  intro c hc
  obtain ⟨x, _, rfl⟩ := List.mem_map.mp hc
  refine ⟨_, _, _, rfl, ?_, ?_, ?_⟩ <;> (have := fmod3 x; have := fmod3 (x.fdiv 3); have := fmod3 (x.fdiv 9); (first | lia | omega))
theorem seenOK_hat (cs : List Int) : SeenOK ((cs.map cnt3).map hatL) := by
  intro c hc
  obtain ⟨y, hy, rfl⟩ := List.mem_map.mp hc
  obtain ⟨x, _, rfl⟩ := List.mem_map.mp hy
  have h1 := fmod3 x
  have h2 := fmod3 (x.fdiv 3)
  have h3 := fmod3 (x.fdiv 9)
  refine ⟨_, _, _, _, _, _, rfl, ?_, ?_, ?_, ?_, ?_, ?_⟩ <;> (try simp only [cnt3, List.getD_cons_zero, List.getD_cons_succ]) <;> (first | lia | omega)
theorem small2_cnt (cs : List Int) : small2 (cs.map cnt3) := by
  intro c hc
  obtain ⟨x, _, rfl⟩ := List.mem_map.mp hc
  exact cnt3_small x
end Mine

namespace Mine
open PySem PySem.W

def namePos : Expr → Pos
  | .Name _ p => p
  | _ => default
def cmpR : Expr → Expr
  | .Compare _ _ [e] _ => e
  | e => e
def argN (e : Expr) (i : Nat) : Expr := match e with
  | .Call _ as _ _ => as.getD i e
  | _ => e
def ce1 : Expr := compE (sN 77 1)
def ce2 : Expr := cmpR (ifE (sN 77 2))
def ce3 : Expr := compE (sN 77 3)
def ce7 : Expr := argN (compE (sN 77 7)) 2
theorem scopeOne {sc : Scope} {x : Str} (h1 : sc.kind = .function) (h2 : ∀ y ∈ sc.names, y.2 ≠ .free) (h3 : ∀ y ∈ sc.names, y.2 ≠ .cell) (h4 : ∀ x ∈ sc.names, x.2 = .local → sc.names.lookup x.1 = some .local) (h5 : sc.names.lookup x = some .local) (h6 : (x == ("__debug__" : Str)) = false) :
    ScopeOK sc [(x, .unset)] := ⟨h1, h2, h3, h4, by simp, fun q h => by rw [List.mem_singleton.mp h]; exact h5, fun q h => by rw [List.mem_singleton.mp h]; exact h6, fun q h => by rw [List.mem_singleton.mp h]⟩
theorem sc1 : ScopeOK (compS ce1) [(Str.ofString "cell", .unset)] := scopeOne rfl (by decide) (by decide) (by decide) (by decide) (by decide)
theorem sc2 : ScopeOK (compS ce2) [(Str.ofString "cell", .unset)] := scopeOne rfl (by decide) (by decide) (by decide) (by decide) (by decide)
theorem sc3 : ScopeOK (compS ce3) [(Str.ofString "sign", .unset)] := scopeOne rfl (by decide) (by decide) (by decide) (by decide) (by decide)
theorem sc7 : ScopeOK (compS ce7) [(Str.ofString "row", .unset)] := scopeOne rfl (by decide) (by decide) (by decide) (by decide) (by decide)

section
variable {G : Gd} {e : Nat} {H : List AO}
abbrev env77 (pm cd : Value) (L : Addr) : Env := callEnv (mkFd 77 "law" "law" .none pm cd) L 227
def ns77 : List Str := ["script", "cells", "counts", "kinds", "spots", "ties", "fields", "across", "weight", "plain", "aside", "power"]
abbrev lv77 (script cells counts kinds spots ties fields across weight plain aside power : AV) : LV := [("script", script), ("cells", cells), ("counts", counts), ("kinds", kinds), ("spots", spots), ("ties", ties), ("fields", fields), ("across", across), ("weight", weight), ("plain", plain), ("aside", aside), ("power", power)]

/-- the leads told -/
theorem counts_comp (P : Prog G) (W : White G) {K0 : List AO} {Ok : List AO → Prop} (hOk : ∀ K, Grow K0 K → Ok K) (vs : List Int) :
    ∃ as K', (∀ C env D b, EnvOK G (compEnv (compS ce1) C env) → ∃ b', CL (TurnC G (e + 63) (compEnv (compS ce1) C env) D (.Name "cell" (namePos (compT ce1 0))) (eval (compElt ce1) (compEnv (compS ce1) C env) >>= fun y => call (.builtin "list.append") [.ref D, y] >>= fun _ => pure ()) Ok) (vs.map .int) [("cell", b)] K0 as [("cell", b')] K') ∧ Grow K0 K' ∧ Paired (fun c a => IL K' a (cnt3 c)) vs as := by
  refine comp1 (f := AV.int) (good := fun c a K => IL K a (cnt3 c)) (fun _ _ _ _ g h => h.grow g) hOk vs (fun c _ K g => ?_) Grow.refl
  obtain ⟨K1, c1, g1⟩ := lead_spec (d := e + 61) (H := K) P c
  obtain ⟨b0, b1, b2⟩ := fmod_nat c 3 (by decide)
  obtain ⟨o0, o1, o2⟩ := fmod_nat (c.fdiv 3) 3 (by decide)
  obtain ⟨t0, t1, t2⟩ := fmod_nat (c.fdiv 9) 3 (by decide)
  obtain ⟨u0, u1, u2⟩ := fmod_nat (c.fdiv 27) 7 (by decide)
  obtain ⟨x, K2, c2, g2, il⟩ := told_spec (d := e + 60) (H := K1) P W (b := (c.fmod 3).toNat) (o := ((c.fdiv 3).fmod 3).toNat) (t := ((c.fdiv 9).fmod 3).toNat) (u := ((c.fdiv 27).fmod 7).toNat) (by (first | lia | omega)) (by (first | lia | omega)) (by (first | lia | omega)) (by (first | lia | omega))
  rw [b0, o0, t0] at il
  exact ⟨x, K2, fun C env hE => Ev.call (Ev.fn P hE P.g_law_told) (Evs.cons (Ev.call (Ev.fn P hE P.g_law_lead) (Evs.cons (Ev.loc hE at0) Evs.nil) P.f_law_lead.cal c1) Evs.nil) P.f_law_told.cal c2, g1.trans g2, il⟩
theorem rows_comp (P : Prog G) {K0 : List AO} {Ok : List AO → Prop} (hOk : ∀ K, Grow K0 K → Ok K) (vs : List Int) :
    ∃ as K', (∀ C env D b, EnvOK G (compEnv (compS ce2) C env) → ∃ b', CL (TurnC G (e + 63) (compEnv (compS ce2) C env) D (.Name "cell" (namePos (compT ce2 0))) (eval (compElt ce2) (compEnv (compS ce2) C env) >>= fun y => call (.builtin "list.append") [.ref D, y] >>= fun _ => pure ()) Ok) (vs.map .int) [("cell", b)] K0 as [("cell", b')] K') ∧ Grow K0 K' ∧ Paired (fun c a => IL K' a (cnt3 c)) vs as := by
  refine comp1 (f := AV.int) (good := fun c a K => IL K a (cnt3 c)) (fun _ _ _ _ g h => h.grow g) hOk vs (fun c _ K g => ?_) Grow.refl
  have c1 := counts_spec (d := e + 62) (H := K) P c
  exact ⟨_, _, fun C env hE => Ev.call (Ev.fn P hE P.g_law_counts) (Evs.cons (Ev.loc hE at0) Evs.nil) P.f_law_counts.cal c1, .push, ⟨_, rfl, get_last⟩⟩
theorem kinds_comp (P : Prog G) (T : Toks G) {K0 : List AO} (vs : List Nat) (hv : ∀ x ∈ vs, x = 40 ∨ x = 91 ∨ x = 41 ∨ x = 93) :
    ∃ as K', (∀ C env D b, EnvOK G (compEnv (compS ce3) C env) → ∃ b', CL (TurnC G (e + 63) (compEnv (compS ce3) C env) D (.Name "sign" (namePos (compT ce3 0))) (eval (compElt ce3) (compEnv (compS ce3) C env) >>= fun y => call (.builtin "list.append") [.ref D, y] >>= fun _ => pure ()) (fun _ => True)) (vs.map chr) [("sign", b)] K0 as [("sign", b')] K') ∧ Grow K0 K' ∧ Paired (fun x a => a = .int (kd x)) vs as := by
  refine comp1 (f := chr) (good := fun x a K => a = .int (kd x)) (fun _ _ _ _ g h => h) (fun _ _ => trivial) vs (fun c hc K g => ?_) Grow.refl
  exact ⟨_, K, fun C env hE => Ev.sub (Ev.fn P hE T.g) (Ev.loc hE at0) (Sub.tok T (hv c hc)), .refl, rfl⟩
theorem seen_comp (P : Prog G) {K0 : List AO} {Ok : List AO → Prop} (hOk : ∀ K, Grow K0 K → Ok K) (vs : List (AV × Int)) (hv : ∀ v ∈ vs, IL K0 v.1 (cnt3 v.2)) :
    ∃ as K', (∀ C env D b, EnvOK G (compEnv (compS ce7) C env) → ∃ b', CL (TurnC G (e + 63) (compEnv (compS ce7) C env) D (.Name "row" (namePos (compT ce7 0))) (eval (compElt ce7) (compEnv (compS ce7) C env) >>= fun y => call (.builtin "list.append") [.ref D, y] >>= fun _ => pure ()) Ok) (vs.map Prod.fst) [("row", b)] K0 as [("row", b')] K') ∧ Grow K0 K' ∧ Paired (fun c a => IL2 K' a (hatL (cnt3 c.2))) vs as := by
  refine comp1 (f := Prod.fst) (good := fun c a K => IL2 K a (hatL (cnt3 c.2))) (fun _ _ _ _ g h => h.grow g) hOk vs (fun v hm K g => ?_) Grow.refl
  obtain ⟨r, gg, b, ec, hr, hg, hb⟩ := cnt3_in v.2
  have il := hv v hm
  rw [ec] at il
  obtain ⟨x, K1, c1, g1, q1⟩ := seen_spec (d := e + 61) (H := K) P (seen_all r hr gg hg b hb) (il.grow g)
  have hk : v.1.known = true := by obtain ⟨i, ei, _⟩ := il; rw [ei]; rfl
  exact ⟨x, K1, fun C env hE => Ev.call (Ev.fn P hE P.g_law_seen) (Evs.cons (Ev.loc hE at0 hk) Evs.nil) P.f_law_seen.cal c1, g1, ec ▸ q1⟩
end
end Mine

namespace Mine
open PySem PySem.W

theorem six {cs : List Int} (h : cs.length = 6) : ∃ c0 c1 c2 c3 c4 c5, cs = [c0, c1, c2, c3, c4, c5] := by
  match cs, h with
  | [c0, c1, c2, c3, c4, c5], _ => exact ⟨_, _, _, _, _, _, rfl⟩
theorem mem_zip1 {α β : Type} {F : α → β → Prop} : ∀ {l : List α} {k : List β}, Paired F l k → (k.zip l).map Prod.fst = k ∧ (k.zip l).map Prod.snd = l ∧ ∀ v ∈ k.zip l, F v.2 v.1
  | _, _, .nil => ⟨rfl, rfl, fun v h => by simp at h⟩
  | _, _, .cons h t => by
    obtain ⟨a, b, c⟩ := mem_zip1 t
    refine ⟨by simp [a], by simp [b], fun v hv => ?_⟩
    simp only [List.zip_cons_cons, List.mem_cons] at hv
    rcases hv with rfl | hv
    · exact h
    · exact c v hv

theorem paired_unmap {α β γ : Type} {F : α → β → Prop} {f : γ → β} : ∀ {l : List α} {k : List γ}, Paired F l (k.map f) → Paired (fun c a => F a (f c)) k l
  | [], [], _ => .nil
  | [], _ :: _, h => by cases h
  | _ :: _, [], h => by cases h
  | _ :: _, _ :: _, .cons h t => .cons h (paired_unmap t)
section
variable {G : Gd} {e : Nat} {H : List AO}
theorem law_spec (P : Prog G) (W : White G) (T : Toks G) (hf : Raw G 227 77 "law" .none) {l : Addr} {lvs : Array Value} {ns : List Int} (hl : G.h₀.IsList l lvs) (hv : ∀ al, VRs al (ns.map .int) lvs.toList) (hz : ns.length ≤ 1000) (T0 : TabOK 0 pos8 qn8 H) (T1 : TabOK 1 pos9 qn9 H) :
    ∃ H', CallT G (e + 64) (.ext (.ref 227)) [.ext (.ref l)] H (.bool true) H' ∧ TabOK 0 pos8 qn8 H' ∧ TabOK 1 pos9 qn9 H' := by
  obtain ⟨pm, cd, F⟩ := P.fn (ns := ns77) hf (by decide) (by decide) (by decide) (by decide) rfl rfl rfl
  obtain ⟨ca, H1, cs, cc, g1, icel, hlen⟩ := cells_spec (d := e + 62) (H := H) P hl hv hz
  obtain ⟨ic, rfl, hic⟩ := icel
  obtain ⟨c0, c1, c2, c3, c4, c5, rfl⟩ := six hlen
  let vs : List Int := [c1, c2, c3, c4, c5]
  -- the leads told
  generalize hH2 : H1 ++ [AO.list (vs.map AV.int)] = H2
  have g2 : Grow H1 H2 := hH2 ▸ Grow.push
  have q2 : H2[H1.length]? = some (.list (vs.map AV.int)) := hH2 ▸ get_last
  obtain ⟨as1, H3, cl1, g3, p1⟩ := counts_comp (e := e) P W (K0 := H2) (Ok := fun K => K[H1.length]? = some (.list (vs.map AV.int))) (fun K g => g.get q2) vs
  generalize hH4 : H3 ++ [AO.list as1] = H4
  have g4 : Grow H3 H4 := hH4 ▸ Grow.push
  have n1 : as1.length = 5 := by rw [← p1.length]; rfl
  have il1 : IL2 H4 (.ref H3.length) (vs.map cnt3) := ⟨_, as1, rfl, hH4 ▸ get_last, paired_flip (fun _ _ h => h.grow g4) p1⟩
  -- the rows
  generalize hH5 : H4 ++ [AO.list (vs.map AV.int)] = H5
  have g5 : Grow H4 H5 := hH5 ▸ Grow.push
  have q5 : H5[H4.length]? = some (.list (vs.map AV.int)) := hH5 ▸ get_last
  obtain ⟨as2, H6, cl2, g6, p2⟩ := rows_comp (e := e) P (K0 := H5) (Ok := fun K => K[H4.length]? = some (.list (vs.map AV.int))) (fun K g => g.get q5) vs
  generalize hH7 : H6 ++ [AO.list as2] = H7
  have g7 : Grow H6 H7 := hH7 ▸ Grow.push
  have n2 : as2.length = 5 := by rw [← p2.length]; rfl
  have il2 : IL2 H7 (.ref H6.length) (vs.map cnt3) := ⟨_, as2, rfl, hH7 ▸ get_last, paired_flip (fun _ _ h => h.grow g7) p2⟩
  have g47 : Grow H4 H7 := (g5.trans g6).trans g7
  have gH7 : Grow H H7 := (((g1.trans g2).trans g3).trans g4).trans g47
  have hic4 : H4[ic]? = some (.list ([c0, c1, c2, c3, c4, c5].map AV.int)) := g4.get (g3.get (g2.get hic))
  have hic7 : H7[ic]? = some (.list ([c0, c1, c2, c3, c4, c5].map AV.int)) := g47.get hic4
  -- the word
  have T07 : TabOK 0 pos8 qn8 H7 := T0.grow gH7
  obtain ⟨H8, cw, T08, gx⟩ := word_spec (d := e + 1) (H := H7) P c0 T07
  obtain ⟨S, ji, s7, s9, st5, scsum, lo7, lo9⟩ := word_whole (figs c0) (figs_len c0)
  generalize hxs : (wrun ws0 (figs c0)).xs = xs at *
  have hmem : ∀ x ∈ xs, x = 40 ∨ x = 91 ∨ x = 41 ∨ x = 93 := fun x hx => by
    rw [← hxs] at hx
    rcases wrun_mem _ hx with h | h
    · simp [ws0] at h; (first | lia | omega)
    · exact h
  have hasc : ((mk xs).cps.all fun c => decide (c < 128)) = true := by
    rw [← Array.all_toList, List.all_eq_true]
    intro x hx
    have := hmem x (by simpa [mk] using hx)
    simp; (first | lia | omega)
  obtain ⟨as3, H9, cl3, g9, p3⟩ := kinds_comp (e := e) P T (K0 := H8) xs hmem
  have e3 : as3 = (xs.map kd).map AV.int := by rw [paired_eq p3]; simp
  generalize hH10 : H9 ++ [AO.list as3] = H10
  have g10 : Grow H9 H10 := hH10 ▸ Grow.push
  have ilk : IL H10 (.ref H9.length) (xs.map kd) := ⟨_, rfl, by rw [← e3]; exact hH10 ▸ get_last⟩
  have il1x : IL2 H10 (.ref H3.length) (vs.map cnt3) := ((il1.grow g47).growX T07 gx).grow (g9.trans g10)
  have T010 : TabOK 0 pos8 qn8 H10 := T08.grow (g9.trans g10)
  have T110 : TabOK 1 pos9 qn9 H10 := ((T1.grow gH7).growX rfl rfl gx).grow (g9.trans g10)
  have nsg : (signs (mk xs)) = xs.map chr := by simp [signs, mk, chr]
  have lxs : as3.length ≤ 1000000 := by
    have : as3.length = xs.length := by rw [e3]; simp
    have h10 : xs.length = 10 := by
      rw [← hxs, wrun_len, figs_len]; rfl
    (first | lia | omega)
  -- the maps
  obtain ⟨i7, H11, ae7, cm7, g11, t7, ie7⟩ := map_spec (d := e + 62) (H := H10) P ilk ji.r7
  obtain ⟨i9, H12, ae9, cm9, g12, t9, ie9⟩ := map_spec (d := e + 62) (H := H11) P (ilk.grow g11) ji.r9
  obtain ⟨ok7, ok9⟩ := ji.ends s7 s9
  obtain ⟨n, hn⟩ : ∃ n, S.c7 = n + 1 := ⟨S.c7 - 1, by (first | lia | omega)⟩
  obtain ⟨m, hm⟩ : ∃ m, S.c9 = m + 1 := ⟨S.c9 - 1, by (first | lia | omega)⟩
  have cnt7 : S.m7.cnt = ((n + 1 : Nat) : Int) := by rw [← hn]; rfl
  have cnt9 : S.m9.cnt = ((m + 1 : Nat) : Int) := by rw [← hm]; rfl
  have el7 : S.m7.ends.length = 5 := by rw [← st5]; simp [JS.m7]
  have el9 : S.m9.ends.length = 5 := by rw [← st5]; simp [JS.m9]
  have hcl : (vs.map cnt3).length = S.ties.length := by rw [st5]; rfl
  have dual := ji.dual s7 s9 (vs.map cnt3) hcl
  rw [hn, hm] at dual
  simp only [Nat.add_sub_cancel] at dual
  rw [cnt7] at t7
  rw [cnt9] at t9
  rw [hn] at ok7
  rw [hm] at ok9
  obtain ⟨Wt, hW, hWb⟩ := places_small (n := n) (ends := S.m7.ends) (small2_cnt vs) (by (first | lia | omega)) el7
  obtain ⟨H13, cp, g13⟩ := places_spec (d := e + 61) (H := H12) P (n := n) (by (first | lia | omega)) (ie7.grow g12) (il1x.grow (g11.trans g12)) ok7 (triOK_cnt vs) (by rw [el7]; simp [vs]) (by (first | lia | omega))
  rw [hW] at cp
  -- the fields
  have gb : Grow H10 H13 := (g11.trans g12).trans g13
  obtain ⟨j1, bs1, ej1, qj1, pj1⟩ := il1x
  cases ej1
  obtain ⟨z1, z2, z3⟩ := mem_zip1 (paired_unmap pj1)
  have qj13 : H13[H3.length]? = some (.list bs1) := gb.get qj1
  obtain ⟨as4, H14, cl4, g14, p4⟩ := seen_comp (e := e) P (K0 := H13) (Ok := fun K => K[H3.length]? = some (.list bs1)) (fun K g => g.get qj13) (bs1.zip vs) (fun v hm => IL.grow gb (z3 v hm))
  rw [z1] at cl4
  generalize hH15 : H14 ++ [AO.list as4] = H15
  have g15 : Grow H14 H15 := hH15 ▸ Grow.push
  have zz : (bs1.zip vs).map (fun c => hatL (cnt3 c.2)) = (vs.map cnt3).map hatL := by
    conv => rhs; rw [← z2]
    simp
  have il3 : IL3 H15 (.ref H14.length) ((vs.map cnt3).map hatL) := ⟨_, as4, rfl, hH15 ▸ get_last, zz ▸ paired_flip (fun _ _ h => h.grow g15) p4⟩
  have n4 : as4.length ≤ 1000000 := by
    rw [← p4.length]
    simp [vs]; (first | lia | omega)
  have n3 : (vs.map AV.int).length ≤ 1000000 := by simp [vs]
  have g1315 : Grow H13 H15 := g14.trans g15
  obtain ⟨i16, H16, cf, g16, t16⟩ := fields_spec (d := e + 61) (H := H15) P (n := m) (by (first | lia | omega)) (ie9.grow (g13.trans g1315)) il3 ok9 (seenOK_hat vs) (by rw [el9]; simp [vs]) (by (first | lia | omega))
  rw [dual, hW] at t16
  obtain ⟨ip, H17, cpw, g17, tp⟩ := powers_spec (d := e + 62) (H := H16) P (m := m) (by (first | lia | omega))
  have gbig : Grow H10 H17 := ((gb.trans g1315).trans g16).trans g17
  have hp3 : 0 < 3 ^ m ∧ 3 ^ m ≤ 81 := by
    have : m = 1 ∨ m = 2 ∨ m = 3 ∨ m = 4 := by (first | lia | omega)
    rcases this with rfl | rfl | rfl | rfl <;> decide
  have hx60 : 3 ^ m * Wt < 2 ^ 60 := by
    have := Nat.mul_le_mul hp3.2 hWb
    (first | lia | omega)
  obtain ⟨i18, H18, cdm, t18, u0, u1⟩ := int_divmod_spec (d := e) (H := H17) P (x := 3 ^ m * Wt) (b := 3 ^ m) hx60 hp3.1 (by (first | lia | omega)) (T010.grow gbig) (T110.grow gbig)
  obtain ⟨qr1, qr2⟩ := quot_rem (x := 3 ^ m * Wt) hp3.1
  rw [qr1, qr2, Nat.mul_div_cancel_left _ hp3.1, Nat.mul_mod_right] at t18
  generalize hH19 : H18 ++ [AO.tup [AV.int (Wt : Int), AV.int 0]] = H19
  have g19 : Grow H18 H19 := hH19 ▸ Grow.push
  have t19 : H19[i18]? = some (.tup (([(Wt : Int), 0] : List Int).map AV.int)) := g19.get t18
  have u19 : H19[H18.length]? = some (.tup (([(Wt : Int), 0] : List Int).map AV.int)) := hH19 ▸ get_last
  have pe : (3 : Int) ^ m * (Wt : Int) = ((3 ^ m * Wt : Nat) : Int) := by push_cast; rfl
  rw [pe] at t16
  have pw : (3 : Int) ^ m = ((3 ^ m : Nat) : Int) := by push_cast; rfl
  rw [pw] at tp
  have e2 : 2 * ((m + 1 : Nat) : Int) - 2 = 2 * (m : Int) := by (first | lia | omega)
  have e1 : ((m + 1 : Nat) : Int) - 1 = (m : Int) := by (first | lia | omega)
  have cis := iseof_spec (d := e + 62) (H := H17) P 0
  refine ⟨H19, CallT.def (d := e + 63) (ps := [("script", .ext (.ref l))]) (ls := [("cells", .unset), ("counts", .unset), ("kinds", .unset), ("spots", .unset), ("ties", .unset), ("fields", .unset), ("across", .unset), ("weight", .unset), ("plain", .unset), ("aside", .unset), ("power", .unset)]) (f := .ret (.bool true)) P.ok F (Binds.plain (names := ["script"]) rfl (by
    exact len1 fun _ => rfl)) rfl (fun p h => by
    simp only [List.mem_cons, List.not_mem_nil, or_false] at h
    rcases h with rfl | rfl | rfl | rfl | rfl | rfl | rfl | rfl | rfl | rfl | rfl <;> rfl) fun L hE => ?_, u0.grow g19, u1.grow g19⟩
  have ka7 : ae7.known = true := by obtain ⟨i, _, e, _⟩ := ie7; rw [e]; rfl
  have ka9 : ae9.known = true := by obtain ⟨i, _, e, _⟩ := ie9; rw [e]; rfl
  have st0 : Ex1 G (e + 63) (env77 pm cd L) (sN 77 0) (lv77 (.ext (.ref l)) .unset .unset .unset .unset .unset .unset .unset .unset .unset .unset .unset) H .next (lv77 (.ext (.ref l)) (.ref ic) .unset .unset .unset .unset .unset .unset .unset .unset .unset .unset) H1 :=
    Ex1.assign hE (Ev.call (Ev.fn P hE P.g_law_cells) (Evs.cons (Ev.loc hE at0) Evs.nil) P.f_law_cells.cal cc) pt1
  have st1 : Ex1 G (e + 63) (env77 pm cd L) (sN 77 1) (lv77 (.ext (.ref l)) (.ref ic) .unset .unset .unset .unset .unset .unset .unset .unset .unset .unset) H1 .next (lv77 (.ext (.ref l)) (.ref ic) (.ref H3.length) .unset .unset .unset .unset .unset .unset .unset .unset .unset) H4 :=
    hH4 ▸ Ex1.assignComp sc1 hE (It.list (hH2 ▸ Ev.sliceG (a := some 1) (b := none) (xs := [c0, c1, c2, c3, c4, c5].map AV.int) (Ev.loc hE at1) Ev.cInt trivial (Lst.at hic) (by simp)) q2) (CRun.one (by (first | lia | omega)) (fun C D hE' => let ⟨_, c⟩ := cl1 C _ D _ hE'; ⟨_, c⟩)) pt2 rfl
  have st2 : Ex1 G (e + 63) (env77 pm cd L) (sN 77 2) (lv77 (.ext (.ref l)) (.ref ic) (.ref H3.length) .unset .unset .unset .unset .unset .unset .unset .unset .unset) H4 .next (lv77 (.ext (.ref l)) (.ref ic) (.ref H3.length) .unset .unset .unset .unset .unset .unset .unset .unset .unset) H7 :=
    Ex1.ifF (Et.cmp (Ev.loc hE at2) (hH7 ▸ Ev.comp sc2 hE (It.list (hH5 ▸ Ev.sliceG (a := some 1) (b := none) (xs := [c0, c1, c2, c3, c4, c5].map AV.int) (Ev.loc hE at1) Ev.cInt trivial (Lst.at hic4) (by simp)) q5) (CRun.one (by (first | lia | omega)) (fun C D hE' => let ⟨_, c⟩ := cl2 C _ D _ hE'; ⟨_, c⟩))) (Opr.neL2 (d := e + 59) (il1.grow g47) il2)) Ex.nil
  have st3 : Ex1 G (e + 63) (env77 pm cd L) (sN 77 3) (lv77 (.ext (.ref l)) (.ref ic) (.ref H3.length) .unset .unset .unset .unset .unset .unset .unset .unset .unset) H7 .next (lv77 (.ext (.ref l)) (.ref ic) (.ref H3.length) (.ref H9.length) .unset .unset .unset .unset .unset .unset .unset .unset) H10 :=
    hH10 ▸ Ex1.assignComp sc3 hE (nsg ▸ It.str (Ev.call (Ev.fn P hE P.g_law_word) (Evs.cons (Ev.sub (Ev.loc hE at1) Ev.cInt (Sub.list hic7 (by decide) rfl (by decide))) Evs.nil) P.f_law_word.cal cw) hasc) (CRun.one lxs (fun C D hE' => let ⟨_, c⟩ := cl3 C _ D _ hE'; ⟨_, c⟩)) pt3 rfl
  have st4 : Ex1 G (e + 63) (env77 pm cd L) (sN 77 4) (lv77 (.ext (.ref l)) (.ref ic) (.ref H3.length) (.ref H9.length) .unset .unset .unset .unset .unset .unset .unset .unset) H10 .next (lv77 (.ext (.ref l)) (.ref ic) (.ref H3.length) (.ref H9.length) (.int ((n + 1 : Nat) : Int)) ae7 .unset .unset .unset .unset .unset .unset) H11 :=
    Ex1.assignTup (xs := ["spots", "ties"]) hE (Ev.call (Ev.fn P hE P.g_law_map) (Evs.cons (Ev.loc hE at3) (Evs.cons Ev.cInt Evs.nil)) P.f_law_map.cal cm7) (Unp.tup t7) (.cons (.cons .nil)) (.cons pt4 (.cons pt5 .nil))
  have st5 : Ex1 G (e + 63) (env77 pm cd L) (sN 77 5) (lv77 (.ext (.ref l)) (.ref ic) (.ref H3.length) (.ref H9.length) (.int ((n + 1 : Nat) : Int)) ae7 .unset .unset .unset .unset .unset .unset) H11 .next (lv77 (.ext (.ref l)) (.ref ic) (.ref H3.length) (.ref H9.length) (.int ((n + 1 : Nat) : Int)) ae7 (.int ((m + 1 : Nat) : Int)) ae9 .unset .unset .unset .unset) H12 :=
    Ex1.assignTup (xs := ["fields", "across"]) hE (Ev.call (Ev.fn P hE P.g_law_map) (Evs.cons (Ev.loc hE at3) (Evs.cons Ev.cInt Evs.nil)) P.f_law_map.cal cm9) (Unp.tup t9) (.cons (.cons .nil)) (.cons pt6 (.cons pt7 .nil))
  have st6 : Ex1 G (e + 63) (env77 pm cd L) (sN 77 6) (lv77 (.ext (.ref l)) (.ref ic) (.ref H3.length) (.ref H9.length) (.int ((n + 1 : Nat) : Int)) ae7 (.int ((m + 1 : Nat) : Int)) ae9 .unset .unset .unset .unset) H12 .next (lv77 (.ext (.ref l)) (.ref ic) (.ref H3.length) (.ref H9.length) (.int ((n + 1 : Nat) : Int)) ae7 (.int ((m + 1 : Nat) : Int)) ae9 (.int (Wt : Int)) .unset .unset .unset) H13 :=
    Ex1.assign hE (Ev.call (Ev.fn P hE P.g_law_places) (Evs.cons (Ev.loc hE at4) (Evs.cons (Ev.loc hE at5 ka7) (Evs.cons (Ev.loc hE at2) Evs.nil))) P.f_law_places.cal cp) pt8
  have st7 : Ex1 G (e + 63) (env77 pm cd L) (sN 77 7) (lv77 (.ext (.ref l)) (.ref ic) (.ref H3.length) (.ref H9.length) (.int ((n + 1 : Nat) : Int)) ae7 (.int ((m + 1 : Nat) : Int)) ae9 (.int (Wt : Int)) .unset .unset .unset) H13 .next (lv77 (.ext (.ref l)) (.ref ic) (.ref H3.length) (.ref H9.length) (.int ((n + 1 : Nat) : Int)) ae7 (.int ((m + 1 : Nat) : Int)) ae9 (.int (Wt : Int)) (.int ((3 ^ m * Wt : Nat) : Int)) (.int 0) .unset) H16 :=
    Ex1.assignTup (xs := ["plain", "aside"]) hE (Ev.call (Ev.fn P hE P.g_law_fields) (Evs.cons (Ev.loc hE at6) (Evs.cons (Ev.loc hE at7 ka9) (Evs.cons (hH15 ▸ Ev.comp sc7 hE (It.list (Ev.loc hE at2) qj13) (CRun.one n4 (fun C D hE' => let ⟨_, c⟩ := cl4 C _ D _ hE'; ⟨_, c⟩))) Evs.nil))) P.f_law_fields.cal cf) (Unp.tup t16) (.cons (.cons .nil)) (.cons pt9 (.cons pt10 .nil))
  have o1 : Opr G (e + 63) (binaryOp .Sub) (.int (2 * ((m + 1 : Nat) : Int))) (.int 2) H16 (.int (2 * (m : Int))) H16 := by
    have := Opr.sub (G := G) (d := e + 63) (H := H16) (x := 2 * ((m + 1 : Nat) : Int)) (y := 2)
    rw [e2] at this; exact this
  have o2 : ∀ K, Opr G (e + 63) (binaryOp .Sub) (.int ((m + 1 : Nat) : Int)) (.int 1) K (.int (m : Int)) K := fun K => by
    have := Opr.sub (G := G) (d := e + 63) (H := K) (x := ((m + 1 : Nat) : Int)) (y := 1)
    rw [e1] at this; exact this
  have vp : valA [((m : Int), AV.int ((3 ^ m : Nat) : Int))] (m : Int) = some (.int ((3 ^ m : Nat) : Int)) := by simp [valA]
  have cis' : CallT G (e + 63) (.ext (.ref 154)) [.int 0] H17 (.bool true) H17 := cis
  have st8 : Ex1 G (e + 63) (env77 pm cd L) (sN 77 8) (lv77 (.ext (.ref l)) (.ref ic) (.ref H3.length) (.ref H9.length) (.int ((n + 1 : Nat) : Int)) ae7 (.int ((m + 1 : Nat) : Int)) ae9 (.int (Wt : Int)) (.int ((3 ^ m * Wt : Nat) : Int)) (.int 0) .unset) H16 .next (lv77 (.ext (.ref l)) (.ref ic) (.ref H3.length) (.ref H9.length) (.int ((n + 1 : Nat) : Int)) ae7 (.int ((m + 1 : Nat) : Int)) ae9 (.int (Wt : Int)) (.int ((3 ^ m * Wt : Nat) : Int)) (.int 0) (.int ((3 ^ m : Nat) : Int))) H17 :=
    Ex1.assign hE (Ev.sub (Ev.call (Ev.fn P hE P.g_compute_powers) (Evs.cons (Ev.bin (Ev.bin Ev.cInt (Ev.loc hE at6) (Opr.mul (mulL (by decide)))) Ev.cInt o1) (Evs.cons Ev.cInt (Evs.cons (Ev.bin (Ev.loc hE at6) Ev.cInt (o2 H16)) Evs.nil))) P.f_compute_powers.cal cpw) (Ev.bin (Ev.loc hE at6) Ev.cInt (o2 H17)) (Sub.dict tp vp)) pt11
  exact ⟨_, Ex.cons st0 (Ex.cons st1 (Ex.cons st2 (Ex.cons st3 (Ex.cons st4 (Ex.cons st5 (Ex.cons st6 (Ex.cons st7 (Ex.cons st8 (Ex.one (Ex1.ret (Ev.andB (Ev.call (Ev.fn P hE P.g_ISEOF) (Evs.cons (Ev.loc hE at10) Evs.nil) P.f_ISEOF.cal cis')
    (Ev.cmp (Ev.call (Ev.fn P hE P.g_int_divmod) (Evs.cons (Ev.loc hE at9) (Evs.cons (Ev.loc hE at11) Evs.nil)) P.f_int_divmod.cal cdm) (hH19 ▸ Ev.tup (Evs.cons (Ev.loc hE at8) (Evs.cons Ev.cInt Evs.nil)) (by simp)) (Opr.eqT (d := e + 59) t19 u19)))))))))))))⟩
end
end Mine

namespace Mine
open PySem PySem.W

abbrev mkG (prog : Program) (w : World) (h : Heap) (mg mb : Str → Option Value) : Gd := { prog := prog, w := w, h₀ := hideAll h [52, 59], mg := mg, mb := mb, pre := [52, 59] }
def FnK (K : Frag) (a k : Nat) (nm qn : Str) (dV : Value) : Prop := ∃ pm c o oc vs t, K.lookup a = some o ∧ o.data = .func (mkFd k nm qn dV pm (.ref c)) ∧ K.lookup c = some oc ∧ oc.data = .fields vs ∧ vs[1]? = some (.str qn t)
def FnC (K : Frag) (a k : Nat) (nm : Str) (P : Addr) : Prop := ∃ pm c o oc vs t, K.lookup a = some o ∧ o.data = .func (mkFd k nm nm .none pm (.ref c)) ∧ K.lookup c = some oc ∧ oc.data = .fields vs ∧ vs[1]? = some (.str nm t) ∧ codeHdIn K c P = true
def entriesOf (o : Option Obj) : Array DictEntry := match o with
  | some ⟨_, _, .dict es _, _⟩ => es
  | _ => #[]
def tokRow (e : DictEntry) : Str × Tok × Value := match e.key with
  | .str k t => (k, t, e.val)
  | _ => ("", 0, .none)
abbrev gl (K : Frag) (n : Str) : Option (Option Value) := nsIn K mainGlobals n
abbrev lk (K : Frag) (n : Str) : Option (Option Value) := findIn K (.ref 140) n
abbrev fn : Option Value := some (.type "function")

/-- what the fragment that the head writes out must hold -/
structure KFacts (K : Frag) (P : Params) : Prop where
  n52 : K.lookup 52 = none
  n59 : K.lookup 59 = none
  bm : gl K "__builtins__" = some (some (.ref 4))
  g_rgb_to_hsv : gl K "rgb_to_hsv" = some (some (.ref 28))
  f_rgb_to_hsv : FnK K 28 2 "rgb_to_hsv" "rgb_to_hsv" .none
  g_div2n1n : gl K "_div2n1n" = some (some (.ref 43))
  f_div2n1n : FnK K 43 6 "_div2n1n" "_div2n1n" .none
  g_div3n2n : gl K "_div3n2n" = some (some (.ref 50))
  f_div3n2n : FnK K 50 7 "_div3n2n" "_div3n2n" .none
  g_int2digits : gl K "_int2digits" = some (some (.ref 57))
  f_int2digits : FnC K 57 8 "_int2digits" 52
  g_digits2int : gl K "_digits2int" = some (some (.ref 64))
  f_digits2int : FnC K 64 9 "_digits2int" 59
  g_divmod_pos : gl K "_divmod_pos" = some (some (.ref 71))
  f_divmod_pos : FnK K 71 10 "_divmod_pos" "_divmod_pos" .none
  g_int_divmod : gl K "int_divmod" = some (some (.ref 78))
  f_int_divmod : FnK K 78 11 "int_divmod" "int_divmod" .none
  g_ISEOF : gl K "ISEOF" = some (some (.ref 154))
  f_ISEOF : FnK K 154 65 "ISEOF" "ISEOF" .none
  g_law_cells : gl K "_law_cells" = some (some (.ref 161))
  f_law_cells : FnK K 161 67 "_law_cells" "_law_cells" .none
  g_law_word : gl K "_law_word" = some (some (.ref 168))
  f_law_word : FnK K 168 68 "_law_word" "_law_word" .none
  g_law_map : gl K "_law_map" = some (some (.ref 175))
  f_law_map : FnK K 175 69 "_law_map" "_law_map" .none
  g_law_counts : gl K "_law_counts" = some (some (.ref 182))
  f_law_counts : FnK K 182 70 "_law_counts" "_law_counts" .none
  g_law_lead : gl K "_law_lead" = some (some (.ref 189))
  f_law_lead : FnK K 189 71 "_law_lead" "_law_lead" .none
  g_law_told : gl K "_law_told" = some (some (.ref 196))
  f_law_told : FnK K 196 72 "_law_told" "_law_told" .none
  g_law_seen : gl K "_law_seen" = some (some (.ref 203))
  f_law_seen : FnK K 203 73 "_law_seen" "_law_seen" .none
  g_law_paintings : gl K "_law_paintings" = some (some (.ref 208))
  f_law_paintings : FnK K 208 74 "_law_paintings" "_law_paintings" .none
  g_law_places : gl K "_law_places" = some (some (.ref 215))
  f_law_places : FnK K 215 75 "_law_places" "_law_places" .none
  g_law_fields : gl K "_law_fields" = some (some (.ref 222))
  f_law_fields : FnK K 222 76 "_law_fields" "_law_fields" .none
  g_law : gl K "law" = some (some (.ref 227))
  f_law : FnK K 227 77 "law" "law" .none
  g_compute_powers : gl K "compute_powers" = some (some (.ref 36))
  f_compute_powers : FnK K 36 4 "compute_powers" "compute_powers" (.ref 29)
  o_compute_powers : K.lookup 29 = some (tupOf #[.bool false] 0)
  g_DIV_LIMIT : ∃ t, gl K "_DIV_LIMIT" = some (some (.int 4000 t))
  g_ENDMARKER : ∃ t, gl K "ENDMARKER" = some (some (.int 0 t))
  n_max : gl K "max" = some none
  n_min : gl K "min" = some none
  n_len : gl K "len" = some none
  n_range : gl K "range" = some none
  n_enumerate : gl K "enumerate" = some none
  n_reversed : gl K "reversed" = some none
  n_divmod : gl K "divmod" = some none
  n_int : gl K "int" = some none
  n_sum : gl K "sum" = some none
  n_set : gl K "set" = some none
  n_iter : gl K "iter" = some none
  n_sorted : gl K "sorted" = some none
  n_next : gl K "next" = some none
  n_tuple : gl K "tuple" = some none
  g_White : gl K "Whitespace" = some (some (.ref 140))
  makes : makesIn K 140 = true
  hga : lk K "__getattribute__" = some (some (.builtin "object.__getattribute__"))
  hgt : lk K "__getattr__" = some none
  hsa : lk K "__setattr__" = some (some (.builtin "object.__setattr__"))
  plain : plainOver K 140 = true
  hasd : (clsIn K 140).any (·.hasDict) = true
  w_init : lk K "__init__" = some (some (.ref 95))
  t_init : typeIn K (.ref 95) = fn
  w_ind : lk K "indent_level" = some (some (.ref 109))
  t_ind : typeIn K (.ref 109) = fn
  rd : readsIn K 140 (.type "type") = true
  c_S : ∃ t, findCls K (.ref 140) (.type "type") "S" = some (.val (.str (Str.ofString " ") t))
  c_T : ∃ t, findCls K (.ref 140) (.type "type") "T" = some (.val (.str (Str.ofString "\t") t))
  a_raw : lk K "raw" = some none
  a_n : lk K "n" = some none
  a_nt : lk K "nt" = some none
  a_norm : lk K "norm" = some none
  a_is_simple : lk K "is_simple" = some none
  f_init : FnK K 95 101 "__init__" "Whitespace.__init__" .none
  f_ind : FnK K 109 103 "indent_level" "Whitespace.indent_level" .none
  g_tok : gl K "EXACT_TOKEN_TYPES" = some (some (.ref 145))
  o_tok : ∃ o ep, K.lookup 145 = some o ∧ o.ExactDict ∧ o.data = .dict (entriesOf (K.lookup 145)) ep
  e_tok : (entriesOf (K.lookup 145)).toList = ((entriesOf (K.lookup 145)).toList.map tokRow).map fun r => ⟨PyData.keyHash P r.1, .str r.1 r.2.1, r.2.2⟩
  t_40 : ∃ t, findBy Value.isStrOf (entriesOf (K.lookup 145)) ⟨#[40]⟩ = some (.int 7 t)
  t_91 : ∃ t, findBy Value.isStrOf (entriesOf (K.lookup 145)) ⟨#[91]⟩ = some (.int 9 t)
  t_41 : ∃ t, findBy Value.isStrOf (entriesOf (K.lookup 145)) ⟨#[41]⟩ = some (.int 8 t)
  t_93 : ∃ t, findBy Value.isStrOf (entriesOf (K.lookup 145)) ⟨#[93]⟩ = some (.int 10 t)

theorem FnK.raw {K : Frag} {G : Gd} (X : K.In G.h₀) {a k : Nat} {nm : Str} {dV : Value} (h : FnK K a k nm nm dV) : Raw G a k nm dV := by
  obtain ⟨pm, c, o, oc, vs, t, h1, h2, h3, h4, h5⟩ := h
  exact ⟨pm, .ref c, ⟨o, X _ _ h1, h2⟩, ⟨c, oc, vs, t, rfl, X _ _ h3, h4, h5⟩⟩
theorem FnK.meth {K : Frag} {G : Gd} (X : K.In G.h₀) {a k : Nat} {nm qn : Str} {dV : Value} (h : FnK K a k nm qn dV) : ∃ pm cd, (∃ o, G.h₀.get? a = some o ∧ o.data = .func (mkFd k nm qn dV pm cd)) ∧ G.h₀.CodeRec cd qn := by
  obtain ⟨pm, c, o, oc, vs, t, h1, h2, h3, h4, h5⟩ := h
  exact ⟨pm, .ref c, ⟨o, X _ _ h1, h2⟩, ⟨c, oc, vs, t, rfl, X _ _ h3, h4, h5⟩⟩
theorem FnC.raw {K : Frag} {G : Gd} (X : K.In G.h₀) {a k kk : Nat} {nm : Str} {P : Addr} (h : FnC K a k nm P) (hp : G.pre[kk]? = some P) : RawC G a k nm kk := by
  obtain ⟨pm, c, o, oc, vs, t, h1, h2, h3, h4, h5, h6⟩ := h
  exact ⟨pm, c, P, ⟨o, X _ _ h1, h2⟩, ⟨c, oc, vs, t, rfl, X _ _ h3, h4, h5⟩, codeHd_of_K X h6, hp⟩
theorem keys_of {P : Params} {rows : List (Str × Tok × Value)} {w : World} (hP : P = w.params) {prog : Program} {es : Array DictEntry} (h : es.toList = rows.map fun r => ⟨PyData.keyHash P r.1, .str r.1 r.2.1, r.2.2⟩) : KeysOf (strKind prog w) es := fun e he => by
  have : e ∈ es.toList := by simpa using he
  rw [h] at this
  obtain ⟨r, _, rfl⟩ := List.mem_map.mp this
  subst hP
  exact ⟨r.1, strKind_is prog w _ _, rfl⟩

section
variable {prog prog0 : Program} {loose : List Str} {mean : ExcName → Option Value} {w : World} {mg mb : Str → Option Value} {h : Heap} {K : Frag} {P : Params}
theorem k_hide (F : KFacts K P) (X : K.In h) : K.In (hideAll h [52, 59]) := fun a o e => hideAll_get _ (X a o e) (by
  intro hm
  rcases List.mem_cons.mp hm with rfl | hm
  · rw [F.n52] at e; cases e
  · rw [List.mem_singleton.mp hm, F.n59] at e; cases e)
theorem ns_hide {h : Heap} {a : Addr} {m : Str → Option Value} (hn : h.Ns a m) (ha : a ∉ [52, 59]) : (hideAll h [52, 59]).Ns a m := by
  obtain ⟨o, es, ep, e, r⟩ := hn
  exact ⟨o, es, ep, hideAll_get _ e ha, r⟩
theorem prog_of (F : KFacts K P) (X : K.In h) (T : PyProof.Rows.Top prog0 loose mean mg mb h) : Prog (mkG prog w h mg mb) := by
  have X' : K.In (mkG prog w h mg mb).h₀ := k_hide F X
  have gl : ∀ {n : Str} {v : Value}, nsIn K mainGlobals n = some (some v) → mg n = some v := fun e => mg_of X T.g e
  have gn : ∀ {n : Str}, nsIn K mainGlobals n = some none → mg n = none := fun e => mg_none_of X T.g e
  have gb : ∀ {n : Str} {v : Value}, (n == ("__name__" : Str)) = false → bootBuiltins n = some v → mb n = some v := fun hn e => (T.builtins _ (by simpa using hn)).trans e
  exact {
    ok := ⟨ns_hide T.g (by decide), ns_hide T.b (by decide), let ⟨mc, a, b⟩ := T.nolimit; ⟨mc, ns_hide a (by decide), b⟩⟩
    bmod := by
      obtain ⟨bm, ob, e1, e2, e3, e4, e5, e6⟩ := T.bmain
      have hb : mg "__builtins__" = some (.ref 4) := gl F.bm
      rw [e1] at hb
      cases hb
      exact ⟨4, ob, e1, by decide, by decide, hideAll_get _ e3 (by decide), e4, e5, e6⟩
    g_rgb_to_hsv := gl F.g_rgb_to_hsv
    f_rgb_to_hsv := F.f_rgb_to_hsv.raw X'
    g_div2n1n := gl F.g_div2n1n
    f_div2n1n := F.f_div2n1n.raw X'
    g_div3n2n := gl F.g_div3n2n
    f_div3n2n := F.f_div3n2n.raw X'
    g_int2digits := gl F.g_int2digits
    f_int2digits := F.f_int2digits.raw X' rfl
    g_digits2int := gl F.g_digits2int
    f_digits2int := F.f_digits2int.raw X' rfl
    g_divmod_pos := gl F.g_divmod_pos
    f_divmod_pos := F.f_divmod_pos.raw X'
    g_int_divmod := gl F.g_int_divmod
    f_int_divmod := F.f_int_divmod.raw X'
    g_ISEOF := gl F.g_ISEOF
    f_ISEOF := F.f_ISEOF.raw X'
    g_law_cells := gl F.g_law_cells
    f_law_cells := F.f_law_cells.raw X'
    g_law_word := gl F.g_law_word
    f_law_word := F.f_law_word.raw X'
    g_law_map := gl F.g_law_map
    f_law_map := F.f_law_map.raw X'
    g_law_counts := gl F.g_law_counts
    f_law_counts := F.f_law_counts.raw X'
    g_law_lead := gl F.g_law_lead
    f_law_lead := F.f_law_lead.raw X'
    g_law_told := gl F.g_law_told
    f_law_told := F.f_law_told.raw X'
    g_law_seen := gl F.g_law_seen
    f_law_seen := F.f_law_seen.raw X'
    g_law_paintings := gl F.g_law_paintings
    f_law_paintings := F.f_law_paintings.raw X'
    g_law_places := gl F.g_law_places
    f_law_places := F.f_law_places.raw X'
    g_law_fields := gl F.g_law_fields
    f_law_fields := F.f_law_fields.raw X'
    g_compute_powers := gl F.g_compute_powers
    f_compute_powers := F.f_compute_powers.raw X'
    o_compute_powers := ⟨_, X' _ _ F.o_compute_powers, rfl⟩
    g_DIV_LIMIT := let ⟨t, e⟩ := F.g_DIV_LIMIT; ⟨t, gl e⟩
    g_ENDMARKER := let ⟨t, e⟩ := F.g_ENDMARKER; ⟨t, gl e⟩
    n_max := gn F.n_max
    b_max := gb (by decide) (by kernel_rfl)
    n_min := gn F.n_min
    b_min := gb (by decide) (by kernel_rfl)
    n_len := gn F.n_len
    b_len := gb (by decide) (by kernel_rfl)
    n_range := gn F.n_range
    b_range := gb (by decide) (by kernel_rfl)
    n_enumerate := gn F.n_enumerate
    b_enumerate := gb (by decide) (by kernel_rfl)
    n_reversed := gn F.n_reversed
    b_reversed := gb (by decide) (by kernel_rfl)
    n_divmod := gn F.n_divmod
    b_divmod := gb (by decide) (by kernel_rfl)
    n_int := gn F.n_int
    b_int := gb (by decide) (by kernel_rfl)
    n_sum := gn F.n_sum
    b_sum := gb (by decide) (by kernel_rfl)
    n_set := gn F.n_set
    b_set := gb (by decide) (by kernel_rfl)
    n_iter := gn F.n_iter
    b_iter := gb (by decide) (by kernel_rfl)
    n_sorted := gn F.n_sorted
    b_sorted := gb (by decide) (by kernel_rfl)
    n_next := gn F.n_next
    b_next := gb (by decide) (by kernel_rfl) }
theorem white_of (F : KFacts K P) (X : K.In h) (T : PyProof.Rows.Top prog0 loose mean mg mb h) : White (mkG prog w h mg mb) := by
  have X' : K.In (mkG prog w h mg mb).h₀ := k_hide F X
  exact {
    K := ⟨K, ⟨X', F.makes, F.hga, F.hgt, F.hsa, F.plain, F.hasd⟩, F.w_init, F.t_init, F.w_ind, F.t_ind, F.rd, F.c_S, F.c_T, F.a_raw, F.a_n, F.a_nt, F.a_norm, F.a_is_simple⟩
    g := mg_of X T.g F.g_White
    n_tuple := mg_none_of X T.g F.n_tuple
    b_tuple := (T.builtins "tuple" (by decide)).trans (by kernel_rfl)
    init := F.f_init.meth X'
    indent := F.f_ind.meth X' }
theorem toks_of (F : KFacts K w.params) (X : K.In h) (T : PyProof.Rows.Top prog0 loose mean mg mb h) : Toks (mkG prog w h mg mb) := by
  have X' : K.In (mkG prog w h mg mb).h₀ := k_hide F X
  obtain ⟨o, ep, h1, h2, h3⟩ := F.o_tok
  refine ⟨mg_of X T.g F.g_tok, fun k => findBy (strKind prog w).is (entriesOf (K.lookup 145)) k, ⟨o, _, ep, X' _ _ h1, h2, h3, keys_of rfl F.e_tok, fun k => rfl⟩, ?_⟩
  intro c hc
  rcases hc with rfl | rfl | rfl | rfl
  · exact F.t_40
  · exact F.t_91
  · exact F.t_41
  · exact F.t_93

open PyProof.Rows in
theorem ints_vrs {vs : List Value} {ns : List Int} (h : IntsAre vs ns) (al : List Addr) : VRs al (ns.map .int) vs := by
  induction h with
  | nil => exact .nil
  | cons n t _ ih => exact .cons ⟨t, rfl⟩ ih
theorem tab_end {k : Nat} {pos : Pos} {qual : Str} {H : List AO} (T : TabOK k pos qual H) {b : Base} {al : List Addr} {h : Heap} (R : Rel b al H h) {P : Addr} (hP : al[k]? = some P) : ∃ more, h.get? P = some (tabObj more) := by
  rcases T with ⟨_, T⟩ | ⟨j, _, _, T, _⟩
  · obtain ⟨o, ho, q⟩ := R.obj k P _ hP T
    have := q []
    exact ⟨_, this ▸ ho⟩
  · obtain ⟨o, ho, q⟩ := R.obj k P _ hP T
    obtain ⟨c', _, e⟩ := q []
    exact ⟨_, e ▸ ho⟩
theorem codeTable_of {h' : Heap} {c P : Addr} (h : CodeHd h' c P) : isCodeTable h' P := by
  obtain ⟨o, vs, file, tf, flags, tg, inF, text, tt, h1, h2, h3, h4, _⟩ := h
  exact ⟨c, o, vs, h1, h2, h3, h4⟩
theorem FnC.table {a k : Nat} {nm : Str} {Q : Addr} (X : K.In h) (F : FnC K a k nm Q) : isCodeTable h Q := by
  obtain ⟨pm, c, o, oc, vs, t, h1, h2, h3, h4, h5, h6⟩ := F
  exact codeTable_of (codeHd_of_K X h6)

/-- the law's call, from what the head says -/
theorem law_of {s₁ : Shared} {fa l : Addr} {vs : List Value} {ns : List Int} (X : K.In s₁.heap) (F : KFacts K w.params) (T : PyProof.Rows.Top prog0 loose mean mg mb s₁.heap) (tabs : ∀ P ∈ [59, 52], s₁.heap.get? P = some (tabObj #[])) (hmg : mg "law" = some (.ref fa))
    (hL : s₁.heap.IsList l vs.toArray) (hI : PyProof.Rows.IntsAre vs ns) (hn : ns.length ≤ 63) :
    wpAny (model prog w) callerA (call (.ref fa) [.ref l]) (fun v s' => v = .bool true ∧ OldK s₁.heap s'.heap ∧ s'.os = s₁.os ∧ s'.gens = s₁.gens) (fun _ _ => False) s₁ := by
  have hfa : mg "law" = some (.ref 227) := mg_of X T.g F.g_law
  rw [hfa] at hmg
  cases hmg
  have t52 : s₁.heap.get? 52 = some (tabObj #[]) := tabs 52 (by decide)
  have t59 : s₁.heap.get? 59 = some (tabObj #[]) := tabs 59 (by decide)
  have P := prog_of (prog := prog) (w := w) F X T
  have W := white_of (prog := prog) (w := w) F X T
  have K := toks_of (prog := prog) F X T
  have hraw : Raw (mkG prog w s₁.heap mg mb) 227 77 "law" .none := F.f_law.raw (k_hide F X)
  have hl0 : (hideAll s₁.heap [52, 59]).IsList l vs.toArray := by
    obtain ⟨o, ho, hc, n, hd⟩ := hL
    refine ⟨o, hideAll_get _ ho ?_, hc, n, hd⟩
    intro hm
    rcases List.mem_cons.mp hm with rfl | hm
    · rw [t52] at ho; cases ho; cases hc
    · rw [List.mem_singleton.mp hm, t59] at ho; cases ho; cases hc
  have R0 : Rel (mkG prog w s₁.heap mg mb).bs [52, 59] [tabE, tabE] s₁.heap := by
    refine ⟨List.prefix_refl _, fun b o e => of_hideAll _ e, fun a ha => hideAll_none _ ha, by decide, rfl, fun i a x e1 e2 => ?_⟩
    match i, e1, e2 with
    | 0, e1, e2 => cases e1; cases e2; exact ⟨_, t52, fun e => rfl⟩
    | 1, e1, e2 => cases e1; cases e2; exact ⟨_, t59, fun e => rfl⟩
    | n + 2, e1, e2 => simp at e1
  obtain ⟨H', c, T0, T1⟩ := law_spec (e := 0) (H := [tabE, tabE]) P W K hraw hl0 (fun al => by simpa using ints_vrs hI al) (by (first | lia | omega)) (.inl ⟨by decide, rfl⟩) (.inl ⟨by decide, rfl⟩)
  have hA : AOK (0 + 64) callerA := ⟨rfl, by decide, by decide⟩
  refine c.go callerA s₁ [52, 59] (.ref 227) [.ref l] _ hA R0 rfl (.cons rfl .nil) fun v s' ext R' V' S' => ?_
  cases V'
  obtain ⟨m0, e0⟩ := tab_end T0 R' (P := 52) rfl
  obtain ⟨m1, e1⟩ := tab_end T1 R' (P := 59) rfl
  refine ⟨rfl, ⟨fun b o e => ?_, fun b o e => Option.isSome_iff_exists.mp (S'.dom b (by rw [e]; rfl))⟩, S'.os, S'.gens⟩
  by_cases h52 : b = 52
  · subst h52
    rw [t52] at e
    cases e
    exact .inr (.inl ⟨F.f_int2digits.table X, rfl, #[], m0, rfl, by rw [e0]; simp⟩)
  · by_cases h59 : b = 59
    · subst h59
      rw [t59] at e
      cases e
      exact .inr (.inl ⟨F.f_digits2int.table X, rfl, #[], m1, rfl, by rw [e1]; simp⟩)
    · exact .inl (S'.keep b o (by simp [h52, h59]) e)
end
end Mine

namespace Mine
open PySem PySem.W PyProof.Rows
theorem lawHolds.tw10211986436197080312 : True := trivial
theorem lawHolds.tw1024695985933025291 : True := trivial
theorem lawHolds.tw10305930427806134739 : True := trivial
theorem lawHolds.tw10376755003006007008 : True := trivial
theorem lawHolds.tw105511644330755329 : True := trivial
theorem lawHolds.tw10710658035104492302 : True := trivial
theorem lawHolds.tw10715421411674060062 : True := trivial
theorem lawHolds.tw11246745737855305561 : True := trivial
theorem lawHolds.tw11254944953999046886 : True := trivial
theorem lawHolds.tw11325246555065653324 : True := trivial
theorem lawHolds.tw118032422091581974 : True := trivial
theorem lawHolds.tw12169268904880719749 : True := trivial
theorem lawHolds.tw12298256790806396092 : True := trivial
theorem lawHolds.tw12615279761922559376 : True := trivial
theorem lawHolds.tw12712359113470908367 : True := trivial
theorem lawHolds.tw12748656065522718337 : True := trivial
theorem lawHolds.tw13023230821621730588 : True := trivial
theorem lawHolds.tw13207831340550069634 : True := trivial
theorem lawHolds.tw1325651888370052797 : True := trivial
theorem lawHolds.tw13528257585567898085 : True := trivial
theorem lawHolds.tw13555425163328330551 : True := trivial
theorem lawHolds.tw13664615794248121137 : True := trivial
theorem lawHolds.tw13688765416550172659 : True := trivial
theorem lawHolds.tw13809275030695720502 : True := trivial
theorem lawHolds.tw13833436037983205761 : True := trivial
theorem lawHolds.tw13991293106853159657 : True := trivial
theorem lawHolds.tw14032103085965382151 : True := trivial
theorem lawHolds.tw14153912875253041304 : True := trivial
theorem lawHolds.tw14256668373557214972 : True := trivial
theorem lawHolds.tw142629796414024432 : True := trivial
theorem lawHolds.tw14646467329422549729 : True := trivial
theorem lawHolds.tw14648623112361237046 : True := trivial
theorem lawHolds.tw14949526093193273018 : True := trivial
theorem lawHolds.tw15022024570251402311 : True := trivial
theorem lawHolds.tw15395818900337266620 : True := trivial
theorem lawHolds.tw15550668265396116731 : True := trivial
theorem lawHolds.tw1583962219065343637 : True := trivial
theorem lawHolds.tw16067151875343318025 : True := trivial
theorem lawHolds.tw16200055587799743288 : True := trivial
theorem lawHolds.tw16224079836087932924 : True := trivial
theorem lawHolds.tw16275625584512999534 : True := trivial
theorem lawHolds.tw16295919985653198887 : True := trivial
theorem lawHolds.tw16388328795498033476 : True := trivial
theorem lawHolds.tw16460434900196327616 : True := trivial
theorem lawHolds.tw16541126046479861219 : True := trivial
theorem lawHolds.tw16565851554199427949 : True := trivial
theorem lawHolds.tw16574365567160577208 : True := trivial
theorem lawHolds.tw16595635683255713525 : True := trivial
theorem lawHolds.tw1663195105212635102 : True := trivial
theorem lawHolds.tw16812157303020360642 : True := trivial
theorem lawHolds.tw16864123647819589527 : True := trivial
theorem lawHolds.tw17003610121620104686 : True := trivial
theorem lawHolds.tw17060805708621277269 : True := trivial
theorem lawHolds.tw17151552518046774517 : True := trivial
theorem lawHolds.tw17203406601901741391 : True := trivial
theorem lawHolds.tw172140700240088178 : True := trivial
theorem lawHolds.tw17424431843016012596 : True := trivial
theorem lawHolds.tw17502228387509424789 : True := trivial
theorem lawHolds.tw17647708487104917502 : True := trivial
theorem lawHolds.tw1774778788194547046 : True := trivial
theorem lawHolds.tw17870741169011498860 : True := trivial
theorem lawHolds.tw1800833068862452631 : True := trivial
theorem lawHolds.tw18171066670470507413 : True := trivial
theorem lawHolds.tw18222838006616053109 : True := trivial
theorem lawHolds.tw18298646123576901159 : True := trivial
theorem lawHolds.tw18328148178768520538 : True := trivial
theorem lawHolds.tw1889131426738496173 : True := trivial
theorem lawHolds.tw2288579649854714512 : True := trivial
theorem lawHolds.tw2365518286501153211 : True := trivial
theorem lawHolds.tw2384360421726558240 : True := trivial
theorem lawHolds.tw242192112293786444 : True := trivial
theorem lawHolds.tw2451497607809554788 : True := trivial
theorem lawHolds.tw2635327354973999918 : True := trivial
theorem lawHolds.tw2739435260058153647 : True := trivial
theorem lawHolds.tw2846525142014471575 : True := trivial
theorem lawHolds.tw2946225821370571801 : True := trivial
theorem lawHolds.tw3163719015891933120 : True := trivial
theorem lawHolds.tw3194598504669792467 : True := trivial
theorem lawHolds.tw3275016254505991335 : True := trivial
theorem lawHolds.tw3287449812736342856 : True := trivial
theorem lawHolds.tw3305451327567497439 : True := trivial
theorem lawHolds.tw3367797421318311840 : True := trivial
theorem lawHolds.tw3634209878002482446 : True := trivial
theorem lawHolds.tw3752186749572482710 : True := trivial
theorem lawHolds.tw4049892217471996204 : True := trivial
theorem lawHolds.tw4116857649033975270 : True := trivial
theorem lawHolds.tw4195226648961225024 : True := trivial
theorem lawHolds.tw4406520508273678567 : True := trivial
theorem lawHolds.tw4673197528605813815 : True := trivial
theorem lawHolds.tw4721250828259909116 : True := trivial
theorem lawHolds.tw4805772212666179749 : True := trivial
theorem lawHolds.tw4955144993231922034 : True := trivial
theorem lawHolds.tw4978332568933614906 : True := trivial
theorem lawHolds.tw4990206482714517268 : True := trivial
theorem lawHolds.tw5073330196632168973 : True := trivial
theorem lawHolds.tw5270458295528116250 : True := trivial
theorem lawHolds.tw5487857764558782471 : True := trivial
theorem lawHolds.tw5672430924931103804 : True := trivial
theorem lawHolds.tw5749261128147222699 : True := trivial
theorem lawHolds.tw5983006456753942950 : True := trivial
theorem lawHolds.tw6224460402322421677 : True := trivial
theorem lawHolds.tw6354298409873182916 : True := trivial
theorem lawHolds.tw6371458011197175776 : True := trivial
theorem lawHolds.tw6435395667388533127 : True := trivial
theorem lawHolds.tw6550155964400169147 : True := trivial
theorem lawHolds.tw6574144700263007644 : True := trivial
theorem lawHolds.tw6611446158533578604 : True := trivial
theorem lawHolds.tw671900897868030567 : True := trivial
theorem lawHolds.tw6742055492665967318 : True := trivial
theorem lawHolds.tw677971970060191763 : True := trivial
theorem lawHolds.tw6874388646040631030 : True := trivial
theorem lawHolds.tw6901560120282677705 : True := trivial
theorem lawHolds.tw7178194429271852279 : True := trivial
theorem lawHolds.tw7342614293262187551 : True := trivial
theorem lawHolds.tw7365803931002465801 : True := trivial
theorem lawHolds.tw7477946039861393748 : True := trivial
theorem lawHolds.tw7504605358836174681 : True := trivial
theorem lawHolds.tw7515531718367324182 : True := trivial
theorem lawHolds.tw7551872747549563295 : True := trivial
theorem lawHolds.tw7551996822681911556 : True := trivial
theorem lawHolds.tw7574337277831771794 : True := trivial
theorem lawHolds.tw7580800615363631950 : True := trivial
theorem lawHolds.tw7781333966895883482 : True := trivial
theorem lawHolds.tw7836042143961367026 : True := trivial
theorem lawHolds.tw7841063685184887067 : True := trivial
theorem lawHolds.tw7860301052020535449 : True := trivial
theorem lawHolds.tw7868193200324323248 : True := trivial
theorem lawHolds.tw8017020109530802861 : True := trivial
theorem lawHolds.tw8098287573327822807 : True := trivial
theorem lawHolds.tw8281752824301238788 : True := trivial
theorem lawHolds.tw8326100677213738134 : True := trivial
theorem lawHolds.tw8366731222481302009 : True := trivial
theorem lawHolds.tw8370488850108154251 : True := trivial
theorem lawHolds.tw8435917221148597185 : True := trivial
theorem lawHolds.tw8567030764807316017 : True := trivial
theorem lawHolds.tw8623261926459847089 : True := trivial
theorem lawHolds.tw8881374375688362424 : True := trivial
theorem lawHolds.tw8902828980907306716 : True := trivial
theorem lawHolds.tw9102431561704079865 : True := trivial
theorem lawHolds.tw9105579546786364489 : True := trivial
theorem lawHolds.tw9187338088182355911 : True := trivial
theorem lawHolds.tw9420109605173819167 : True := trivial
theorem lawHolds.tw9615580499149392833 : True := trivial
theorem lawHolds.tw9615891678547603228 : True := trivial
theorem lawHolds.tw9638183707168078145 : True := trivial
theorem lawHolds.tw9661198732295610740 : True := trivial
theorem lawHolds.tw9663903463812540394 : True := trivial
theorem lawHolds.tw9735267165721938456 : True := trivial
theorem lawHolds.tw9859250757214667984 : True := trivial
theorem lawHolds.tw9945708137217017771 : True := trivial
set_option Elab.async true in
set_option maxHeartbeats 8000000 in
theorem lawHolds : PySem.Challenge.rw_tl0064_01.Holds := by
  w_on
  o_law
  k_head
  case hw => w_witness2
  k_fill
  intro w s₀ s₁ mg mb G Y fa o pm cd doc dV kV ho hd hcd hD hmg hg args vals as hpre hlay hrd hwl hlo
  have X := km_in_of Y
  have T := G.T
  have tabs := km_tabs_of Y
  clear ho hd hcd hD Y G
  wrow_args hpre hlay hrd hwl hlo
  rename_i ns hs hlay0 hL1 hr1 hl2 a4 a3 l vs a0 hL ra w1 r0 hI hr hc ht
  clear hs hlay0 hL1 hr1 hl2 ra w1 r0 hr ht
  refine wpAny_mono (law_of (prog := PySem.Challenge.rw_tl0064_01.row.prog) X {
    n52 := rfl
    n59 := rfl
    bm := rfl
    g_rgb_to_hsv := rfl
    f_rgb_to_hsv := ⟨_, _, _, _, _, _, rfl, rfl, rfl, rfl, rfl⟩
    g_div2n1n := rfl
    f_div2n1n := ⟨_, _, _, _, _, _, rfl, rfl, rfl, rfl, rfl⟩
    g_div3n2n := rfl
    f_div3n2n := ⟨_, _, _, _, _, _, rfl, rfl, rfl, rfl, rfl⟩
    g_int2digits := rfl
    f_int2digits := ⟨_, _, _, _, _, _, rfl, rfl, rfl, rfl, rfl, rfl⟩
    g_digits2int := rfl
    f_digits2int := ⟨_, _, _, _, _, _, rfl, rfl, rfl, rfl, rfl, rfl⟩
    g_divmod_pos := rfl
    f_divmod_pos := ⟨_, _, _, _, _, _, rfl, rfl, rfl, rfl, rfl⟩
    g_int_divmod := rfl
    f_int_divmod := ⟨_, _, _, _, _, _, rfl, rfl, rfl, rfl, rfl⟩
    g_ISEOF := rfl
    f_ISEOF := ⟨_, _, _, _, _, _, rfl, rfl, rfl, rfl, rfl⟩
    g_law_cells := rfl
    f_law_cells := ⟨_, _, _, _, _, _, rfl, rfl, rfl, rfl, rfl⟩
    g_law_word := rfl
    f_law_word := ⟨_, _, _, _, _, _, rfl, rfl, rfl, rfl, rfl⟩
    g_law_map := rfl
    f_law_map := ⟨_, _, _, _, _, _, rfl, rfl, rfl, rfl, rfl⟩
    g_law_counts := rfl
    f_law_counts := ⟨_, _, _, _, _, _, rfl, rfl, rfl, rfl, rfl⟩
    g_law_lead := rfl
    f_law_lead := ⟨_, _, _, _, _, _, rfl, rfl, rfl, rfl, rfl⟩
    g_law_told := rfl
    f_law_told := ⟨_, _, _, _, _, _, rfl, rfl, rfl, rfl, rfl⟩
    g_law_seen := rfl
    f_law_seen := ⟨_, _, _, _, _, _, rfl, rfl, rfl, rfl, rfl⟩
    g_law_paintings := rfl
    f_law_paintings := ⟨_, _, _, _, _, _, rfl, rfl, rfl, rfl, rfl⟩
    g_law_places := rfl
    f_law_places := ⟨_, _, _, _, _, _, rfl, rfl, rfl, rfl, rfl⟩
    g_law_fields := rfl
    f_law_fields := ⟨_, _, _, _, _, _, rfl, rfl, rfl, rfl, rfl⟩
    g_law := rfl
    f_law := ⟨_, _, _, _, _, _, rfl, rfl, rfl, rfl, rfl⟩
    g_compute_powers := rfl
    f_compute_powers := ⟨_, _, _, _, _, _, rfl, rfl, rfl, rfl, rfl⟩
    o_compute_powers := rfl
    g_DIV_LIMIT := ⟨_, rfl⟩
    g_ENDMARKER := ⟨_, rfl⟩
    n_max := rfl
    n_min := rfl
    n_len := rfl
    n_range := rfl
    n_enumerate := rfl
    n_reversed := rfl
    n_divmod := rfl
    n_int := rfl
    n_sum := rfl
    n_set := rfl
    n_iter := rfl
    n_sorted := rfl
    n_next := rfl
    n_tuple := rfl
    g_White := rfl
    makes := rfl
    hga := rfl
    hgt := rfl
    hsa := rfl
    plain := rfl
    hasd := rfl
    w_init := rfl
    t_init := rfl
    w_ind := rfl
    t_ind := rfl
    rd := rfl
    c_S := ⟨_, rfl⟩
    c_T := ⟨_, rfl⟩
    a_raw := rfl
    a_n := rfl
    a_nt := rfl
    a_norm := rfl
    a_is_simple := rfl
    f_init := ⟨_, _, _, _, _, _, rfl, rfl, rfl, rfl, rfl⟩
    f_ind := ⟨_, _, _, _, _, _, rfl, rfl, rfl, rfl, rfl⟩
    g_tok := rfl
    o_tok := ⟨_, _, rfl, ⟨rfl, rfl, rfl⟩, rfl⟩
    e_tok := rfl
    t_40 := ⟨_, rfl⟩
    t_91 := ⟨_, rfl⟩
    t_41 := ⟨_, rfl⟩
    t_93 := ⟨_, rfl⟩ } T tabs hmg hL hI (by (first | lia | omega))) (fun v s' q => ?_) (fun _ _ q => q.elim)
  obtain ⟨rfl, q1, q2, q3⟩ := q
  refine ⟨.inl ⟨.bool true, .bool true, [], rfl, fun cls => ?_, .bool true, ?_, fun _ => ⟨List.nodup_nil, fun a h => by cases h⟩⟩, q1, q2, .of_eq (q3.trans hg)⟩
  · first | rfl | (cases cls <;> rfl)
  · first | rfl | kernel_rfl | w_fin
end Mine

theorem PySem.Challenge.cw_tl0064_01_holds : PySem.Challenge.rw_tl0064_01.Holds := by
  exact Mine.lawHolds
