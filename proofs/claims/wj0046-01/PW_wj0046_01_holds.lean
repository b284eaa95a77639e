import PyProof.Rows.All
import Wide.All
import OpenK.AllK
import Wide.FinOn
import PySem.Challenge.RW_wj0046_01
set_option Elab.async false
set_option autoImplicit false
set_option linter.unusedVariables false
set_option linter.unusedSimpArgs false
open PySem PySem.W PyProof.Rows
namespace Mine
open PySem PySem.W PyProof.Rows

set_option maxRecDepth 100000 in
set_option maxHeartbeats 8000000 in
open_top hd for PySem.Challenge.rw_wj0046_01

open PySem PySem.W PyProof.Rows PySem.Spec PySem.Calls

inductive PV where
  | none
  | bool (b : Bool)
  | int (i : Int)
  | str (s : Str)
  | lst (a : Addr)
  | tup (vs : List PV)
  | rng (a b c : Int)
  | fn (fd : FuncData)
  | raw (v : Value)

noncomputable abbrev tupObj (vs : Array Value) : Obj := { cls := .type "tuple", data := .seq vs }
noncomputable abbrev rngObj (a b c : Int) (t u v : Tok) : Obj := { cls := .type "range", data := .fields #[.int a t, .int b u, .int c v] }
noncomputable abbrev fnObj (fd : FuncData) : Obj := { cls := .type "function", data := .func fd }
noncomputable def Imm (o : Obj) : Prop := (∃ vs, o = tupObj vs) ∨ (∃ a b c t u v, o = rngObj a b c t u v) ∨ (∃ fd, o = fnObj fd) ∨ (o.cls = .type "code" ∧ ∃ vs, o.data = .fields vs)
theorem Imm.tup {vs : Array Value} : Imm (tupObj vs) := .inl ⟨vs, rfl⟩
theorem Imm.rng {a b c : Int} {t u v : Tok} : Imm (rngObj a b c t u v) := .inr (.inl ⟨a, b, c, t, u, v, rfl⟩)
theorem Imm.fn {fd : FuncData} : Imm (fnObj fd) := .inr (.inr (.inl ⟨fd, rfl⟩))
theorem Imm.code {o : Obj} {vs : Array Value} (h : o.cls = .type "code") (d : o.data = .fields vs) : Imm o := .inr (.inr (.inr ⟨h, vs, d⟩))

inductive Rel (h : Heap) : PV → Value → Prop
  | none : Rel h .none .none
  | bool (b : Bool) : Rel h (.bool b) (.bool b)
  | int (i : Int) (t : Tok) : Rel h (.int i) (.int i t)
  | str (s : Str) (t : Tok) : Rel h (.str s) (.str s t)
  | lst (a : Addr) : Rel h (.lst a) (.ref a)
  | raw (v : Value) : Rel h (.raw v) v
  | fn {r : Addr} {fd : FuncData} {c : Addr} {o : Obj} {vs : Array Value} {t : Tok} (hr : h.get? r = some (fnObj fd)) (hcd : fd.code = .ref c) (hc : h.get? c = some o) (hcls : o.cls = .type "code") (hda : o.data = .fields vs)
      (hq : vs[1]? = some (.str fd.qualname t)) : Rel h (.fn fd) (.ref r)
  | rng {r : Addr} {a b c : Int} {t u v : Tok} (hr : h.get? r = some (rngObj a b c t u v)) : Rel h (.rng a b c) (.ref r)
  | tup {a : Addr} {xs : List PV} {vs : List Value} (ha : h.get? a = some { cls := .type "tuple", data := .seq vs.toArray })
      (hl : xs.length = vs.length) (hv : ∀ (i : Nat) (x : PV) (v : Value), xs[i]? = some x → vs[i]? = some v → Rel h x v) : Rel h (.tup xs) (.ref a)

noncomputable def Rel.D (h : Heap) : PV → Value → Prop
  | .none, v => v = .none
  | .bool b, v => v = .bool b
  | .int i, v => ∃ t : Tok, v = .int i t
  | .str x, v => ∃ t : Tok, v = .str x t
  | .lst a, v => v = .ref a
  | .raw u, v => u = v
  | .fn fd, v => ∃ (r : Addr) (c : Addr) (o : Obj) (vs : Array Value) (t : Tok), v = .ref r ∧ h.get? r = some (fnObj fd) ∧ fd.code = .ref c ∧ h.get? c = some o ∧ o.cls = .type "code" ∧ o.data = .fields vs ∧ vs[1]? = some (.str fd.qualname t)
  | .rng a b c, v => ∃ (r : Addr) (t u w : Tok), v = .ref r ∧ h.get? r = some (rngObj a b c t u w)
  | .tup xs, v => ∃ (a : Addr) (vs : List Value), v = .ref a ∧ h.get? a = some { cls := .type "tuple", data := .seq vs.toArray } ∧ xs.length = vs.length ∧ ∀ (i : Nat) (x : PV) (v : Value), xs[i]? = some x → vs[i]? = some v → Rel h x v
theorem Rel.d {h : Heap} {p : PV} {v : Value} (r : Rel h p v) : Rel.D h p v := by
  cases r with
  | none => exact rfl
  | bool b => exact rfl
  | int i t => exact ⟨t, rfl⟩
  | str s t => exact ⟨t, rfl⟩
  | lst a => exact rfl
  | raw v => exact rfl
  | fn hr hcd hc hcls hda hq => exact ⟨_, _, _, _, _, rfl, hr, hcd, hc, hcls, hda, hq⟩
  | rng hr => exact ⟨_, _, _, _, rfl, hr⟩
  | tup ha hl hv => exact ⟨_, _, rfl, ha, hl, hv⟩
theorem Rel.int_inv {h : Heap} {i : Int} {v : Value} (r : Rel h (.int i) v) : ∃ t : Tok, v = .int i t := r.d
theorem Rel.str_inv {h : Heap} {x : Str} {v : Value} (r : Rel h (.str x) v) : ∃ t : Tok, v = .str x t := r.d
theorem Rel.lst_inv {h : Heap} {a : Addr} {v : Value} (r : Rel h (.lst a) v) : v = .ref a := r.d
theorem Rel.bool_inv {h : Heap} {b : Bool} {v : Value} (r : Rel h (.bool b) v) : v = .bool b := r.d
theorem Rel.none_inv {h : Heap} {v : Value} (r : Rel h .none v) : v = .none := r.d
theorem Rel.raw_inv {h : Heap} {u v : Value} (r : Rel h (.raw u) v) : u = v := r.d
theorem Rel.tup_inv {h : Heap} {xs : List PV} {v : Value} (r : Rel h (.tup xs) v) : ∃ (a : Addr) (vs : List Value), v = .ref a ∧ h.get? a = some { cls := .type "tuple", data := .seq vs.toArray } ∧ xs.length = vs.length ∧ ∀ (i : Nat) (x : PV) (v : Value), xs[i]? = some x → vs[i]? = some v → Rel h x v := r.d
theorem Rel.rng_inv {h : Heap} {a b c : Int} {v : Value} (r : Rel h (.rng a b c) v) : ∃ (r : Addr) (t u w : Tok), v = .ref r ∧ h.get? r = some (rngObj a b c t u w) := r.d
theorem Rel.fn_inv {h : Heap} {fd : FuncData} {v : Value} (r : Rel h (.fn fd) v) : ∃ (r : Addr) (c : Addr) (o : Obj) (vs : Array Value) (t : Tok), v = .ref r ∧ h.get? r = some (fnObj fd) ∧ fd.code = .ref c ∧ h.get? c = some o ∧ o.cls = .type "code" ∧ o.data = .fields vs ∧ vs[1]? = some (.str fd.qualname t) := r.d
theorem ins_len {α : Type} (xs : List α) (x : α) (i : Nat) : (xs.take i ++ [x] ++ xs.drop i).length = xs.length + 1 := by
  rw [List.length_append, List.length_append, Nat.add_right_comm, ← List.length_append, List.take_append_drop]; rfl

noncomputable def RelL (h : Heap) (xs : List PV) (vs : List Value) : Prop :=
  xs.length = vs.length ∧ ∀ (i : Nat) (x : PV) (v : Value), xs[i]? = some x → vs[i]? = some v → Rel h x v

theorem Rel.mono {h h' : Heap} (hk : ∀ a o, Imm o → h.get? a = some o → h'.get? a = some o) {p : PV} {v : Value} (r : Rel h p v) : Rel h' p v := by
  induction r with
  | none => exact .none
  | bool b => exact .bool b
  | int i t => exact .int i t
  | str s t => exact .str s t
  | lst a => exact .lst a
  | raw v => exact .raw v
  | fn hr hcd hc hcls hda hq => exact .fn (hk _ _ .fn hr) hcd (hk _ _ (.code hcls hda) hc) hcls hda hq
  | rng hr => exact .rng (hk _ _ .rng hr)
  | tup ha hl _ ih => exact .tup (hk _ _ .tup ha) hl ih

theorem RelL.mono {h h' : Heap} (hk : ∀ a o, Imm o → h.get? a = some o → h'.get? a = some o) {xs : List PV} {vs : List Value} (r : RelL h xs vs) : RelL h' xs vs :=
  ⟨r.1, fun i x v hx hv => (r.2 i x v hx hv).mono hk⟩
theorem RelL.nil {h : Heap} : RelL h [] [] := ⟨rfl, fun i x v hx _ => by simp at hx⟩
theorem RelL.cons {h : Heap} {x : PV} {v : Value} {xs : List PV} {vs : List Value} (r : Rel h x v) (rs : RelL h xs vs) : RelL h (x :: xs) (v :: vs) := by
  refine ⟨by simp [rs.1], fun i y u hy hu => ?_⟩
  cases i with
  | zero => simp at hy hu; subst hy; subst hu; exact r
  | succ i => simp at hy hu; exact rs.2 i y u hy hu
theorem RelL.head {h : Heap} {x : PV} {v : Value} {xs : List PV} {vs : List Value} (r : RelL h (x :: xs) (v :: vs)) : Rel h x v := r.2 0 x v rfl rfl
theorem RelL.tail {h : Heap} {x : PV} {v : Value} {xs : List PV} {vs : List Value} (r : RelL h (x :: xs) (v :: vs)) : RelL h xs vs :=
  ⟨by have := r.1; simp at this; exact this, fun i y u hy hu => r.2 (i + 1) y u (by simpa using hy) (by simpa using hu)⟩
theorem RelL.inv_nil {h : Heap} {vs : List Value} (r : RelL h [] vs) : vs = [] := by
  have := r.1; cases vs with
  | nil => rfl
  | cons _ _ => simp at this
theorem RelL.inv_cons {h : Heap} {x : PV} {xs : List PV} {vs : List Value} (r : RelL h (x :: xs) vs) : ∃ v vs', vs = v :: vs' ∧ Rel h x v ∧ RelL h xs vs' := by
  cases vs with
  | nil => have := r.1; simp at this
  | cons v vs => exact ⟨v, vs, rfl, r.head, r.tail⟩
theorem RelL.get {h : Heap} {xs : List PV} {vs : List Value} (r : RelL h xs vs) {i : Nat} {x : PV} (hx : xs[i]? = some x) : ∃ v, vs[i]? = some v ∧ Rel h x v := by
  have hi : i < xs.length := (List.getElem?_eq_some_iff.mp hx).1
  have hi' : i < vs.length := r.1 ▸ hi
  exact ⟨vs[i], List.getElem?_eq_getElem hi', r.2 i x _ hx (List.getElem?_eq_getElem hi')⟩
theorem RelL.append {h : Heap} {xs ys : List PV} {vs us : List Value} (r : RelL h xs vs) (q : RelL h ys us) : RelL h (xs ++ ys) (vs ++ us) := by
  induction xs generalizing vs with
  | nil => rw [r.inv_nil]; exact q
  | cons x xs ih => obtain ⟨v, vs', rfl, r1, r2⟩ := r.inv_cons; exact RelL.cons r1 (ih r2)
theorem RelL.take {h : Heap} {xs : List PV} {vs : List Value} (r : RelL h xs vs) (n : Nat) : RelL h (xs.take n) (vs.take n) := by
  refine ⟨by simp [r.1], fun i x v hx hv => ?_⟩
  rw [List.getElem?_take] at hx hv
  split at hx
  · rename_i hi
    rw [if_pos hi] at hv
    exact r.2 i x v hx hv
  · cases hx
theorem RelL.drop {h : Heap} {xs : List PV} {vs : List Value} (r : RelL h xs vs) (n : Nat) : RelL h (xs.drop n) (vs.drop n) := by
  refine ⟨by simp [r.1], fun i x v hx hv => ?_⟩
  rw [List.getElem?_drop] at hx hv
  exact r.2 _ x v hx hv
theorem RelL.reverse {h : Heap} {xs : List PV} {vs : List Value} (r : RelL h xs vs) : RelL h xs.reverse vs.reverse := by
  induction xs generalizing vs with
  | nil => rw [r.inv_nil]; exact .nil
  | cons x xs ih =>
    obtain ⟨v, vs', rfl, r1, r2⟩ := r.inv_cons
    rw [List.reverse_cons, List.reverse_cons]
    exact (ih r2).append (.cons r1 .nil)

noncomputable def Prot (o : Obj) : Prop := (o.cls = .none ∨ o.cls = .type "code") ∧ ∃ vs, o.data = .fields vs

noncomputable def Tab (o : Obj) : Prop := o.cls = .none ∧ ∃ vs, o.data = .fields vs
theorem Tab.prot {o : Obj} (h : Tab o) : Prot o := ⟨.inl h.1, h.2⟩

noncomputable abbrev Store := Addr → Option (List PV)

structure Cx where
  prog : Program
  w : World
  B : Heap
  ex : List Addr
  TI : Heap → Prop
  TI_mono : ∀ h h', (∀ b o, Prot o → h.get? b = some o → h'.get? b = some o) → TI h → TI h'
  ex_prot : ∀ h a, a ∈ ex → TI h → ∃ o, h.get? a = some o ∧ Tab o
  mg : Str → Option Value
  mb : Str → Option Value
  Gns : B.Ns mainGlobals mg
  Bns : B.Ns builtinsNs mb
  exg : mainGlobals ∉ ex
  exb : builtinsNs ∉ ex
  exc : cStatics ∉ ex
  nolimit : B.NoLimit

structure Match (X : Cx) (σ : Store) (s : Shared) : Prop where
  base : ∀ b o, X.B.get? b = some o → b ∉ X.ex → s.heap.get? b = some o
  lists : ∀ a xs, σ a = some xs → ∃ vs : List Value, s.heap.PlainList a vs.toArray ∧ RelL s.heap xs vs
  newl : ∀ a, σ a ≠ none → X.B.get? a = none
  gens : AllBare s.gens
  ti : X.TI s.heap

structure Tr (X : Cx) (wr : List Addr) (gw : List Nat) (σ : Store) (s : Shared) (σ' : Store) (s' : Shared) : Prop where
  alive : ∀ b, b ∉ wr → s.heap.get? b ≠ none → s'.heap.get? b ≠ none
  keep : ∀ b o, b ∉ wr → b ∉ X.ex → σ b = none → s.heap.get? b = some o → s'.heap.get? b = some o
  gens : ∀ (i : Nat) st, i ∉ gw → s.gens[i]? = some st → s'.gens[i]? = some st
  gsize : s.gens.size ≤ s'.gens.size
  os : s'.os = s.os
  fresh : ∀ b, b ∉ wr → σ b = none → s.heap.get? b ≠ none → σ' b = none
  dom : ∀ b, σ b ≠ none → σ' b ≠ none

theorem ne_of_some {α : Type} {o : Option α} {x : α} (e : o = some x) : o ≠ none := fun q => by rw [e] at q; cases q

theorem Tr.refl {X : Cx} {wr : List Addr} {gw : List Nat} {σ : Store} {s : Shared} : Tr X wr gw σ s σ s :=
  ⟨fun _ _ h => h, fun _ _ _ _ _ e => e, fun _ _ _ e => e, Nat.le_refl _, rfl, fun _ _ h _ => h, fun _ h => h⟩
theorem Tr.toks {X : Cx} {wr : List Addr} {gw : List Nat} {σ : Store} {s : Shared} {t : Nat} : Tr X wr gw σ s σ { s with toks := t } :=
  ⟨fun _ _ h => h, fun _ _ _ _ _ e => e, fun _ _ _ e => e, Nat.le_refl _, rfl, fun _ _ h _ => h, fun _ h => h⟩

theorem Tr.trans {X : Cx} {wr : List Addr} {gw : List Nat} {σ σ₁ σ₂ : Store} {s s₁ s₂ : Shared} (t : Tr X wr gw σ s σ₁ s₁) (u : Tr X wr gw σ₁ s₁ σ₂ s₂) : Tr X wr gw σ s σ₂ s₂ where
  alive := fun b hw h => u.alive b hw (t.alive b hw h)
  keep := fun b o hw hx hn e => u.keep b o hw hx (t.fresh b hw hn (ne_of_some e)) (t.keep b o hw hx hn e)
  gens := fun i st hi e => u.gens i st hi (t.gens i st hi e)
  gsize := Nat.le_trans t.gsize u.gsize
  os := u.os.trans t.os
  fresh := fun b hw hn hb => u.fresh b hw (t.fresh b hw hn hb) (t.alive b hw hb)
  dom := fun b hn => u.dom b (t.dom b hn)

theorem Tr.mono {X : Cx} {wr wr' : List Addr} {gw gw' : List Nat} {σ σ' : Store} {s s' : Shared} (t : Tr X wr gw σ s σ' s') (hw : ∀ b ∈ wr, b ∈ wr') (hg : ∀ b ∈ gw, b ∈ gw') : Tr X wr' gw' σ s σ' s' :=
  ⟨fun b h => t.alive b fun q => h (hw b q), fun b o h => t.keep b o fun q => h (hw b q), fun i st h => t.gens i st fun q => h (hg i q), t.gsize, t.os, fun b h => t.fresh b fun q => h (hw b q), t.dom⟩
theorem Tr.up {X : Cx} {wr : List Addr} {gw : List Nat} {σ σ' : Store} {s s' : Shared} (t : Tr X [] [] σ s σ' s') : Tr X wr gw σ s σ' s' := t.mono (by simp) (by simp)

theorem Tr.since {X : Cx} {wr wr' : List Addr} {gw gw' : List Nat} {σ σ₁ σ₂ : Store} {s s₁ s₂ : Shared} (t : Tr X wr gw σ s σ₁ s₁) (u : Tr X wr' gw' σ₁ s₁ σ₂ s₂)
    (hw : ∀ b ∈ wr', b ∈ wr ∨ s.heap.get? b = none) (hg : ∀ i ∈ gw', i ∈ gw ∨ s.gens.size ≤ i) : Tr X wr gw σ s σ₂ s₂ where
  alive := fun b h ha => u.alive b (fun q => (hw b q).elim h fun q => ha q) (t.alive b h ha)
  keep := fun b o h hx hn e => u.keep b o (fun q => (hw b q).elim h fun q => by rw [e] at q; cases q) hx (t.fresh b h hn (ne_of_some e)) (t.keep b o h hx hn e)
  gens := fun i st hi e => u.gens i st (fun q => (hg i q).elim hi fun q => Nat.lt_irrefl _ (Nat.lt_of_lt_of_le ((Array.getElem?_eq_some_iff.mp e).1) q)) (t.gens i st hi e)
  gsize := Nat.le_trans t.gsize u.gsize
  os := u.os.trans t.os
  fresh := fun b h hn ha => u.fresh b (fun q => (hw b q).elim h fun q => ha q) (t.fresh b h hn ha) (t.alive b h ha)
  dom := fun b hn => u.dom b (t.dom b hn)

section
variable {X : Cx} {σ σ' : Store} {s s' : Shared} {wr : List Addr} {gw : List Nat}

theorem Match.ex_prot (M : Match X σ s) {a : Addr} (h : a ∈ X.ex) : ∃ o, s.heap.get? a = some o ∧ Tab o := X.ex_prot _ _ h M.ti
theorem Match.not_ex (M : Match X σ s) {a : Addr} {o : Obj} (e : s.heap.get? a = some o) (hp : ¬ Prot o) : a ∉ X.ex := fun h => by
  obtain ⟨o', e', p⟩ := M.ex_prot h
  rw [e] at e'; cases e'; exact hp p.prot
theorem not_tab_imm {o : Obj} (i : Imm o) : ¬ Tab o := fun p => by
  rcases i with ⟨vs, rfl⟩ | ⟨a, b, c, t, u, v, rfl⟩ | ⟨fd, rfl⟩ | ⟨h, _⟩
  · exact absurd p.1 (by simp)
  · exact absurd p.1 (by simp)
  · exact absurd p.1 (by simp)
  · rw [p.1] at h; cases h
theorem Match.not_ex_imm (M : Match X σ s) {a : Addr} {o : Obj} (e : s.heap.get? a = some o) (i : Imm o) : a ∉ X.ex := fun h => by
  obtain ⟨o', e', p⟩ := M.ex_prot h
  rw [e] at e'; cases e'; exact not_tab_imm i p
theorem Match.not_list (M : Match X σ s) {a : Addr} {o : Obj} (e : s.heap.get? a = some o) (hc : o.cls ≠ .type "list") : σ a = none := by
  cases h : σ a with
  | none => rfl
  | some xs => obtain ⟨vs, ⟨n, e'⟩, _⟩ := M.lists a xs h; rw [e] at e'; cases e'; exact absurd rfl hc
theorem Match.not_list_of_data (M : Match X σ s) {a : Addr} {o : Obj} (e : s.heap.get? a = some o) (hc : ∀ vs n, o.data ≠ .seq vs n) : σ a = none := by
  cases h : σ a with
  | none => rfl
  | some xs => obtain ⟨vs, ⟨n, e'⟩, _⟩ := M.lists a xs h; rw [e] at e'; cases e'; exact absurd rfl (hc _ _)

theorem imm_cls {o : Obj} (i : Imm o) : o.cls ≠ .type "list" := by
  rcases i with ⟨vs, rfl⟩ | ⟨a, b, c, t, u, v, rfl⟩ | ⟨fd, rfl⟩ | ⟨h, _⟩
  · simp
  · simp
  · simp
  · rw [h]; simp
theorem imm_data {o : Obj} (i : Imm o) (h : (∃ es n, o.data = .dict es n) ∨ ∃ v, o.data = .cell v) : False := by
  rcases i with ⟨vs, rfl⟩ | ⟨a, b, c, t, u, v, rfl⟩ | ⟨fd, rfl⟩ | ⟨_, vs, hd⟩
  · rcases h with ⟨es, n, q⟩ | ⟨v, q⟩ <;> cases q
  · rcases h with ⟨es, n, q⟩ | ⟨v, q⟩ <;> cases q
  · rcases h with ⟨es, n, q⟩ | ⟨v, q⟩ <;> cases q
  · rcases h with ⟨es, n, q⟩ | ⟨v, q⟩ <;> rw [hd] at q <;> cases q
theorem not_prot_dict {o : Obj} {es : Array DictEntry} {n : Nat} (h : o.data = .dict es n) : ¬ Prot o := fun p => by obtain ⟨vs, q⟩ := p.2; rw [h] at q; cases q
theorem not_prot_cell {o : Obj} {v : Option Value} (h : o.data = .cell v) : ¬ Prot o := fun p => by obtain ⟨vs, q⟩ := p.2; rw [h] at q; cases q
theorem not_prot_seq {o : Obj} {vs : Array Value} {n : Nat} (h : o.data = .seq vs n) : ¬ Prot o := fun p => by obtain ⟨vs, q⟩ := p.2; rw [h] at q; cases q

theorem Match.step (M : Match X σ s) (hk : ∀ b o, b ∉ wr → σ b = none → s.heap.get? b = some o → s'.heap.get? b = some o)
    (hwr : ∀ b ∈ wr, (∀ o, s.heap.get? b = some o → ¬ Prot o) ∧ X.B.get? b = none)
    (hl : ∀ a xs, σ' a = some xs → ∃ vs : List Value, s'.heap.PlainList a vs.toArray ∧ RelL s'.heap xs vs)
    (hn : ∀ a, σ' a ≠ none → X.B.get? a = none) (hg : AllBare s'.gens) : Match X σ' s' where
  base := fun b o e hx => by
    refine hk b o (fun q => ?_) ?_ (M.base b o e hx)
    · have := (hwr b q).2; rw [e] at this; cases this
    · cases h : σ b with
      | none => rfl
      | some xs => have := M.newl b (by rw [h]; exact fun q => by cases q); rw [e] at this; cases this
  lists := hl
  newl := hn
  gens := hg
  ti := X.TI_mono _ _ (fun b o p e => by
    refine hk b o (fun q => (hwr b q).1 o e p) ?_ e
    cases h : σ b with
    | none => rfl
    | some xs => obtain ⟨vs, ⟨n, e'⟩, _⟩ := M.lists b xs h; rw [e] at e'; cases e'; exact absurd p (not_prot_seq rfl)) M.ti

theorem Rel.tr {p : PV} {v : Value} (M : Match X σ s) (t : Tr X wr gw σ s σ' s') (hw : ∀ b ∈ wr, ∀ o, Imm o → s.heap.get? b ≠ some o) (r : Rel s.heap p v) : Rel s'.heap p v :=
  r.mono fun a o i e => t.keep a _ (fun q => hw a q o i e) (M.not_ex_imm e i) (M.not_list e (imm_cls i)) e
theorem Rel.tr0 {p : PV} {v : Value} (M : Match X σ s) (t : Tr X [] gw σ s σ' s') (r : Rel s.heap p v) : Rel s'.heap p v := r.tr M t (by simp)
theorem RelL.tr {xs : List PV} {vs : List Value} (M : Match X σ s) (t : Tr X wr gw σ s σ' s') (hw : ∀ b ∈ wr, ∀ o, Imm o → s.heap.get? b ≠ some o) (r : RelL s.heap xs vs) : RelL s'.heap xs vs :=
  ⟨r.1, fun i x v hx hv => (r.2 i x v hx hv).tr M t hw⟩
theorem RelL.tr0 {xs : List PV} {vs : List Value} (M : Match X σ s) (t : Tr X [] gw σ s σ' s') (r : RelL s.heap xs vs) : RelL s'.heap xs vs := r.tr M t (by simp)

theorem Match.baseNs {a : Addr} {m : Str → Option Value} (M : Match X σ s) (hn : X.B.Ns a m) (hx : a ∉ X.ex) : s.heap.Ns a m :=
  let ⟨o, es, ep, e, r⟩ := hn; ⟨o, es, ep, M.base _ _ e hx, r⟩
theorem Match.nolimit (M : Match X σ s) : s.heap.NoLimit := let ⟨mc, a, b⟩ := X.nolimit; ⟨mc, M.baseNs a X.exc, b⟩
end

inductive Look : List Str → List (Option PV) → Str → PV → Prop
  | here {x : Str} {ns : List Str} {p : PV} {ρ : List (Option PV)} : Look (x :: ns) (some p :: ρ) x p
  | there {x y : Str} {ns : List Str} {o : Option PV} {p : PV} {ρ : List (Option PV)} (h : Look ns ρ x p) : Look (y :: ns) (o :: ρ) x p
inductive Put : List Str → List (Option PV) → Str → PV → List (Option PV) → Prop
  | here {x : Str} {ns : List Str} {o : Option PV} {p : PV} {ρ : List (Option PV)} : Put (x :: ns) (o :: ρ) x p (some p :: ρ)
  | there {x y : Str} {ns : List Str} {o : Option PV} {p : PV} {ρ ρ' : List (Option PV)} (h : Put ns ρ x p ρ') : Put (y :: ns) (o :: ρ) x p (o :: ρ')

theorem Look.mem {ns : List Str} {ρ : List (Option PV)} {x : Str} {p : PV} (h : Look ns ρ x p) : x ∈ ns := by
  induction h with
  | here => simp
  | there _ ih => simp [ih]
theorem Put.mem {ns : List Str} {ρ ρ' : List (Option PV)} {x : Str} {p : PV} (h : Put ns ρ x p ρ') : x ∈ ns := by
  induction h with
  | here => simp
  | there _ ih => simp [ih]
theorem Put.look {ns : List Str} {ρ ρ' : List (Option PV)} {x : Str} {p : PV} (h : Put ns ρ x p ρ') (nd : ns.Nodup) {y : Str} {q : PV} (l : Look ns ρ' y q) : (y = x ∧ q = p) ∨ (y ≠ x ∧ Look ns ρ y q) := by
  induction h generalizing y q with
  | here =>
    cases l with
    | here => exact .inl ⟨rfl, rfl⟩
    | there l =>
      refine .inr ⟨fun e => ?_, .there l⟩
      subst e; exact (List.nodup_cons.mp nd).1 l.mem
  | there h ih =>
    cases l with
    | here =>
      refine .inr ⟨fun e => ?_, .here⟩
      subst e; exact (List.nodup_cons.mp nd).1 h.mem
    | there l =>
      rcases ih (List.nodup_cons.mp nd).2 l with q | ⟨q, l'⟩
      · exact .inl q
      · exact .inr ⟨q, .there l'⟩

inductive Weak : List (Option PV) → List (Option PV) → Prop
  | nil : Weak [] []
  | same {o : Option PV} {ρ ρ' : List (Option PV)} (h : Weak ρ ρ') : Weak (o :: ρ) (o :: ρ')
  | drop {o : Option PV} {ρ ρ' : List (Option PV)} (h : Weak ρ ρ') : Weak (none :: ρ) (o :: ρ')
theorem Weak.look {ρ ρ' : List (Option PV)} (w : Weak ρ ρ') : ∀ {ns : List Str} {x : Str} {p : PV}, Look ns ρ x p → Look ns ρ' x p := by
  induction w with
  | nil => exact fun h => h
  | same w ih =>
    intro ns x p h
    cases h with
    | here => exact .here
    | there h => exact .there (ih h)
  | drop w ih =>
    intro ns x p h
    cases h with
    | there h => exact .there (ih h)
structure EnvS (ns gs : List Str) (env : Env) : Prop where
  kind : env.scope.kind = .function
  nd : ns.Nodup
  own : ∀ x ∈ ns, env.kindOf x = some .local ∨ env.kindOf x = some .cell ∨ env.kindOf x = some .free
  glob : ∀ x ∈ gs, env.kindOf x = some .globalImplicit
  globals : env.globals = mainGlobals
  builtins : env.builtins = builtinsNs
  co : env.scope.isCoroutine = false

structure EnvOk (X : Cx) (ns : List Str) (ρ : List (Option PV)) (env : Env) (h : Heap) : Prop where
  fr : ∃ m, h.Ns env.locals m ∧ ∀ x p, Look ns ρ x p → env.kindOf x = some .local → ∃ v, m x = some v ∧ Rel h p v
  cell : ∀ x c, env.cells.lookup x = some c → (∃ v, h.IsCell c v) ∧ X.B.get? c = none
  has : ∀ x ∈ ns, env.kindOf x ≠ some .local → ∃ c, env.cells.lookup x = some c
  apart : env.cells.Pairwise fun x y => x.2 ≠ y.2
  cl : ∀ x p, Look ns ρ x p → env.kindOf x ≠ some .local → ∃ c v, env.cells.lookup x = some c ∧ h.IsCell c (some v) ∧ Rel h p v
  base : X.B.get? env.locals = none

noncomputable def wrOf (env : Env) : List Addr := env.locals :: env.cells.filterMap fun p => env.cells.lookup p.1

theorem EnvOk.weak {X : Cx} {ns : List Str} {ρ ρ' : List (Option PV)} {env : Env} {h : Heap} (e : EnvOk X ns ρ' env h) (w : Weak ρ ρ') : EnvOk X ns ρ env h :=
  ⟨let ⟨m, a, b⟩ := e.fr; ⟨m, a, fun x p l => b x p (w.look l)⟩, e.cell, e.has, e.apart, fun x p l => e.cl x p (w.look l), e.base⟩

theorem cell_wr {env : Env} {x : Str} {c : Addr} (h : env.cells.lookup x = some c) : c ∈ wrOf env :=
  List.mem_cons_of_mem _ (List.mem_filterMap.mpr ⟨(x, c), mem_of_lookup h, h⟩)

theorem EnvOk.wr_kind {X : Cx} {ns : List Str} {ρ : List (Option PV)} {env : Env} {h : Heap} (e : EnvOk X ns ρ env h) :
    ∀ b ∈ wrOf env, ((∃ o, h.get? b = some o ∧ ((∃ es n, o.data = .dict es n) ∨ ∃ v, o.data = .cell v)) ∧ X.B.get? b = none) := by
  intro b hb
  rcases List.mem_cons.mp hb with rfl | hb
  · obtain ⟨m, ⟨o, es, ep, e1, e2, _⟩, _⟩ := e.fr
    exact ⟨⟨o, e1, .inl ⟨es, ep, e2⟩⟩, e.base⟩
  · obtain ⟨q, hq, hc⟩ := List.mem_filterMap.mp hb
    obtain ⟨⟨v, o, e1, e2⟩, e3⟩ := e.cell _ _ hc
    exact ⟨⟨o, e1, .inr ⟨v, e2⟩⟩, e3⟩
theorem EnvOk.wr_nt {X : Cx} {ns : List Str} {ρ : List (Option PV)} {env : Env} {h : Heap} (e : EnvOk X ns ρ env h) : ∀ b ∈ wrOf env, ∀ o, Imm o → h.get? b ≠ some o := by
  intro b hb o i q
  obtain ⟨⟨o, ho, hd⟩, _⟩ := e.wr_kind b hb
  rw [ho] at q; cases q
  exact imm_data i hd

theorem EnvOk.tr {X : Cx} {ns : List Str} {ρ : List (Option PV)} {env : Env} {σ σ' : Store} {s s' : Shared} {wr : List Addr} {gw : List Nat} (e : EnvOk X ns ρ env s.heap) (M : Match X σ s) (t : Tr X wr gw σ s σ' s')
    (hw : ∀ b ∈ wr, b ∉ wrOf env) (hw2 : ∀ b ∈ wr, ∀ o, Imm o → s.heap.get? b ≠ some o) : EnvOk X ns ρ env s'.heap := by
  have kd : ∀ a o es n, s.heap.get? a = some o → o.data = .dict es n → a ∈ wrOf env → s'.heap.get? a = some o := fun a o es n e1 e2 q =>
    t.keep a o (fun r => hw a r q) (M.not_ex e1 (not_prot_dict e2)) (M.not_list_of_data e1 (by rw [e2]; intros; nofun)) e1
  have kc : ∀ a v, s.heap.IsCell a v → a ∈ wrOf env → s'.heap.IsCell a v := fun a v ⟨o, e1, e2⟩ q =>
    ⟨o, t.keep a o (fun r => hw a r q) (M.not_ex e1 (not_prot_cell e2)) (M.not_list_of_data e1 (by rw [e2]; intros; nofun)) e1, e2⟩
  refine ⟨?_, fun x c h => ?_, e.has, e.apart, fun x p l hk => ?_, e.base⟩
  · obtain ⟨m, ⟨o, es, ep, e1, e2, e3⟩, h⟩ := e.fr
    exact ⟨m, ⟨o, es, ep, kd _ _ _ _ e1 e2 (List.mem_cons_self ..), e2, e3⟩, fun x p l hk => let ⟨v, hv, r⟩ := h x p l hk; ⟨v, hv, r.tr M t hw2⟩⟩
  · obtain ⟨⟨v, hv⟩, hb⟩ := e.cell x c h
    exact ⟨⟨v, kc _ _ hv (cell_wr h)⟩, hb⟩
  · obtain ⟨c, v, hc, hv, r⟩ := e.cl x p l hk
    exact ⟨c, v, hc, kc _ _ hv (cell_wr hc), r.tr M t hw2⟩
theorem EnvOk.tr0 {X : Cx} {ns : List Str} {ρ : List (Option PV)} {env : Env} {σ σ' : Store} {s s' : Shared} {gw : List Nat} (e : EnvOk X ns ρ env s.heap) (M : Match X σ s) (t : Tr X [] gw σ s σ' s') : EnvOk X ns ρ env s'.heap :=
  e.tr M t (by simp) (by simp)

structure Room (A : Around) (k : Nat) : Prop where
  handled : A.handled = none
  depth : A.depth + k ≤ 900
  units : A.units + 64 * k ≤ 9000

theorem Room.in1 {A : Around} {k : Nat} (r : Room A (k + 1)) : Room A.in1 k := ⟨r.1, by have := r.2; simp only [Around.in1_depth]; (first | lia | omega), by have := r.3; simp only [Around.in1_units]; (first | lia | omega)⟩
theorem Room.deeper {A : Around} {k : Nat} (r : Room A (k + 1)) (env : Env) : Room (A.deeper env) k := ⟨r.1, by have := r.2; simp only [Around.deeper]; (first | lia | omega), by have := r.3; simp only [Around.deeper]; (first | lia | omega)⟩
theorem Room.less {A : Around} {k j : Nat} (r : Room A k) (h : j ≤ k) : Room A j := ⟨r.1, by have := r.2; (first | lia | omega), by have := r.3; (first | lia | omega)⟩
theorem Room.lim {A : Around} {k : Nat} (r : Room A k) : A.depth < recursionLimit := by have := r.2; unfold recursionLimit; (first | lia | omega)
inductive PF where
  | next | brk | cont
  | ret (v : PV)
inductive RelF (h : Heap) : PF → Flow → Prop
  | next : RelF h .next .next
  | brk : RelF h .brk .brk
  | cont : RelF h .cont .cont
  | ret {p : PV} {v : Value} (r : Rel h p v) : RelF h (.ret p) (.ret v)

noncomputable def TV (X : Cx) (k : Nat) (ns : List Str) (env : Env) (t : Sem Value) (ρ : List (Option PV)) (σ : Store) (Q : PV → Store → Prop) : Prop :=
  ∀ (A : Around) (s : Shared) (Q' : Value → Shared → Prop) (E : Value → Shared → Prop), Room A k → Match X σ s → EnvOk X ns ρ env s.heap →
    (∀ p σ' v s', Q p σ' → Match X σ' s' → Rel s'.heap p v → Tr X [] [] σ s σ' s' → Q' v s') → wpAny (model X.prog X.w) A t Q' E s

noncomputable def EV (X : Cx) (k : Nat) (ns : List Str) (env : Env) (e : Expr) (ρ : List (Option PV)) (σ : Store) (Q : PV → Store → Prop) : Prop := TV X k ns env (eval e env) ρ σ Q

noncomputable def TVL (X : Cx) (k : Nat) (ns : List Str) (env : Env) (t : Sem (List Value)) (ρ : List (Option PV)) (σ : Store) (Q : List PV → Store → Prop) : Prop :=
  ∀ (A : Around) (s : Shared) (Q' : List Value → Shared → Prop) (E : Value → Shared → Prop), Room A k → Match X σ s → EnvOk X ns ρ env s.heap →
    (∀ p σ' v s', Q p σ' → Match X σ' s' → RelL s'.heap p v → Tr X [] [] σ s σ' s' → Q' v s') → wpAny (model X.prog X.w) A t Q' E s

noncomputable def TB (X : Cx) (k : Nat) (ns : List Str) (env : Env) (t : Sem Bool) (ρ : List (Option PV)) (σ : Store) (Q : Bool → Store → Prop) : Prop :=
  ∀ (A : Around) (s : Shared) (Q' : Bool → Shared → Prop) (E : Value → Shared → Prop), Room A k → Match X σ s → EnvOk X ns ρ env s.heap →
    (∀ b σ' s', Q b σ' → Match X σ' s' → Tr X [] [] σ s σ' s' → Q' b s') → wpAny (model X.prog X.w) A t Q' E s

noncomputable def EVB (X : Cx) (k : Nat) (ns : List Str) (env : Env) (e : Expr) (ρ : List (Option PV)) (σ : Store) (Q : Bool → Store → Prop) : Prop := TB X k ns env (isTrue e env (eval e env)) ρ σ Q

noncomputable def VV (X : Cx) (k : Nat) (args : List PV) (t : List Value → Sem Value) (σ : Store) (Q : PV → Store → Prop) : Prop :=
  ∀ (A : Around) (s : Shared) (vs : List Value) (Q' : Value → Shared → Prop) (E : Value → Shared → Prop), Room A k → Match X σ s → RelL s.heap args vs →
    (∀ p σ' v s', Q p σ' → Match X σ' s' → Rel s'.heap p v → Tr X [] [] σ s σ' s' → Q' v s') → wpAny (model X.prog X.w) A (t vs) Q' E s
noncomputable def VB (X : Cx) (k : Nat) (args : List PV) (t : List Value → Sem Bool) (σ : Store) (Q : Bool → Store → Prop) : Prop :=
  ∀ (A : Around) (s : Shared) (vs : List Value) (Q' : Bool → Shared → Prop) (E : Value → Shared → Prop), Room A k → Match X σ s → RelL s.heap args vs →
    (∀ b σ' s', Q b σ' → Match X σ' s' → Tr X [] [] σ s σ' s' → Q' b s') → wpAny (model X.prog X.w) A (t vs) Q' E s

noncomputable def TF (X : Cx) (k : Nat) (ns : List Str) (env : Env) (t : Sem Flow) (ρ : List (Option PV)) (σ : Store) (Q : PF → List (Option PV) → Store → Prop) : Prop :=
  ∀ (A : Around) (s : Shared) (Q' : Flow → Shared → Prop) (E : Value → Shared → Prop), Room A k → Match X σ s → EnvOk X ns ρ env s.heap →
    (∀ f ρ' σ' fl s', Q f ρ' σ' → Match X σ' s' → EnvOk X ns ρ' env s'.heap → RelF s'.heap f fl → Tr X (wrOf env) [] σ s σ' s' → Q' fl s') → wpAny (model X.prog X.w) A t Q' E s
noncomputable def TU (X : Cx) (k : Nat) (ns : List Str) (env : Env) (t : Sem Unit) (ρ : List (Option PV)) (σ : Store) (Q : List (Option PV) → Store → Prop) : Prop :=
  ∀ (A : Around) (s : Shared) (Q' : Unit → Shared → Prop) (E : Value → Shared → Prop), Room A k → Match X σ s → EnvOk X ns ρ env s.heap →
    (∀ ρ' σ' s', Q ρ' σ' → Match X σ' s' → EnvOk X ns ρ' env s'.heap → Tr X (wrOf env) [] σ s σ' s' → Q' () s') → wpAny (model X.prog X.w) A t Q' E s
noncomputable def EX (X : Cx) (k : Nat) (ns : List Str) (env : Env) (b : List Stmt) (ρ : List (Option PV)) (σ : Store) (Q : PF → List (Option PV) → Store → Prop) : Prop := TF X k ns env (execs b env) ρ σ Q
noncomputable def EX1 (X : Cx) (k : Nat) (ns : List Str) (env : Env) (b : Stmt) (ρ : List (Option PV)) (σ : Store) (Q : PF → List (Option PV) → Store → Prop) : Prop := TF X k ns env (exec b env) ρ σ Q

noncomputable def CALL (X : Cx) (k : Nat) (f : Value) (args : List PV) (kw : List (Str × PV)) (σ : Store) (Q : PV → Store → Prop) : Prop :=
  ∀ (A : Around) (s : Shared) (vs us : List Value) (Q' : Value → Shared → Prop) (E : Value → Shared → Prop), Room A k → Match X σ s → RelL s.heap args vs → RelL s.heap (kw.map (·.2)) us →
    (∀ p σ' v s', Q p σ' → Match X σ' s' → Rel s'.heap p v → Tr X [] [] σ s σ' s' → Q' v s') → wpAny (model X.prog X.w) A (call f vs ((kw.map (·.1)).zip us)) Q' E s


open PySem PySem.W PyProof.Rows PySem.Spec PySem.Calls

noncomputable def Store.set (σ : Store) (a : Addr) (xs : List PV) : Store := fun b => if b = a then some xs else σ b
theorem Store.set_same {σ : Store} {a : Addr} {xs : List PV} : Store.set σ a xs a = some xs := by simp [Store.set]
theorem Store.set_ne {σ : Store} {a b : Addr} {xs : List PV} (h : b ≠ a) : Store.set σ a xs b = σ b := by simp [Store.set, h]

section
variable {X : Cx} {σ σ' : Store} {s s' : Shared} {wr : List Addr} {gw : List Nat}

theorem Match.toks (M : Match X σ s) {t : Nat} : Match X σ { s with toks := t } := ⟨M.base, M.lists, M.newl, M.gens, M.ti⟩

theorem Match.fresh_base (M : Match X σ s) {a : Addr} (h : s.heap.get? a = none) : X.B.get? a = none := by
  cases e : X.B.get? a with
  | none => rfl
  | some o =>
    by_cases hx : a ∈ X.ex
    · obtain ⟨o', e', _⟩ := M.ex_prot hx
      rw [h] at e'; cases e'
    · rw [M.base a o e hx] at h; cases h
theorem Match.fresh_list (M : Match X σ s) {a : Addr} (h : s.heap.get? a = none) : σ a = none := by
  cases e : σ a with
  | none => rfl
  | some xs => obtain ⟨vs, ⟨n, e'⟩, _⟩ := M.lists a xs e; rw [h] at e'; cases e'

theorem step_keep (M : Match X σ s) {h' : Heap} {tk : Nat} (hk : ∀ b o, s.heap.get? b = some o → h'.get? b = some o) :
    Match X σ { s with heap := h', toks := tk } ∧ Tr X wr gw σ s σ { s with heap := h', toks := tk } := by
  refine ⟨M.step (wr := []) (fun b o _ _ e => hk b o e) (by simp) (fun a xs e => ?_) M.newl M.gens, ⟨fun b _ hb => ?_, fun b o _ _ _ e => hk b o e, fun _ _ _ e => e, Nat.le_refl _, rfl, fun _ _ h _ => h, fun _ h => h⟩⟩
  · obtain ⟨vs, hp, r⟩ := M.lists a xs e
    exact ⟨vs, hp.at (fun o => hk a o), r.mono fun b _ _ => hk b _⟩
  · cases e : s.heap.get? b with
    | none => exact absurd e hb
    | some o => exact ne_of_some (hk b o e)

theorem step_newList (M : Match X σ s) {h' : Heap} {tk : Nat} {a : Addr} {xs : List PV} {vs : List Value} (hk : ∀ b o, s.heap.get? b = some o → h'.get? b = some o)
    (ha : s.heap.get? a = none) (hp : h'.PlainList a vs.toArray) (r : RelL s.heap xs vs) :
    Match X (Store.set σ a xs) { s with heap := h', toks := tk } ∧ Tr X wr gw σ s (Store.set σ a xs) { s with heap := h', toks := tk } := by
  have hal : ∀ b, s.heap.get? b ≠ none → b ≠ a := fun b hb q => hb (q ▸ ha)
  refine ⟨M.step (wr := []) (fun b o _ _ e => hk b o e) (by simp) (fun b ys e => ?_) (fun b hb => ?_) M.gens, ⟨fun b _ hb => ?_, fun b o _ _ _ e => hk b o e, fun _ _ _ e => e, Nat.le_refl _, rfl, fun b _ h hb => ?_, fun b h => ?_⟩⟩
  · by_cases hb : b = a
    · subst hb; rw [Store.set_same] at e; cases e
      exact ⟨vs, hp, r.mono fun b _ _ => hk b _⟩
    · rw [Store.set_ne hb] at e
      obtain ⟨us, hp', r'⟩ := M.lists b ys e
      exact ⟨us, hp'.at (fun o => hk b o), r'.mono fun b _ _ => hk b _⟩
  · by_cases hb' : b = a
    · subst hb'; exact M.fresh_base ha
    · rw [Store.set_ne hb'] at hb; exact M.newl b hb
  · cases e : s.heap.get? b with
    | none => exact absurd e hb
    | some o => exact ne_of_some (hk b o e)
  · rw [Store.set_ne (hal b hb)]; exact h
  · by_cases hb : b = a
    · subst hb; rw [Store.set_same]; simp
    · rw [Store.set_ne hb]; exact h

theorem step_setList (M : Match X σ s) {h' : Heap} {tk : Nat} {a : Addr} {ys xs : List PV} {vs : List Value} (hs : σ a = some ys) (hk : Heap.ExtBut a s.heap h')
    (hp : h'.PlainList a vs.toArray) (r : RelL s.heap xs vs) :
    Match X (Store.set σ a xs) { s with heap := h', toks := tk } ∧ Tr X wr gw σ s (Store.set σ a xs) { s with heap := h', toks := tk } := by
  have hn : ∀ b, σ b = none → b ≠ a := fun b hb q => by rw [q, hs] at hb; cases hb
  have kt : ∀ b o, Imm o → s.heap.get? b = some o → h'.get? b = some o := fun b o i e => hk b _ (hn b (M.not_list e (imm_cls i))) e
  refine ⟨M.step (wr := []) (fun b o _ hb e => hk b o (hn b hb) e) (by simp) (fun b zs e => ?_) (fun b hb => ?_) M.gens, ⟨fun b _ hb => ?_, fun b o _ _ hb e => hk b o (hn b hb) e, fun _ _ _ e => e, Nat.le_refl _, rfl, fun b _ h hb => ?_, fun b h => ?_⟩⟩
  · by_cases hb : b = a
    · subst hb; rw [Store.set_same] at e; cases e
      exact ⟨vs, hp, r.mono kt⟩
    · rw [Store.set_ne hb] at e
      obtain ⟨us, hp', r'⟩ := M.lists b zs e
      exact ⟨us, hp'.at (fun o => hk b o hb), r'.mono kt⟩
  · by_cases hb' : b = a
    · subst hb'; exact M.newl b (ne_of_some hs)
    · rw [Store.set_ne hb'] at hb; exact M.newl b hb
  · by_cases hba : b = a
    · subst hba; obtain ⟨n, e⟩ := hp; exact ne_of_some e
    · cases e : s.heap.get? b with
      | none => exact absurd e hb
      | some o => exact ne_of_some (hk b o hba e)
  · rw [Store.set_ne (hn b h)]; exact h
  · by_cases hb : b = a
    · subst hb; rw [Store.set_same]; simp
    · rw [Store.set_ne hb]; exact h

theorem push_keeps (h : Heap) (o : Obj) : ∀ b o', h.get? b = some o' → (h.push o).get? b = some o' := fun _ _ e => Heap.get?_push_of_some o e
theorem get_size_none (h : Heap) : h.get? h.objs.size = none := by
  cases e : h.get? h.objs.size with
  | none => rfl
  | some o => exact absurd (Heap.lt_size e) (Nat.lt_irrefl _)
theorem push_plain (h : Heap) (vs : List Value) : (h.push { cls := .type "list", data := .seq vs.toArray }).PlainList h.objs.size vs.toArray := ⟨0, Heap.get?_push_size _ rfl⟩
end

noncomputable abbrev KV (X : Cx) (σ : Store) (s : Shared) (Q : PV → Store → Prop) (Q' : Value → Shared → Prop) : Prop :=
  ∀ p σ' v s', Q p σ' → Match X σ' s' → Rel s'.heap p v → Tr X [] [] σ s σ' s' → Q' v s'

section
variable {X : Cx} {σ : Store} {s : Shared} {Q : PV → Store → Prop} {Q' : Value → Shared → Prop}
theorem KV.toks (h : KV X σ s Q Q') (M : Match X σ s) {p : PV} (hq : Q p σ) {v : Value} {t : Nat} (r : ∀ hp, Rel hp p v) : Q' v { s with toks := t } := h p σ v _ hq M.toks (r _) Tr.toks
theorem KV.same (h : KV X σ s Q Q') (M : Match X σ s) {p : PV} (hq : Q p σ) {v : Value} (r : Rel s.heap p v) : Q' v s := h p σ v s hq M r Tr.refl
theorem KV.newList (h : KV X σ s Q Q') (M : Match X σ s) {a : Addr} {h' : Heap} {tk : Nat} {xs : List PV} {vs : List Value} (hk : ∀ b o, s.heap.get? b = some o → h'.get? b = some o)
    (ha : s.heap.get? a = none) (hp : h'.PlainList a vs.toArray) (r : RelL s.heap xs vs) (hq : Q (.lst a) (Store.set σ a xs)) : Q' (.ref a) { s with heap := h', toks := tk } :=
  let ⟨m, t⟩ := step_newList (tk := tk) M hk ha hp r
  h _ _ _ _ hq m (.lst a) t
theorem KV.setList (h : KV X σ s Q Q') (M : Match X σ s) {a : Addr} {h' : Heap} {tk : Nat} {ys xs : List PV} {vs : List Value} (hs : σ a = some ys) (hk : Heap.ExtBut a s.heap h')
    (hp : h'.PlainList a vs.toArray) (r : RelL s.heap xs vs) {p : PV} {v : Value} (rv : Rel s.heap p v) (hq : Q p (Store.set σ a xs)) : Q' v { s with heap := h', toks := tk } :=
  let ⟨m, t⟩ := step_setList (tk := tk) M hs hk hp r
  h _ _ _ _ hq m (rv.tr0 M t) t
theorem KV.keep (h : KV X σ s Q Q') (M : Match X σ s) {h' : Heap} {tk : Nat} {p : PV} {v : Value} (hk : ∀ b o, s.heap.get? b = some o → h'.get? b = some o)
    (rv : Rel h' p v) (hq : Q p σ) : Q' v { s with heap := h', toks := tk } :=
  let ⟨m, t⟩ := step_keep (tk := tk) M hk
  h _ _ _ _ hq m rv t
end

section
variable {X : Cx} {k : Nat} {ns gs : List Str} {env : Env} {ρ : List (Option PV)} {σ : Store} {Q : PV → Store → Prop}

theorem TV.mono {t : Sem Value} {Q₁ : PV → Store → Prop} (h : TV X k ns env t ρ σ Q₁) (hq : ∀ p σ', Q₁ p σ' → Q p σ') : TV X k ns env t ρ σ Q :=
  fun A s Q' E R M e hQ => h A s Q' E R M e fun p σ' v s' q => hQ p σ' v s' (hq _ _ q)

theorem EV.int {i : Int} {kk : Nat} {pos : Pos} (hq : Q (.int i) σ) : EV X k ns env (.Constant (.int i) kk pos) ρ σ Q :=
  fun A s Q' E R M e hQ => wpAny_Constant_int (KV.toks hQ M hq fun _ => .int _ _)
theorem EV.str {x : Str} {kk : Nat} {pos : Pos} (hq : Q (.str x) σ) : EV X k ns env (.Constant (.str x) kk pos) ρ σ Q :=
  fun A s Q' E R M e hQ => wpAny_Constant_str (KV.toks hQ M hq fun _ => .str _ _)
theorem EV.bool {b : Bool} {kk : Nat} {pos : Pos} (hq : Q (.bool b) σ) : EV X k ns env (.Constant (.bool b) kk pos) ρ σ Q :=
  fun A s Q' E R M e hQ => wpAny_Constant_bool (KV.same hQ M hq (.bool _))
theorem EV.none {kk : Nat} {pos : Pos} (hq : Q .none σ) : EV X k ns env (.Constant .none kk pos) ρ σ Q :=
  fun A s Q' E R M e hQ => wpAny_Constant_none (KV.same hQ M hq .none)

theorem EV.name (S : EnvS ns gs env) {x : Str} {pos : Pos} {p : PV} (l : Look ns ρ x p) (hq : Q p σ) (hd : (x == ("__debug__" : Str)) = false := by decide +kernel) (hc : (x == ("__classdict__" : Str)) = false := by decide +kernel) : EV X k ns env (.Name x pos) ρ σ Q := by
  intro A s Q' E R M e hQ
  refine wpAny_Name ?_ hd
  rcases S.own x l.mem with h | h | h
  · obtain ⟨m, hn, hv⟩ := e.fr
    obtain ⟨v, hv, r⟩ := hv x p l h
    exact wpAny_loadName_local S.kind h hn hv (KV.same hQ M hq r)
  · obtain ⟨c, v, hc', hv, r⟩ := e.cl x p l (by rw [h]; simp)
    exact wpAny_loadName_cell S.kind h hc' hv (KV.same hQ M hq r)
  · obtain ⟨c, v, hc', hv, r⟩ := e.cl x p l (by rw [h]; simp)
    exact wpAny_loadName_free S.kind h hc' hv (KV.same hQ M hq r) hc

noncomputable def Cx.Glob (X : Cx) (x : Str) (p : PV) : Prop := ∃ v, (∀ h, Rel h p v) ∧ (X.mg x = some v ∨ (X.mg x = none ∧ X.mb x = some v))

theorem EV.glob (S : EnvS ns gs env) {x : Str} {pos : Pos} {p : PV} (hg : x ∈ gs) (G : X.Glob x p) (hq : Q p σ) (hd : (x == ("__debug__" : Str)) = false := by decide +kernel) : EV X k ns env (.Name x pos) ρ σ Q := by
  intro A s Q' E R M e hQ
  obtain ⟨v, r, hv⟩ := G
  have hG := M.baseNs X.Gns X.exg
  have hB := M.baseNs X.Bns X.exb
  refine Name_function_global S.kind (S.glob x hg) ?_ hd
  rcases hv with hv | ⟨h0, hv⟩
  · exact loadGlobal_global (by rw [S.globals]; exact hG) hv (KV.same hQ M hq (r _))
  · exact loadGlobal_builtin (by rw [S.globals]; exact hG) h0 (by rw [S.builtins]; exact hB) hv (KV.same hQ M hq (r _))

noncomputable def binT (op : Operator) : List Value → Sem Value
  | [a, b] => binaryOp op a b
  | _ => unsupported ""
noncomputable def cmpT (op : CmpOp) : List Value → Sem Value
  | [a, b] => compareOp op a b
  | _ => unsupported ""
noncomputable def unT (op : UnaryOp) : List Value → Sem Value
  | [a] => unaryOp op a
  | _ => unsupported ""
noncomputable def inT (op : Operator) : List Value → Sem Value
  | [a, b] => inplaceOp op a b
  | _ => unsupported ""
noncomputable def truT : List Value → Sem Bool
  | [a] => truthy a
  | _ => unsupported ""
noncomputable abbrev BIN (X : Cx) (k : Nat) (op : Operator) (a b : PV) (σ : Store) (Q : PV → Store → Prop) : Prop := VV X k [a, b] (binT op) σ Q
noncomputable abbrev CMP (X : Cx) (k : Nat) (op : CmpOp) (a b : PV) (σ : Store) (Q : PV → Store → Prop) : Prop := VV X k [a, b] (cmpT op) σ Q
noncomputable abbrev UN (X : Cx) (k : Nat) (op : UnaryOp) (a : PV) (σ : Store) (Q : PV → Store → Prop) : Prop := VV X k [a] (unT op) σ Q
noncomputable abbrev INP (X : Cx) (k : Nat) (op : Operator) (a b : PV) (σ : Store) (Q : PV → Store → Prop) : Prop := VV X k [a, b] (inT op) σ Q
noncomputable abbrev TRU (X : Cx) (k : Nat) (a : PV) (σ : Store) (Q : Bool → Store → Prop) : Prop := VB X k [a] truT σ Q

noncomputable abbrev kEV (X : Cx) (k : Nat) (ns : List Str) (env : Env) (e : Expr) (ρ : List (Option PV)) (K : PV → PV → Store → Prop) : PV → Store → Prop := fun a σ => EV X k ns env e ρ σ (K a)
noncomputable abbrev kBIN (X : Cx) (k : Nat) (op : Operator) (Q : PV → Store → Prop) : PV → PV → Store → Prop := fun a b σ => BIN X k op a b σ Q
noncomputable abbrev kCMP (X : Cx) (k : Nat) (op : CmpOp) (Q : PV → Store → Prop) : PV → PV → Store → Prop := fun a b σ => CMP X k op a b σ Q
noncomputable abbrev kUN (X : Cx) (k : Nat) (op : UnaryOp) (Q : PV → Store → Prop) : PV → Store → Prop := fun a σ => UN X k op a σ Q
noncomputable abbrev kTRU (X : Cx) (k : Nat) (Q : Bool → Store → Prop) : PV → Store → Prop := fun a σ => TRU X k a σ Q
noncomputable abbrev kNot (Q : Bool → Store → Prop) : Bool → Store → Prop := fun b σ => Q (!b) σ
noncomputable abbrev kIfe (X : Cx) (k : Nat) (ns : List Str) (env : Env) (b o : Expr) (ρ : List (Option PV)) (Q : PV → Store → Prop) : Bool → Store → Prop := fun c σ => if c = true then EV X k ns env b ρ σ Q else EV X k ns env o ρ σ Q
noncomputable abbrev kIfeB (X : Cx) (k : Nat) (ns : List Str) (env : Env) (b o : Expr) (ρ : List (Option PV)) (Q : Bool → Store → Prop) : Bool → Store → Prop := fun c σ => if c = true then EVB X k ns env b ρ σ Q else EVB X k ns env o ρ σ Q
noncomputable abbrev kAnd2' (X : Cx) (k : Nat) (ns : List Str) (env : Env) (y : Expr) (ρ : List (Option PV)) (Q : PV → Store → Prop) (a : PV) : Bool → Store → Prop := fun c σ => if c = true then EV X k ns env y ρ σ Q else Q a σ
noncomputable abbrev kAnd2 (X : Cx) (k : Nat) (ns : List Str) (env : Env) (y : Expr) (ρ : List (Option PV)) (Q : PV → Store → Prop) : PV → Store → Prop := fun a σ => TRU X k a σ (kAnd2' X k ns env y ρ Q a)
noncomputable abbrev kOr2' (X : Cx) (k : Nat) (ns : List Str) (env : Env) (y : Expr) (ρ : List (Option PV)) (Q : PV → Store → Prop) (a : PV) : Bool → Store → Prop := fun c σ => if c = true then Q a σ else EV X k ns env y ρ σ Q
noncomputable abbrev kOr2 (X : Cx) (k : Nat) (ns : List Str) (env : Env) (y : Expr) (ρ : List (Option PV)) (Q : PV → Store → Prop) : PV → Store → Prop := fun a σ => TRU X k a σ (kOr2' X k ns env y ρ Q a)
noncomputable abbrev kCons (Q : List PV → Store → Prop) (a : PV) : List PV → Store → Prop := fun as σ => Q (a :: as) σ
noncomputable abbrev kList (Q : PV → Store → Prop) : List PV → Store → Prop := fun as σ => as.length ≤ sizeLine ∧ ∀ a, σ a = .none → Q (.lst a) (Store.set σ a as)
noncomputable abbrev kTup (Q : PV → Store → Prop) : List PV → Store → Prop := fun as σ => as.length ≤ sizeLine ∧ Q (.tup as) σ
noncomputable abbrev kNext (Q : PF → List (Option PV) → Store → Prop) : List (Option PV) → Store → Prop := fun ρ σ => Q .next ρ σ
noncomputable abbrev kRet (Q : PF → List (Option PV) → Store → Prop) (ρ : List (Option PV)) : PV → Store → Prop := fun p σ => Q (.ret p) ρ σ
noncomputable abbrev kExpr (Q : PF → List (Option PV) → Store → Prop) (ρ : List (Option PV)) : PV → Store → Prop := fun _ σ => Q .next ρ σ
noncomputable abbrev kIte (X : Cx) (k : Nat) (ns : List Str) (env : Env) (b o : List Stmt) (ρ : List (Option PV)) (Q : PF → List (Option PV) → Store → Prop) : Bool → Store → Prop := fun c σ => if c = true then EX X k ns env b ρ σ Q else EX X k ns env o ρ σ Q
theorem EV.binop {op : Operator} {l r : Expr} {pos : Pos} (h : EV X k ns env l ρ σ (kEV X k ns env r ρ (kBIN X k op Q))) : EV X k ns env (.BinOp l op r pos) ρ σ Q := by
  intro A s Q' E R M e hQ
  refine wpAny_BinOp (h A s _ E R M e fun a σ₁ v₁ s₁ h₁ M₁ r₁ t₁ => ?_)
  refine h₁ A s₁ _ E R M₁ (e.tr0 M t₁) fun b σ₂ v₂ s₂ h₂ M₂ r₂ t₂ => ?_
  exact h₂ A s₂ [v₁, v₂] Q' E R M₂ (.cons (r₁.tr0 M₁ t₂) (.cons r₂ .nil)) fun p σ₃ v₃ s₃ q M₃ r₃ t₃ => hQ p σ₃ v₃ s₃ q M₃ r₃ ((t₁.trans t₂).trans t₃)

theorem EV.unop {op : UnaryOp} {x : Expr} {pos : Pos} (h : EV X k ns env x ρ σ (kUN X k op Q)) : EV X k ns env (.UnaryOp op x pos) ρ σ Q := by
  intro A s Q' E R M e hQ
  refine wpAny_UnaryOp (h A s _ E R M e fun a σ₁ v₁ s₁ h₁ M₁ r₁ t₁ => ?_)
  exact h₁ A s₁ [v₁] Q' E R M₁ (.cons r₁ .nil) fun p σ₃ v₃ s₃ q M₃ r₃ t₃ => hQ p σ₃ v₃ s₃ q M₃ r₃ (t₁.trans t₃)

theorem EV.cmp {op : CmpOp} {l r : Expr} {pos : Pos} (h : EV X k ns env l ρ σ (kEV X k ns env r ρ (kCMP X k op Q)))
    (hm : behindInMarks op r = false := by with_unfolding_all rfl) : EV X k ns env (.Compare l [op] [r] pos) ρ σ Q := by
  intro A s Q' E R M e hQ
  refine wpAny_Compare1 (h A s _ E R M e fun a σ₁ v₁ s₁ h₁ M₁ r₁ t₁ => ?_) hm
  refine h₁ A s₁ _ E R M₁ (e.tr0 M t₁) fun b σ₂ v₂ s₂ h₂ M₂ r₂ t₂ => ?_
  exact h₂ A s₂ [v₁, v₂] Q' E R M₂ (.cons (r₁.tr0 M₁ t₂) (.cons r₂ .nil)) fun p σ₃ v₃ s₃ q M₃ r₃ t₃ => hQ p σ₃ v₃ s₃ q M₃ r₃ ((t₁.trans t₂).trans t₃)

theorem EVB.cmp {op : CmpOp} {l r : Expr} {pos : Pos} {Q : Bool → Store → Prop} (h : EV X k ns env l ρ σ (kEV X k ns env r ρ (kCMP X k op (kTRU X k Q))))
    (hm : behindInMarks op r = false := by with_unfolding_all rfl) : EVB X k ns env (.Compare l [op] [r] pos) ρ σ Q := by
  intro A s Q' E R M e hQ
  refine wpAny_isTrue_Compare1 (h A s _ E R M e fun a σ₁ v₁ s₁ h₁ M₁ r₁ t₁ => ?_) hm
  refine h₁ A s₁ _ E R M₁ (e.tr0 M t₁) fun b σ₂ v₂ s₂ h₂ M₂ r₂ t₂ => ?_
  refine h₂ A s₂ [v₁, v₂] _ E R M₂ (.cons (r₁.tr0 M₁ t₂) (.cons r₂ .nil)) fun p σ₃ v₃ s₃ h₃ M₃ r₃ t₃ => ?_
  exact h₃ A s₃ [v₃] Q' E R M₃ (.cons r₃ .nil) fun p σ₄ s₄ q M₄ t₄ => hQ p σ₄ s₄ q M₄ (((t₁.trans t₂).trans t₃).trans t₄)

theorem EVB.val {x : Expr} {Q : Bool → Store → Prop} (h : EV X k ns env x ρ σ (kTRU X k Q))
    (he : ∀ whole : Sem Value, isTrue x env whole = (do let v ← whole; standAt x.pos; holding [v] (truthy v)) := by intro _; rfl) : EVB X k ns env x ρ σ Q := by
  intro A s Q' E R M e hQ
  refine wpAny_isTrue_value (h A s _ E R M e fun a σ₁ v₁ s₁ h₁ M₁ r₁ t₁ => ?_) (he _)
  exact h₁ A s₁ [v₁] Q' E R M₁ (.cons r₁ .nil) fun p σ₃ s₃ q M₃ t₃ => hQ p σ₃ s₃ q M₃ (t₁.trans t₃)

theorem EVB.not {x : Expr} {pos : Pos} {Q : Bool → Store → Prop} (h : EVB X k ns env x ρ σ (kNot Q)) : EVB X k ns env (.UnaryOp .Not x pos) ρ σ Q :=
  fun A s Q' E R M e hQ => wpAny_isTrue_Not (h A s _ E R M e fun b σ₁ s₁ h₁ M₁ t₁ => hQ _ σ₁ s₁ h₁ M₁ t₁)

noncomputable def EVA (X : Cx) (k : Nat) (ns : List Str) (env : Env) (op : BoolOp) (es : List Expr) (ρ : List (Option PV)) (σ : Store) (Q : Bool → Store → Prop) : Prop := TB X k ns env (allTrue op es env) ρ σ Q
noncomputable abbrev kAnd (X : Cx) (k : Nat) (ns : List Str) (env : Env) (es : List Expr) (ρ : List (Option PV)) (Q : Bool → Store → Prop) : Bool → Store → Prop := fun b σ => if b = true then EVA X k ns env .And es ρ σ Q else Q false σ
noncomputable abbrev kOr (X : Cx) (k : Nat) (ns : List Str) (env : Env) (es : List Expr) (ρ : List (Option PV)) (Q : Bool → Store → Prop) : Bool → Store → Prop := fun b σ => if b = true then Q true σ else EVA X k ns env .Or es ρ σ Q
theorem EVB.boolop {op : BoolOp} {es : List Expr} {pos : Pos} {Q : Bool → Store → Prop} (h : EVA X k ns env op es ρ σ Q) : EVB X k ns env (.BoolOp op es pos) ρ σ Q :=
  fun A s Q' E R M e hQ => wpAny_isTrue_BoolOp (h A s _ E R M e hQ)
theorem EVA.and_nil {Q : Bool → Store → Prop} (h : Q true σ) : EVA X k ns env .And [] ρ σ Q := fun A s Q' E R M e hQ => wpAny_allTrue_And_nil (hQ _ _ _ h M Tr.refl)
theorem EVA.or_nil {Q : Bool → Store → Prop} (h : Q false σ) : EVA X k ns env .Or [] ρ σ Q := fun A s Q' E R M e hQ => wpAny_allTrue_Or_nil (hQ _ _ _ h M Tr.refl)
theorem EVA.and {x : Expr} {es : List Expr} {Q : Bool → Store → Prop} (h : EVB X k ns env x ρ σ (kAnd X k ns env es ρ Q)) : EVA X k ns env .And (x :: es) ρ σ Q := by
  intro A s Q' E R M e hQ
  refine wpAny_allTrue_And_cons (h A s _ E R M e fun b σ₁ s₁ h₁ M₁ t₁ => ?_)
  cases b with
  | true => exact h₁ A s₁ Q' E R M₁ (e.tr0 M t₁) fun b σ₂ s₂ h₂ M₂ t₂ => hQ _ _ _ h₂ M₂ (t₁.trans t₂)
  | false => exact hQ _ _ _ h₁ M₁ t₁
theorem EVA.or {x : Expr} {es : List Expr} {Q : Bool → Store → Prop} (h : EVB X k ns env x ρ σ (kOr X k ns env es ρ Q)) : EVA X k ns env .Or (x :: es) ρ σ Q := by
  intro A s Q' E R M e hQ
  refine wpAny_allTrue_Or_cons (h A s _ E R M e fun b σ₁ s₁ h₁ M₁ t₁ => ?_)
  cases b with
  | false => exact h₁ A s₁ Q' E R M₁ (e.tr0 M t₁) fun b σ₂ s₂ h₂ M₂ t₂ => hQ _ _ _ h₂ M₂ (t₁.trans t₂)
  | true => exact hQ _ _ _ h₁ M₁ t₁

theorem EV.ifexp {t b o : Expr} {pos : Pos} (h : EVB X k ns env t ρ σ (kIfe X k ns env b o ρ Q)) : EV X k ns env (.IfExp t b o pos) ρ σ Q := by
  intro A s Q' E R M e hQ
  refine wpAny_IfExp (h A s _ E R M e fun c σ₁ s₁ h₁ M₁ t₁ => ?_)
  cases c <;> exact h₁ A s₁ Q' E R M₁ (e.tr0 M t₁) fun p σ₂ v₂ s₂ h₂ M₂ r₂ t₂ => hQ _ _ _ _ h₂ M₂ r₂ (t₁.trans t₂)
theorem EV.and2 {x y : Expr} {pos : Pos} (h : EV X k ns env x ρ σ (kAnd2 X k ns env y ρ Q)) : EV X k ns env (.BoolOp .And [x, y] pos) ρ σ Q := by
  intro A s Q' E R M e hQ
  refine wpAny_And2 (h A s _ E R M e fun a σ₁ v₁ s₁ h₁ M₁ r₁ t₁ => ?_)
  refine h₁ A s₁ [v₁] _ E R M₁ (.cons r₁ .nil) fun c σ₂ s₂ h₂ M₂ t₂ => ?_
  cases c with
  | true => exact h₂ A s₂ Q' E R M₂ (e.tr0 M (t₁.trans t₂)) fun p σ₃ v₃ s₃ q M₃ r₃ t₃ => hQ _ _ _ _ q M₃ r₃ ((t₁.trans t₂).trans t₃)
  | false => exact hQ _ _ _ _ h₂ M₂ (r₁.tr0 M₁ t₂) (t₁.trans t₂)
theorem EV.or2 {x y : Expr} {pos : Pos} (h : EV X k ns env x ρ σ (kOr2 X k ns env y ρ Q)) : EV X k ns env (.BoolOp .Or [x, y] pos) ρ σ Q := by
  intro A s Q' E R M e hQ
  refine wpAny_Or2 (h A s _ E R M e fun a σ₁ v₁ s₁ h₁ M₁ r₁ t₁ => ?_)
  refine h₁ A s₁ [v₁] _ E R M₁ (.cons r₁ .nil) fun c σ₂ s₂ h₂ M₂ t₂ => ?_
  cases c with
  | false => exact h₂ A s₂ Q' E R M₂ (e.tr0 M (t₁.trans t₂)) fun p σ₃ v₃ s₃ q M₃ r₃ t₃ => hQ _ _ _ _ q M₃ r₃ ((t₁.trans t₂).trans t₃)
  | true => exact hQ _ _ _ _ h₂ M₂ (r₁.tr0 M₁ t₂) (t₁.trans t₂)

noncomputable def EVS (X : Cx) (k : Nat) (ns : List Str) (env : Env) (pos : Pos) (es : List Expr) (ρ : List (Option PV)) (σ : Store) (Q : List PV → Store → Prop) : Prop := TVL X k ns env (spliced (backTo pos (starEach es env))) ρ σ Q
noncomputable abbrev kEVS (X : Cx) (k : Nat) (ns : List Str) (env : Env) (pos : Pos) (es : List Expr) (ρ : List (Option PV)) (Q : List PV → Store → Prop) : PV → Store → Prop := fun a σ => EVS X k ns env pos es ρ σ (kCons Q a)
theorem EVS.nil {pos : Pos} {Q : List PV → Store → Prop} (h : Q [] σ) : EVS X k ns env pos [] ρ σ Q := fun A s Q' E R M e hQ => wpAny_items_nil (hQ _ _ _ _ h M .nil Tr.refl)
theorem EVS.cons {pos : Pos} {x : Expr} {es : List Expr} {Q : List PV → Store → Prop} (h : EV X k ns env x ρ σ (kEVS X k ns env pos es ρ Q))
    (he : starEach (x :: es) env = (false, eval x env) :: starEach es env := by rfl) : EVS X k ns env pos (x :: es) ρ σ Q := by
  intro A s Q' E R M e hQ
  refine wpAny_items_cons (h A s _ E R M e fun a σ₁ v₁ s₁ h₁ M₁ r₁ t₁ => ?_) he
  exact h₁ A s₁ _ E R M₁ (e.tr0 M t₁) fun as σ₂ vs s₂ h₂ M₂ r₂ t₂ => hQ _ _ _ _ h₂ M₂ (.cons (r₁.tr0 M₁ t₂) r₂) (t₁.trans t₂)
theorem EV.list {pos : Pos} {es : List Expr} (h : EVS X k ns env pos es ρ σ (kList Q)) : EV X k ns env (.List es pos) ρ σ Q := by
  intro A s Q' E R M e hQ
  refine wpAny_List (h A s _ E R M e fun as σ₁ vs s₁ h₁ M₁ r₁ t₁ => ⟨r₁.1 ▸ h₁.1, ?_⟩)
  obtain ⟨m, t⟩ := step_newList (X := X) (wr := []) (gw := []) (tk := s₁.toks) M₁ (push_keeps s₁.heap _) (get_size_none _) (push_plain s₁.heap vs) r₁
  exact hQ _ _ _ _ (h₁.2 _ (M₁.fresh_list (get_size_none _))) m (.lst _) (t₁.trans t)
theorem EV.tuple {pos : Pos} {kk : Nat} {es : List Expr} (h : EVS X k ns env pos es ρ σ (kTup Q)) : EV X k ns env (.Tuple es kk pos) ρ σ Q := by
  intro A s Q' E R M e hQ
  refine wpAny_Tuple (h A s _ E R M e fun as σ₁ vs s₁ h₁ M₁ r₁ t₁ => ⟨r₁.1 ▸ h₁.1, ?_⟩)
  obtain ⟨m, t⟩ := step_keep (X := X) (wr := []) (gw := []) (tk := s₁.toks) M₁ (push_keeps s₁.heap { cls := .type "tuple", data := .seq vs.toArray })
  have r' := r₁.mono (h' := s₁.heap.push { cls := .type "tuple", data := .seq vs.toArray }) fun b _ _ => push_keeps s₁.heap _ b _
  exact hQ _ _ _ _ h₁.2 m (.tup (Heap.get?_push_size _ rfl) r'.1 r'.2) (t₁.trans t)
end

section
variable {X : Cx} {k : Nat} {ns gs : List Str} {env : Env} {ρ : List (Option PV)} {σ : Store} {Q : PF → List (Option PV) → Store → Prop}

theorem Tr.upw {σ' : Store} {s s' : Shared} {wr : List Addr} (t : Tr X [] [] σ s σ' s') : Tr X wr [] σ s σ' s' := t.mono (by simp) (by simp)

theorem EX.nil (h : Q .next ρ σ) : EX X k ns env [] ρ σ Q := fun A s Q' E R M e hQ => wpAny_execs_nil (hQ _ _ _ _ _ h M e .next Tr.refl)
noncomputable abbrev SEQ (X : Cx) (k : Nat) (ns : List Str) (env : Env) (b : List Stmt) (Q : PF → List (Option PV) → Store → Prop) : PF → List (Option PV) → Store → Prop := fun f ρ₁ σ₁ => match f with
  | .next => EX X k ns env b ρ₁ σ₁ Q
  | f => Q f ρ₁ σ₁
theorem EX.cons {st : Stmt} {b : List Stmt} (h : EX1 X k ns env st ρ σ (SEQ X k ns env b Q)) : EX X k ns env (st :: b) ρ σ Q := by
  intro A s Q' E R M e hQ
  refine wpAny_execs_cons (h A s _ E R M e fun f ρ₁ σ₁ fl s₁ h₁ M₁ e₁ r₁ t₁ => ?_)
  cases r₁ with
  | next => exact h₁ A s₁ Q' E R M₁ e₁ fun f ρ₂ σ₂ fl s₂ h₂ M₂ e₂ r₂ t₂ => hQ _ _ _ _ _ h₂ M₂ e₂ r₂ (t₁.trans t₂)
  | brk => exact hQ _ _ _ _ _ h₁ M₁ e₁ .brk t₁
  | cont => exact hQ _ _ _ _ _ h₁ M₁ e₁ .cont t₁
  | ret r => exact hQ _ _ _ _ _ h₁ M₁ e₁ (.ret r) t₁
theorem EX.mono {b : List Stmt} {Q₁ : PF → List (Option PV) → Store → Prop} (h : EX X k ns env b ρ σ Q₁) (hq : ∀ f ρ' σ', Q₁ f ρ' σ' → Q f ρ' σ') : EX X k ns env b ρ σ Q :=
  fun A s Q' E R M e hQ => h A s Q' E R M e fun f ρ' σ' fl s' q => hQ f ρ' σ' fl s' (hq _ _ _ q)
theorem EX1.ret {x : Expr} {pos : Pos} (h : EV X k ns env x ρ σ (kRet Q ρ)) : EX1 X k ns env (.Return (some x) pos) ρ σ Q :=
  fun A s Q' E R M e hQ => wpAny_Return_some (h A s _ E R M e fun p σ₁ v s₁ h₁ M₁ r₁ t₁ => hQ _ _ _ _ _ h₁ M₁ (e.tr0 M t₁) (.ret r₁) t₁.upw)

theorem EX1.ite {t : Expr} {b o : List Stmt} {pos : Pos} (h : EVB X k ns env t ρ σ (kIte X k ns env b o ρ Q)) : EX1 X k ns env (.If t b o pos) ρ σ Q := by
  intro A s Q' E R M e hQ
  refine wpAny_If (h A s _ E R M e fun c σ₁ s₁ h₁ M₁ t₁ => ?_)
  cases c <;> exact h₁ A s₁ Q' E R M₁ (e.tr0 M t₁) fun f ρ₂ σ₂ fl s₂ h₂ M₂ e₂ r₂ t₂ => hQ _ _ _ _ _ h₂ M₂ e₂ r₂ (t₁.upw.trans t₂)

theorem pn_of (S : EnvS ns gs env) : (env.scope.kind == .class || (env.scope.kind == .module && env.locals != env.globals)) = false := by rw [S.kind]; rfl

noncomputable def ST (X : Cx) (k : Nat) (ns : List Str) (env : Env) (x : Str) (p : PV) (ρ : List (Option PV)) (σ : Store) (Q : List (Option PV) → Store → Prop) : Prop :=
  ∀ (A : Around) (s : Shared) (v : Value) (Q' : Unit → Shared → Prop) (E : Value → Shared → Prop), Room A k → Match X σ s → EnvOk X ns ρ env s.heap → Rel s.heap p v →
    (∀ ρ' σ' s', Q ρ' σ' → Match X σ' s' → EnvOk X ns ρ' env s'.heap → Tr X (wrOf env) [] σ s σ' s' → Q' () s') → wpAny (model X.prog X.w) A (storeName env x v) Q' E s

end


open PySem PySem.W PyProof.Rows PySem.Spec PySem.Calls

section
variable {X : Cx} {k : Nat} {ns gs : List Str} {env : Env} {ρ : List (Option PV)} {σ : Store}

theorem step_own {s : Shared} (M : Match X σ s) {b : Addr} {o : Obj} (ho : s.heap.get? b = some o) (hd : (∃ es n, o.data = .dict es n) ∨ ∃ v, o.data = .cell v) (hb : X.B.get? b = none) (hw : b ∈ wrOf env)
    {h' : Heap} {tk : Nat} {o' : Obj} (ho' : h'.get? b = some o') (hs : Heap.SameBut b s.heap h') :
    Match X σ { s with heap := h', toks := tk } ∧ Tr X (wrOf env) [] σ s σ { s with heap := h', toks := tk } := by
  have np : ¬ Prot o := by rcases hd with ⟨es, n, e⟩ | ⟨v, e⟩; exact not_prot_dict e; exact not_prot_cell e
  have ns : ∀ vs n, o.data ≠ .seq vs n := by rcases hd with ⟨es, n, e⟩ | ⟨v, e⟩ <;> (intros; rw [e]; nofun)
  have hσ : σ b = none := M.not_list_of_data ho ns
  have kt : ∀ a o, a ≠ b → s.heap.get? a = some o → h'.get? a = some o := fun a o ha e => hs.extBut a o ha e
  have rl : ∀ {p : PV} {v : Value}, Rel s.heap p v → Rel h' p v := fun r => r.mono fun a oo i e => kt a _ (fun q => by subst q; rw [ho] at e; cases e; exact imm_data i hd) e
  refine ⟨M.step (wr := [b]) (fun a oo ha _ e => kt a oo (by simpa using ha) e) (by
      intro a ha; rw [List.mem_singleton] at ha; subst ha
      exact ⟨fun oo e => by rw [ho] at e; cases e; exact np, hb⟩) (fun a xs e => ?_) M.newl M.gens,
    ⟨fun a _ ha => ?_, fun a oo ha _ _ e => kt a oo (fun q => ha (q ▸ hw)) e, fun _ _ _ e => e, Nat.le_refl _, rfl, fun _ _ h _ => h, fun _ h => h⟩⟩
  · obtain ⟨vs, hp, r⟩ := M.lists a xs e
    have hab : a ≠ b := fun q => by rw [q, hσ] at e; cases e
    exact ⟨vs, hp.at (fun oo => kt a oo hab), r.1, fun i x v hx hv => rl (r.2 i x v hx hv)⟩
  · by_cases q : a = b
    · subst q; exact ne_of_some ho'
    · cases e : s.heap.get? a with
      | none => exact absurd e ha
      | some oo => exact ne_of_some (kt a oo q e)

theorem rel_own {s : Shared} {b : Addr} {o : Obj} (ho : s.heap.get? b = some o) (hd : (∃ es n, o.data = .dict es n) ∨ ∃ v, o.data = .cell v)
    {h' : Heap} (hs : Heap.SameBut b s.heap h') {p : PV} {v : Value} (r : Rel s.heap p v) : Rel h' p v := by
  have ns : ∀ vs n, o.data ≠ .seq vs n := by rcases hd with ⟨es, n, e⟩ | ⟨v, e⟩ <;> (intros; rw [e]; nofun)
  exact r.mono fun a oo i e => hs.extBut _ _ (fun q => by subst q; rw [ho] at e; cases e; exact imm_data i hd) e

theorem storeName_free {M : Model} {A : Around} {E : Value → Shared → Prop} {s : Shared} {name : Str} {c : Addr} {v₀ : Option Value} {v : Value} {Q : Unit → Shared → Prop} (hk : env.scope.kind = .function) (hl : env.kindOf name = some .free)
    (hc : env.cells.lookup name = some c) (hv : s.heap.IsCell c v₀)
    (h : ∀ h', h'.IsCell c (some v) → Heap.SameBut c s.heap h' → Q () { s with heap := h' }) : wpAny M A (storeName env name v) Q E s := by
  unfold storeName
  simp only [hl, hk]
  exact wpAny_bind (wpAny_cellOf hc (wpAny_cellSet hv h))

noncomputable def ST' (X : Cx) (k : Nat) (ns : List Str) (env : Env) (x : Str) (p : PV) (ρ : List (Option PV)) (σ : Store) (Q : List (Option PV) → Store → Prop) : Prop := ST X k ns env x p ρ σ Q

theorem ST.name (S : EnvS ns gs env) {x : Str} {p : PV} {ρ' : List (Option PV)} {Q : List (Option PV) → Store → Prop} (l : Put ns ρ x p ρ') (hq : Q ρ' σ) : ST X k ns env x p ρ σ Q := by
  intro A s v Q' E R M e r hQ
  by_cases hl : env.kindOf x = some .local
  · obtain ⟨m, hn, hv⟩ := e.fr
    obtain ⟨oL, es, ep, e1, e2, _⟩ := id hn
    refine wpAny_storeName_local hl hn (fun h' hn' hs => ?_) (pn_of S)
    obtain ⟨oL', es', ep', e1', e2', _⟩ := id hn'
    have hcL : ∀ c v, s.heap.IsCell c v → c ≠ env.locals := fun c v ⟨oc, f1, f2⟩ q => by subst q; rw [e1] at f1; cases f1; rw [e2] at f2; cases f2
    obtain ⟨M', t⟩ := step_own (env := env) (tk := s.toks + 1) M e1 (.inl ⟨es, ep, e2⟩) e.base (List.mem_cons_self ..) e1' hs
    refine hQ ρ' σ _ hq M' ⟨⟨_, hn', fun y q ly hy => ?_⟩, fun y c hc => ?_, e.has, e.apart, fun y q ly hy => ?_, e.base⟩ t
    · rcases l.look S.nd ly with ⟨rfl, rfl⟩ | ⟨hne, ly'⟩
      · exact ⟨v, if_pos rfl, rel_own e1 (.inl ⟨es, ep, e2⟩) hs r⟩
      · obtain ⟨u, hu, ru⟩ := hv y q ly' hy
        exact ⟨u, by rw [if_neg hne]; exact hu, rel_own e1 (.inl ⟨es, ep, e2⟩) hs ru⟩
    · obtain ⟨⟨u, hu⟩, hb⟩ := e.cell y c hc
      exact ⟨⟨u, hu.sameBut hs (hcL c u hu)⟩, hb⟩
    · rcases l.look S.nd ly with ⟨rfl, rfl⟩ | ⟨hne, ly'⟩
      · exact absurd hl hy
      · obtain ⟨c, u, hc, hu, ru⟩ := e.cl y q ly' hy
        exact ⟨c, u, hc, hu.sameBut hs (hcL c _ hu), rel_own e1 (.inl ⟨es, ep, e2⟩) hs ru⟩
  · obtain ⟨c, hc⟩ := e.has x l.mem hl
    obtain ⟨⟨v₀, hv₀⟩, hb⟩ := e.cell x c hc
    have key : ∀ h', h'.IsCell c (some v) → Heap.SameBut c s.heap h' → Q' () { s with heap := h' } := by
      intro h' hc' hs
      obtain ⟨oc, f1, f2⟩ := id hv₀
      obtain ⟨oc', f1', f2'⟩ := id hc'
      obtain ⟨M', t⟩ := step_own (env := env) (tk := s.toks) M f1 (.inr ⟨_, f2⟩) hb (cell_wr hc) f1' hs
      refine hQ ρ' σ _ hq M' ⟨?_, fun y c₂ hc₂ => ?_, e.has, e.apart, fun y q ly hy => ?_, e.base⟩ t
      · obtain ⟨m, hn, hv⟩ := e.fr
        obtain ⟨oL, es, ep, e1, e2, _⟩ := id hn
        refine ⟨m, hn.sameBut hs (fun q => by rw [q, f1] at e1; cases e1; rw [f2] at e2; cases e2), fun y q ly hy => ?_⟩
        rcases l.look S.nd ly with ⟨rfl, rfl⟩ | ⟨hne, ly'⟩
        · exact absurd hy hl
        · obtain ⟨u, hu, ru⟩ := hv y q ly' hy
          exact ⟨u, hu, rel_own f1 (.inr ⟨_, f2⟩) hs ru⟩
      · obtain ⟨⟨u, hu⟩, hb₂⟩ := e.cell y c₂ hc₂
        by_cases hcc : c₂ = c
        · subst hcc; exact ⟨⟨_, hc'⟩, hb₂⟩
        · exact ⟨⟨u, hu.sameBut hs hcc⟩, hb₂⟩
      · rcases l.look S.nd ly with ⟨rfl, rfl⟩ | ⟨hne, ly'⟩
        · exact ⟨c, v, hc, hc', rel_own f1 (.inr ⟨_, f2⟩) hs r⟩
        · obtain ⟨c₂, u, hc₂, hu, ru⟩ := e.cl y q ly' hy
          have hcc : c₂ ≠ c := fun q => hne (name_of_addr e.apart (mem_of_lookup hc₂) (q ▸ mem_of_lookup hc))
          exact ⟨c₂, u, hc₂, hu.sameBut hs hcc, rel_own f1 (.inr ⟨_, f2⟩) hs ru⟩
    rcases S.own x l.mem with h | h | h
    · exact absurd h hl
    · exact wpAny_storeName_cell S.kind h hc hv₀ key
    · exact storeName_free S.kind h hc hv₀ key

noncomputable def ASG (X : Cx) (k : Nat) (ns : List Str) (env : Env) (t : Expr) (p : PV) (ρ : List (Option PV)) (σ : Store) (Q : List (Option PV) → Store → Prop) : Prop :=
  ∀ (A : Around) (s : Shared) (v : Value) (Q' : Unit → Shared → Prop) (E : Value → Shared → Prop), Room A k → Match X σ s → EnvOk X ns ρ env s.heap → Rel s.heap p v →
    (∀ ρ' σ' s', Q ρ' σ' → Match X σ' s' → EnvOk X ns ρ' env s'.heap → Tr X (wrOf env) [] σ s σ' s' → Q' () s') → wpAny (model X.prog X.w) A (assign t env v) Q' E s
noncomputable def ASGS (X : Cx) (k : Nat) (ns : List Str) (env : Env) (ts : List Expr) (ps : List PV) (ρ : List (Option PV)) (σ : Store) (Q : List (Option PV) → Store → Prop) : Prop :=
  ∀ (A : Around) (s : Shared) (vs : List Value) (Q' : Unit → Shared → Prop) (E : Value → Shared → Prop), Room A k → Match X σ s → EnvOk X ns ρ env s.heap → RelL s.heap ps vs →
    (∀ ρ' σ' s', Q ρ' σ' → Match X σ' s' → EnvOk X ns ρ' env s'.heap → Tr X (wrOf env) [] σ s σ' s' → Q' () s') → wpAny (model X.prog X.w) A (assignInOrder ((assignEach ts env).map (·.2)) vs) Q' E s
noncomputable def STS (X : Cx) (k : Nat) (ns : List Str) (env : Env) (xs : List Str) (ps : List PV) (ρ : List (Option PV)) (σ : Store) (Q : List (Option PV) → Store → Prop) : Prop :=
  ∀ (A : Around) (s : Shared) (vs : List Value) (Q' : Unit → Shared → Prop) (E : Value → Shared → Prop), Room A k → Match X σ s → EnvOk X ns ρ env s.heap → RelL s.heap ps vs →
    (∀ ρ' σ' s', Q ρ' σ' → Match X σ' s' → EnvOk X ns ρ' env s'.heap → Tr X (wrOf env) [] σ s σ' s' → Q' () s') → wpAny (model X.prog X.w) A (assignInOrder (xs.map fun n => bindName env n) vs) Q' E s

end


open PySem PySem.W PyProof.Rows PySem.Spec PySem.Calls

section
variable {X : Cx} {k : Nat} {ns gs : List Str} {env : Env} {ρ : List (Option PV)} {σ : Store}

noncomputable abbrev kASGS (X : Cx) (k : Nat) (ns : List Str) (env : Env) (ts : List Expr) (ps : List PV) (Q : List (Option PV) → Store → Prop) : List (Option PV) → Store → Prop := fun ρ σ => ASGS X k ns env ts ps ρ σ Q
noncomputable abbrev kSTS (X : Cx) (k : Nat) (ns : List Str) (env : Env) (xs : List Str) (ps : List PV) (Q : List (Option PV) → Store → Prop) : List (Option PV) → Store → Prop := fun ρ σ => STS X k ns env xs ps ρ σ Q
noncomputable abbrev kST (X : Cx) (k : Nat) (ns : List Str) (env : Env) (x : Str) (ρ : List (Option PV)) (Q : PF → List (Option PV) → Store → Prop) : PV → Store → Prop := fun p σ => ST X k ns env x p ρ σ (kNext Q)
noncomputable abbrev kASG (X : Cx) (k : Nat) (ns : List Str) (env : Env) (t : Expr) (p : PV) (K : List (Option PV) → Store → Prop) : List (Option PV) → Store → Prop := fun ρ σ => ASG X k ns env t p ρ σ K
noncomputable abbrev kASGT (X : Cx) (k : Nat) (ns : List Str) (env : Env) (t : Expr) (ρ : List (Option PV)) (Q : PF → List (Option PV) → Store → Prop) : PV → Store → Prop := fun p σ => ASG X k ns env t p ρ σ (kNext Q)
noncomputable abbrev kASG2 (X : Cx) (k : Nat) (ns : List Str) (env : Env) (t₁ t₂ : Expr) (ρ : List (Option PV)) (Q : PF → List (Option PV) → Store → Prop) : PV → Store → Prop := fun p σ => ASG X k ns env t₁ p ρ σ (kASG X k ns env t₂ p (kNext Q))
noncomputable abbrev kAug (X : Cx) (k : Nat) (ns : List Str) (env : Env) (op : Operator) (p : PV) (x : Str) (ρ : List (Option PV)) (Q : PF → List (Option PV) → Store → Prop) : PV → Store → Prop := fun q σ => INP X k op p q σ (kST X k ns env x ρ Q)
noncomputable abbrev kNextS (Q : PF → List (Option PV) → Store → Prop) (ρ : List (Option PV)) : Store → Prop := fun σ => Q .next ρ σ
theorem ASG.name {x : Str} {pos : Pos} {p : PV} {Q : List (Option PV) → Store → Prop} (h : ST X k ns env x p ρ σ Q) : ASG X k ns env (.Name x pos) p ρ σ Q :=
  fun A s v Q' E R M e r hQ => wpAny_assign_Name (h A s v Q' E R M e r hQ)
theorem ASGS.nil {Q : List (Option PV) → Store → Prop} (h : Q ρ σ) : ASGS X k ns env [] [] ρ σ Q := by
  intro A s vs Q' E R M e r hQ
  rw [r.inv_nil]
  exact wpAny_pure (hQ _ _ _ h M e Tr.refl)
theorem ASGS.cons {t : Expr} {ts : List Expr} {p : PV} {ps : List PV} {Q : List (Option PV) → Store → Prop} (h : ASG X k ns env t p ρ σ (kASGS X k ns env ts ps Q))
    (he : assignEach (t :: ts) env = (false, assign t env) :: assignEach ts env := by rfl) : ASGS X k ns env (t :: ts) (p :: ps) ρ σ Q := by
  intro A s vs Q' E R M e r hQ
  obtain ⟨v, vs', rfl, r1, r2⟩ := r.inv_cons
  rw [he]
  show wpAny _ A (do holding vs' (assign t env v); assignInOrder ((assignEach ts env).map (·.2)) vs') Q' E s
  refine wpAny_bind (wpAny_holding (h A s v _ E R M e r1 fun ρ₁ σ₁ s₁ h₁ M₁ e₁ t₁ => ?_))
  exact h₁ A s₁ vs' Q' E R M₁ e₁ (r2.tr M t₁ e.wr_nt) fun ρ₂ σ₂ s₂ h₂ M₂ e₂ t₂ => hQ _ _ _ h₂ M₂ e₂ (t₁.trans t₂)

theorem STS.nil {Q : List (Option PV) → Store → Prop} (h : Q ρ σ) : STS X k ns env [] [] ρ σ Q := by
  intro A s vs Q' E R M e r hQ
  rw [r.inv_nil]
  exact wpAny_pure (hQ _ _ _ h M e Tr.refl)
theorem STS.cons {x : Str} {xs : List Str} {p : PV} {ps : List PV} {Q : List (Option PV) → Store → Prop} (h : ST X k ns env x p ρ σ (kSTS X k ns env xs ps Q)) : STS X k ns env (x :: xs) (p :: ps) ρ σ Q := by
  intro A s vs Q' E R M e r hQ
  obtain ⟨v, vs', rfl, r1, r2⟩ := r.inv_cons
  show wpAny _ A (do holding vs' (bindName env x v); assignInOrder (xs.map fun n => bindName env n) vs') Q' E s
  refine wpAny_bind (wpAny_holding (wpAny_bindName (h A s v _ E R M e r1 fun ρ₁ σ₁ s₁ h₁ M₁ e₁ t₁ => ?_)))
  exact h₁ A s₁ vs' Q' E R M₁ e₁ (r2.tr M t₁ e.wr_nt) fun ρ₂ σ₂ s₂ h₂ M₂ e₂ t₂ => hQ _ _ _ h₂ M₂ e₂ (t₁.trans t₂)

theorem extSize_keeps {h h' : Heap} (x : Heap.ExtBut h.objs.size h h') : ∀ b o, h.get? b = some o → h'.get? b = some o := fun b o e => x b o (Nat.ne_of_lt (Heap.lt_size e)) e

theorem ASG.tuple {ts : List Expr} {kk : Nat} {pos : Pos} {ps : List PV} {Q : List (Option PV) → Store → Prop} (h : ASGS X k ns env ts ps ρ σ Q)
    (hn : (assignEach ts env).length = ps.length := by rfl) (hstar : (assignEach ts env).findIdx? (·.1) = none := by rfl) : ASG X k ns env (.Tuple ts kk pos) (.tup ps) ρ σ Q := by
  intro A s v Q' E R M e r hQ
  obtain ⟨a, vs, rfl, ha, hl, hv⟩ := Rel.tup_inv r
  · skip
    have rl : RelL s.heap ps vs := ⟨hl, hv⟩
    refine wpAny_assign_Tuple R.handled (items := vs.toArray) ⟨_, ha, rfl, _, rfl⟩ (by rw [hn, hl]; simp) hstar fun h' hx => ?_
    obtain ⟨M', t⟩ := step_keep (X := X) (wr := wrOf env) (gw := []) (tk := s.toks) M (extSize_keeps hx)
    have t0 := (step_keep (X := X) (wr := []) (gw := []) (tk := s.toks) M (extSize_keeps hx)).2
    rw [show vs.toArray.toList = vs by simp]
    exact h A _ vs Q' E R M' (e.tr0 M t0) (rl.tr0 M t0) fun ρ₂ σ₂ s₂ h₂ M₂ e₂ t₂ => hQ _ _ _ h₂ M₂ e₂ (t.trans t₂)

variable {Q : PF → List (Option PV) → Store → Prop}

theorem EX1.assign {x : Str} {p' pos : Pos} {value : Expr} (h : EV X k ns env value ρ σ (kST X k ns env x ρ Q))
    (hs : swapsWith value (some (.Name x p')) pos.line env = pure false := by rfl) : EX1 X k ns env (.Assign [.Name x p'] value pos) ρ σ Q := by
  intro A s Q' E R M e hQ
  refine wpAny_Assign_Name (h A s _ E R M e fun p σ₁ v s₁ h₁ M₁ r₁ t₁ => ?_) hs
  exact h₁ A s₁ v _ E R M₁ (e.tr0 M t₁) r₁ fun ρ₂ σ₂ s₂ h₂ M₂ e₂ t₂ => hQ _ _ _ _ _ h₂ M₂ e₂ .next (t₁.upw.trans t₂)

theorem EX1.assignT {elts : List Expr} {kk : Nat} {p' pos : Pos} {value : Expr} (h : EV X k ns env value ρ σ (kASGT X k ns env (.Tuple elts kk p') ρ Q))
    (hs : swapsWithSole [.Tuple elts kk p'] value pos.line env = pure false := by rfl)
    (hw : swappedStores [.Tuple elts kk p'] value env = pure none := by rfl) : EX1 X k ns env (.Assign [.Tuple elts kk p'] value pos) ρ σ Q := by
  intro A s Q' E R M e hQ
  refine Assign_Tuple (h A s _ E R M e fun p σ₁ v s₁ h₁ M₁ r₁ t₁ => ?_) hs hw
  exact h₁ A s₁ v _ E R M₁ (e.tr0 M t₁) r₁ fun ρ₂ σ₂ s₂ h₂ M₂ e₂ t₂ => hQ _ _ _ _ _ h₂ M₂ e₂ .next (t₁.upw.trans t₂)

theorem EX1.assignS {elts : List Expr} {kk : Nat} {p' pos : Pos} {value : Expr} {names : List Str}
    (hw : swappedStores [.Tuple elts kk p'] value env = pure (some names))
    (h : EV X k ns env value ρ σ fun p σ₁ => ∃ ps, p = .tup ps ∧ ps.length = names.length ∧ STS X k ns env names.reverse ps.reverse ρ σ₁ fun ρ₂ σ₂ => Q .next ρ₂ σ₂)
    (hs : swapsWithSole [.Tuple elts kk p'] value pos.line env = pure false := by rfl) : EX1 X k ns env (.Assign [.Tuple elts kk p'] value pos) ρ σ Q := by
  intro A s Q' E R M e hQ
  refine Assign_Tuple_swapped (h A s _ E R M e fun p σ₁ v s₁ h₁ M₁ r₁ t₁ => ?_) hs hw
  obtain ⟨ps, rfl, hlen, h₁⟩ := h₁
  obtain ⟨a, vs, rfl, ha, hl, hv⟩ := Rel.tup_inv r₁
  · skip
    have rl : RelL s₁.heap ps vs := ⟨hl, hv⟩
    rw [show names.length = vs.toArray.size by rw [List.size_toArray, ← hl, hlen]]
    refine wpAny_unpackItems_tuple R.handled (items := vs.toArray) ⟨_, ha, rfl, _, rfl⟩ fun h' hx => ?_
    obtain ⟨M', t⟩ := step_keep (X := X) (wr := wrOf env) (gw := []) (tk := s₁.toks) M₁ (extSize_keeps hx)
    have t0 := (step_keep (X := X) (wr := []) (gw := []) (tk := s₁.toks) M₁ (extSize_keeps hx)).2
    rw [show vs.toArray.toList = vs by simp]
    exact h₁ A _ vs.reverse _ E R M' ((e.tr0 M t₁).tr0 M₁ t0) (rl.tr0 M₁ t0).reverse fun ρ₂ σ₂ s₂ h₂ M₂ e₂ t₂ => hQ _ _ _ _ _ h₂ M₂ e₂ .next ((t₁.upw.trans t).trans t₂)

theorem EX1.assign2 {t₁ t₂ value : Expr} {pos : Pos} (h : EV X k ns env value ρ σ (kASG2 X k ns env t₁ t₂ ρ Q))
    (he : (assignEach [t₁, t₂] env).map (·.2) = [PySem.assign t₁ env, PySem.assign t₂ env] := by rfl)
    (hw : swappedStores [t₁, t₂] value env = pure none := by rfl) : EX1 X k ns env (.Assign [t₁, t₂] value pos) ρ σ Q := by
  intro A s Q' E R M e hQ
  refine wpAny_Assign_two (h A s _ E R M e fun p σ₁ v s₁ h₁ M₁ r₁ t₁ => ?_) he hw
  refine h₁ A s₁ v _ E R M₁ (e.tr0 M t₁) r₁ fun ρ₂ σ₂ s₂ h₂ M₂ e₂ t₂ => ?_
  exact h₂ A s₂ v _ E R M₂ e₂ (r₁.tr M₁ t₂ (e.tr0 M t₁).wr_nt) fun ρ₃ σ₃ s₃ h₃ M₃ e₃ t₃ => hQ _ _ _ _ _ h₃ M₃ e₃ .next ((t₁.upw.trans t₂).trans t₃)

theorem EX1.aug {x : Str} {p' pos : Pos} {op : Operator} {value : Expr} (S : EnvS ns gs env) {p : PV} (l : Look ns ρ x p)
    (h : EV X k ns env value ρ σ (kAug X k ns env op p x ρ Q)) (hc : (x == ("__classdict__" : Str)) = false := by decide +kernel) : EX1 X k ns env (.AugAssign (.Name x p') op value pos) ρ σ Q := by
  intro A s Q' E R M e hQ
  refine wpAny_AugAssign_Name ?_
  have go : ∀ v, Rel s.heap p v → wpAny (model X.prog X.w) A (eval value env) (fun v' s₂ => wpAny (model X.prog X.w) A (inplaceOp op v v') (fun r s₃ => wpAny (model X.prog X.w) A (storeName env x r) (fun _ => Q' .next) E s₃) E s₂) E s := by
    intro v r
    refine h A s _ E R M e fun q σ₁ v₁ s₁ h₁ M₁ r₁ t₁ => ?_
    refine h₁ A s₁ [v, v₁] _ E R M₁ (.cons (r.tr0 M t₁) (.cons r₁ .nil)) fun q₂ σ₂ v₂ s₂ h₂ M₂ r₂ t₂ => ?_
    exact h₂ A s₂ v₂ _ E R M₂ ((e.tr0 M t₁).tr0 M₁ t₂) r₂ fun ρ₃ σ₃ s₃ h₃ M₃ e₃ t₃ => hQ _ _ _ _ _ h₃ M₃ e₃ .next ((t₁.upw.trans t₂.upw).trans t₃)
  rcases S.own x l.mem with h' | h' | h'
  · obtain ⟨m, hn, hv⟩ := e.fr
    obtain ⟨v, hv, r⟩ := hv x p l h'
    exact wpAny_loadName_local S.kind h' hn hv (go v r)
  · obtain ⟨c, v, hc', hv, r⟩ := e.cl x p l (by rw [h']; simp)
    exact wpAny_loadName_cell S.kind h' hc' hv (go v r)
  · obtain ⟨c, v, hc', hv, r⟩ := e.cl x p l (by rw [h']; simp)
    exact wpAny_loadName_free S.kind h' hc' hv (go v r) hc

noncomputable def setT : List Value → Sem Value
  | [o, i, v] => do setItem o i v; pure .none
  | _ => unsupported ""
noncomputable def getT : List Value → Sem Value
  | [o, i] => getItem o i
  | _ => unsupported ""
noncomputable abbrev kIgn (Q : Store → Prop) : PV → Store → Prop := fun _ σ => Q σ
noncomputable abbrev SETI (X : Cx) (k : Nat) (o i v : PV) (σ : Store) (Q : Store → Prop) : Prop := VV X k [o, i, v] setT σ (kIgn Q)
noncomputable abbrev GETI (X : Cx) (k : Nat) (o i : PV) (σ : Store) (Q : PV → Store → Prop) : Prop := VV X k [o, i] getT σ Q

theorem setI_use {s : Shared} {A : Around} {o i v : Value} {Q' : Unit → Shared → Prop} {E : Value → Shared → Prop} {M : Model}
    (h : wpAny M A (setT [o, i, v]) (fun _ s' => Q' () s') E s) : wpAny M A (setItem o i v) Q' E s := by
  have h0 : wpAny M A (setItem o i v >>= fun _ => (pure .none : Sem Value)) (fun _ s' => Q' () s') E s := h
  intro Γ p hΓ
  have h' := h0 Γ p hΓ
  simp only [Sem.wp_bind', Sem.wp_pure'] at h'
  exact h'

noncomputable abbrev kSet2 (X : Cx) (k : Nat) (ρ : List (Option PV)) (Q : PF → List (Option PV) → Store → Prop) (v ov : PV) : PV → Store → Prop := fun iv σ => SETI X k ov iv v σ (kNextS Q ρ)
noncomputable abbrev kSet1 (X : Cx) (k : Nat) (ns : List Str) (env : Env) (i : Expr) (ρ : List (Option PV)) (Q : PF → List (Option PV) → Store → Prop) : PV → PV → Store → Prop := fun v ov σ => EV X k ns env i ρ σ (kSet2 X k ρ Q v ov)
noncomputable abbrev kAI4 (X : Cx) (k : Nat) (ρ : List (Option PV)) (Q : PF → List (Option PV) → Store → Prop) (ov iv : PV) : PV → Store → Prop := fun nw σ => SETI X k ov iv nw σ (kNextS Q ρ)
noncomputable abbrev kAI3 (X : Cx) (k : Nat) (op : Operator) (ρ : List (Option PV)) (Q : PF → List (Option PV) → Store → Prop) (ov iv old : PV) : PV → Store → Prop := fun v σ => INP X k op old v σ (kAI4 X k ρ Q ov iv)
noncomputable abbrev kAI2 (X : Cx) (k : Nat) (ns : List Str) (env : Env) (op : Operator) (value : Expr) (ρ : List (Option PV)) (Q : PF → List (Option PV) → Store → Prop) (ov iv : PV) : PV → Store → Prop := fun old σ => EV X k ns env value ρ σ (kAI3 X k op ρ Q ov iv old)
noncomputable abbrev kAI1 (X : Cx) (k : Nat) (ns : List Str) (env : Env) (op : Operator) (value : Expr) (ρ : List (Option PV)) (Q : PF → List (Option PV) → Store → Prop) : PV → PV → Store → Prop := fun ov iv σ => GETI X k ov iv σ (kAI2 X k ns env op value ρ Q ov iv)
theorem EX1.assignI {o i value : Expr} {p' pos : Pos} (h : EV X k ns env value ρ σ (kEV X k ns env o ρ (kSet1 X k ns env i ρ Q)))
    (hs : swapsWith value (some (.Subscript o i p')) pos.line env = pure false := by rfl) : EX1 X k ns env (.Assign [.Subscript o i p'] value pos) ρ σ Q := by
  intro A s Q' E R M e hQ
  refine wpAny_Assign_Subscript (h A s _ E R M e fun v σ₁ vv s₁ h₁ M₁ r₁ t₁ => ?_) hs
  refine h₁ A s₁ _ E R M₁ (e.tr0 M t₁) fun ov σ₂ vo s₂ h₂ M₂ r₂ t₂ => ?_
  refine h₂ A s₂ _ E R M₂ ((e.tr0 M t₁).tr0 M₁ t₂) fun iv σ₃ vi s₃ h₃ M₃ r₃ t₃ => ?_
  refine setI_use (h₃ A s₃ [vo, vi, vv] _ E R M₃ (.cons (r₂.tr0 M₂ t₃) (.cons r₃ (.cons ((r₁.tr0 M₁ t₂).tr0 M₂ t₃) .nil))) fun _ σ₄ _ s₄ h₄ M₄ _ t₄ => ?_)
  exact hQ _ _ _ _ _ h₄ M₄ ((((e.tr0 M t₁).tr0 M₁ t₂).tr0 M₂ t₃).tr0 M₃ t₄) .next ((((t₁.trans t₂).trans t₃).trans t₄).upw)

theorem EX1.expr {x : Expr} {pos : Pos} (h : EV X k ns env x ρ σ (kExpr Q ρ))
    (hi : interactive env = false := by rfl) (hs : swapsWith x none pos.line env = pure false := by rfl) : EX1 X k ns env (.Expr x pos) ρ σ Q :=
  fun A s Q' E R M e hQ => wpAny_Expr_any (h A s _ E R M e fun p σ₁ v s₁ h₁ M₁ r₁ t₁ => hQ _ _ _ _ _ h₁ M₁ (e.tr0 M t₁) .next t₁.upw) hi hs

noncomputable def WH (X : Cx) (k : Nat) (ns : List Str) (env : Env) (test : Expr) (body : List Stmt) (ρ : List (Option PV)) (σ : Store) (Q : PF → List (Option PV) → Store → Prop) : Prop :=
  ∀ (A : Around) (s : Shared) (R' : Result → Shared → Prop), Room A k → Match X σ s → EnvOk X ns ρ env s.heap →
    (∀ f ρ' σ' fl s', Q f ρ' σ' → Match X σ' s' → EnvOk X ns ρ' env s'.heap → RelF s'.heap f fl → Tr X (wrOf env) [] σ s σ' s' → R' (.ok fl) s') → codeAny (model X.prog X.w) A (.whileLoop test body [] env) R' s

theorem WH.step {test : Expr} {body : List Stmt} (h : EVB X k ns env test ρ σ fun c σ₁ => if c = true then EX X k ns env body ρ σ₁ (fun f ρ₂ σ₂ => match f with
      | .next | .cont => WH X k ns env test body ρ₂ σ₂ Q
      | .brk => Q .next ρ₂ σ₂
      | .ret p => Q (.ret p) ρ₂ σ₂) else Q .next ρ σ₁) : WH X k ns env test body ρ σ Q := by
  intro A s R' R M e hQ
  refine codeAny_of_tree ?_
  show wpAny _ A ((whileTurn test body [] env).onRaise (fun x => do noteFrame x env; theTreesLotGoes x)) _ _ s
  refine wpAny_noted ?_
  simp only [whileTurn]
  refine wpAny_bind (h A s _ _ R M e fun c σ₁ s₁ h₁ M₁ t₁ => ?_)
  cases c with
  | false =>
    rw [if_neg Bool.false_ne_true]
    exact wpAny_bind (wpAny_execs_nil (wpAny_pure (hQ .next _ _ _ _ h₁ M₁ (e.tr0 M t₁) .next t₁.upw)))
  | true =>
    rw [if_pos rfl]
    refine wpAny_bind (h₁ A s₁ _ _ R M₁ (e.tr0 M t₁) fun f ρ₂ σ₂ fl s₂ h₂ M₂ e₂ r₂ t₂ => ?_)
    have t := t₁.upw.trans t₂
    cases r₂ with
    | next => exact wpAny_pure ⟨rfl, h₂ A s₂ R' R M₂ e₂ fun f ρ' σ' fl s' q M' e' r' t' => hQ f ρ' σ' fl s' q M' e' r' (t.trans t')⟩
    | cont => exact wpAny_pure ⟨rfl, h₂ A s₂ R' R M₂ e₂ fun f ρ' σ' fl s' q M' e' r' t' => hQ f ρ' σ' fl s' q M' e' r' (t.trans t')⟩
    | brk => exact wpAny_pure (hQ .next _ _ _ _ h₂ M₂ e₂ .next t)
    | ret r => exact wpAny_pure (hQ (.ret _) _ _ _ _ h₂ M₂ e₂ (.ret r) t)
theorem EX1.while {test : Expr} {body : List Stmt} {pos : Pos} (h : WH X k ns env test body ρ σ Q) : EX1 X k ns env (.While test body [] pos) ρ σ Q :=
  fun A s Q' E R M e hQ => wpAny_While (h A s _ R M e fun f ρ' σ' fl s' q M' e' r' t' => hQ f ρ' σ' fl s' q M' e' r' t')
end

structure Stays (own : List Addr) (gown : List Nat) (s s' : Shared) : Prop where
  heap : ∀ b ∈ own, ∀ o, s.heap.get? b = some o → s'.heap.get? b = some o
  gens : ∀ g ∈ gown, ∀ st, s.gens[g]? = some st → s'.gens[g]? = some st

structure OwnOk (X : Cx) (own : List Addr) (s : Shared) : Prop where
  ok : ∀ b ∈ own, (∃ o, s.heap.get? b = some o ∧ ¬ Prot o ∧ (∀ vs n, o.data ≠ .seq vs n) ∧ ¬ Imm o) ∧ X.B.get? b = none

noncomputable def SeqP (X : Cx) (I : Addr) : List Addr → List Nat → List PV → Shared → Prop
  | own, gown, [], s => ∀ (A : Around) (σ : Store) (s' : Shared) (Q : Option Value → Shared → Prop) (E : Value → Shared → Prop), Room A 8 → Match X σ s' → Stays own gown s s' →
      (∀ s₂, Match X σ s₂ → Tr X own gown σ s' σ s₂ → Q none s₂) → wpAny (model X.prog X.w) A (pyNext (.ref I)) Q E s'
  | own, gown, x :: xs, s => ∀ (A : Around) (σ : Store) (s' : Shared) (Q : Option Value → Shared → Prop) (E : Value → Shared → Prop), Room A 8 → Match X σ s' → Stays own gown s s' →
      (∀ v s₂ own', Rel s₂.heap x v → Match X σ s₂ → Tr X own gown σ s' σ s₂ → (∀ b ∈ own', b ∈ own ∨ s'.heap.get? b = none) → SeqP X I own' gown xs s₂ → OwnOk X own' s₂ →
        (∀ (target : Expr) (A : Around) (Q : Unit → Shared → Prop) (E : Value → Shared → Prop), Q () s₂ → wpAny (model X.prog X.w) A (letOwnedTupleGo target (.ref I) v) Q E s₂) → Q (some v) s₂) →
      wpAny (model X.prog X.w) A (pyNext (.ref I)) Q E s'

theorem Stays.trans {own : List Addr} {gown : List Nat} {s s₁ s₂ : Shared} (a : Stays own gown s s₁) (b : Stays own gown s₁ s₂) : Stays own gown s s₂ :=
  ⟨fun c hc o e => b.heap c hc o (a.heap c hc o e), fun g hg st e => b.gens g hg st (a.gens g hg st e)⟩
theorem Stays.refl {own : List Addr} {gown : List Nat} {s : Shared} : Stays own gown s s := ⟨fun _ _ _ e => e, fun _ _ _ e => e⟩

theorem SeqP.stays {X : Cx} {I : Addr} {own : List Addr} {gown : List Nat} {items : List PV} {s s' : Shared} (h : SeqP X I own gown items s) (st : Stays own gown s s') : SeqP X I own gown items s' := by
  cases items with
  | nil => exact fun A σ s₂ Q E R M st' hQ => h A σ s₂ Q E R M (st.trans st') hQ
  | cons x xs => exact fun A σ s₂ Q E R M st' hQ => h A σ s₂ Q E R M (st.trans st') hQ

inductive It where
  | lst (a : Addr) (i : Nat)
  | enl (a : Addr) (i : Nat)
  | seq (items : List PV)

noncomputable def IA (X : Cx) : It → Value → List Addr → List Nat → Shared → Prop
  | .lst a i, v, own, gown, s => ∃ I, v = .ref I ∧ own = [I] ∧ gown = [] ∧ s.heap.IsListIter I a i
  | .enl a i, v, own, gown, s => ∃ I J old, v = .ref J ∧ own = [J, I] ∧ gown = [] ∧ IsEnum s.heap J I (i : Int) old ∧ s.heap.IsListIter I a i ∧ J ≠ I
  | .seq items, v, own, gown, s => ∃ I, v = .ref I ∧ SeqP X I own gown items s

theorem IA.stays {X : Cx} {it : It} {v : Value} {own : List Addr} {gown : List Nat} {s s' : Shared} (h : IA X it v own gown s) (st : Stays own gown s s') : IA X it v own gown s' := by
  cases it with
  | lst a i =>
    obtain ⟨I, rfl, rfl, rfl, o, ho, r⟩ := h
    exact ⟨I, rfl, rfl, rfl, o, st.heap I (by simp) o ho, r⟩
  | enl a i =>
    obtain ⟨I, J, old, rfl, rfl, rfl, hJ, ⟨o, ho, r⟩, hne⟩ := h
    exact ⟨I, J, old, rfl, rfl, rfl, st.heap J (by simp) _ hJ, ⟨o, st.heap I (by simp) o ho, r⟩, hne⟩
  | seq items => obtain ⟨I, rfl, h⟩ := h; exact ⟨I, rfl, h.stays st⟩

theorem OwnOk.nt {X : Cx} {own : List Addr} {s : Shared} (O : OwnOk X own s) : ∀ b ∈ own, ∀ o, Imm o → s.heap.get? b ≠ some o := by
  intro b hb o i e
  obtain ⟨⟨o, ho, _, _, hd⟩, _⟩ := O.ok b hb
  rw [ho] at e; cases e; exact hd i

theorem Tr.stays {X : Cx} {own : List Addr} {gown : List Nat} {wr : List Addr} {σ σ' : Store} {s s' : Shared} (O : OwnOk X own s) (M : Match X σ s) (t : Tr X wr [] σ s σ' s') (hd : ∀ b ∈ own, b ∉ wr) : Stays own gown s s' := by
  refine ⟨fun b hb o e => ?_, fun g _ st e => t.gens g st (by simp) e⟩
  obtain ⟨⟨o', ho, np, hs, _⟩, _⟩ := O.ok b hb
  have q : o' = o := Option.some.inj (ho.symm.trans e)
  subst q
  exact t.keep b o' (hd b hb) (M.not_ex ho np) (M.not_list_of_data ho hs) ho
theorem OwnOk.stays {X : Cx} {own : List Addr} {gown : List Nat} {s s' : Shared} (O : OwnOk X own s) (st : Stays own gown s s') : OwnOk X own s' :=
  ⟨fun b hb => let ⟨⟨o, ho, r⟩, q⟩ := O.ok b hb; ⟨⟨o, st.heap b hb o ho, r⟩, q⟩⟩

inductive Nxt : It → Store → Option (PV × It) → Prop
  | lst {a : Addr} {i : Nat} {σ : Store} {xs : List PV} {x : PV} (h : σ a = some xs) (hx : xs[i]? = some x) : Nxt (.lst a i) σ (some (x, .lst a (i + 1)))
  | lstE {a : Addr} {i : Nat} {σ : Store} {xs : List PV} (h : σ a = some xs) (hx : xs[i]? = none) : Nxt (.lst a i) σ none
  | enl {a : Addr} {i : Nat} {σ : Store} {xs : List PV} {x : PV} (h : σ a = some xs) (hx : xs[i]? = some x) : Nxt (.enl a i) σ (some (.tup [.int i, x], .enl a (i + 1)))
  | enlE {a : Addr} {i : Nat} {σ : Store} {xs : List PV} (h : σ a = some xs) (hx : xs[i]? = none) : Nxt (.enl a i) σ none
  | seq {x : PV} {xs : List PV} {σ : Store} : Nxt (.seq (x :: xs)) σ (some (x, .seq xs))
  | seqE {σ : Store} : Nxt (.seq []) σ none


section
variable {X : Cx} {k : Nat} {ns gs : List Str} {env : Env} {ρ : List (Option PV)} {σ : Store}

theorem step_it {s : Shared} {own : List Addr} {gown : List Nat} (M : Match X σ s) (O : OwnOk X own s) {h' : Heap} {tk : Nat} (hk : ∀ b o, b ∉ own → s.heap.get? b = some o → h'.get? b = some o)
 : Match X σ { s with heap := h', toks := tk } ∧ Tr X own gown σ s σ { s with heap := h', toks := tk } := by
  have hl : ∀ a xs, σ a = some xs → a ∉ own := fun a xs e hm => by
    obtain ⟨⟨o, ho, _, hd, _⟩, _⟩ := O.ok a hm
    rw [M.not_list_of_data ho hd] at e; cases e
  refine ⟨M.step (wr := own) (fun b o hb _ e => hk b o hb e) (fun b hb => ?_) (fun a xs e => ?_) M.newl M.gens, ⟨fun b hm hb => ?_, fun b o hb _ _ e => hk b o hb e, fun _ _ _ e => e, Nat.le_refl _, rfl, fun _ _ h _ => h, fun _ h => h⟩⟩
  · obtain ⟨⟨o, ho, np, _⟩, hB⟩ := O.ok b hb
    exact ⟨fun o' e => by rw [ho] at e; cases e; exact np, hB⟩
  · obtain ⟨vs, hp, r⟩ := M.lists a xs e
    exact ⟨vs, hp.at (fun o => hk a o (hl a xs e)), r.mono fun b o i e => hk b _ (fun q => O.nt b q o i e) e⟩
  · cases e : s.heap.get? b with
    | none => exact absurd e hb
    | some o => exact ne_of_some (hk b o hm e)

theorem go_ref {M : Model} {A : Around} {s : Shared} {target : Expr} {I : Addr} {v : Value} {cls : String} {o : Obj} {Q : Unit → Shared → Prop} {E : Value → Shared → Prop} (ho : s.heap.get? I = some o) (hc : o.cls = .type cls)
    (hn : (["enumerate", "zip", "dict_itemiterator", "dict_reverseitemiterator", "odict_iterator", "itertools.zip_longest", "itertools.pairwise"] : List String).contains cls = false) (h : Q () s) : wpAny M A (letOwnedTupleGo target (.ref I) v) Q E s := by
  have hT : ∀ es kk pos, wpAny M A (letOwnedTupleGo (.Tuple es kk pos) (.ref I) v) Q E s := fun es kk pos => by
    cases v with
    | ref a =>
      refine wpAny_bind (wpAny_load ho ?_)
      obtain ⟨c, _, d, _⟩ := o
      have hc : c = .type cls := hc
      subst hc
      cases d with
      | fields vs =>
        refine (congrArg (fun t : Sem Unit => wpAny M A t Q E s) (if_neg (by rw [hn]; exact Bool.false_ne_true))).mpr (wpAny_pure h)
      | _ => exact wpAny_pure h
    | _ => exact wpAny_pure h
  cases target with
  | Tuple es kk pos => exact hT es kk pos
  | List es pos => exact hT es 0 pos
  | _ => exact wpAny_pure h
end


open PySem PySem.W PyProof.Rows PySem.Spec PySem.Calls

noncomputable def rngInts (x c : Int) : Nat → List Int
  | 0 => []
  | n + 1 => x :: rngInts (x + c) c n

section
variable {X : Cx} {k : Nat} {ns gs : List Str} {env : Env} {ρ : List (Option PV)} {σ : Store}

theorem not_imm_cls {o : Obj} (h1 : o.cls ≠ .type "tuple") (h2 : o.cls ≠ .type "range") (h3 : ∀ fd, o.data ≠ .func fd) (h4 : o.cls ≠ .type "code") : ¬ Imm o := by
  rintro (⟨vs, rfl⟩ | ⟨a, b, c, t, u, v, rfl⟩ | ⟨fd, rfl⟩ | ⟨h, _⟩)
  · exact h1 rfl
  · exact h2 rfl
  · exact h3 _ rfl
  · exact h4 h
theorem own_fields {s : Shared} {I : Addr} {o : Obj} {cls : String} {vs : Array Value} (ho : s.heap.get? I = some o) (hc : o.cls = .type cls) (hd : o.data = .fields vs) (h0 : cls ≠ "code") (h1 : cls ≠ "tuple") (h2 : cls ≠ "range") :
    ∃ o, s.heap.get? I = some o ∧ ¬ Prot o ∧ (∀ vs n, o.data ≠ .seq vs n) ∧ ¬ Imm o := by
  refine ⟨o, ho, fun p => ?_, fun vs n q => ?_, not_imm_cls (by rw [hc]; simpa using h1) (by rw [hc]; simpa using h2) (fun fd q => by rw [hd] at q; cases q) (by rw [hc]; simpa using h0)⟩
  rotate_left
  · rw [hd] at q; cases q
  rcases p.1 with q | q <;> rw [hc] at q
  · cases q
  · simp at q; exact h0 q

theorem seqP_range {I : Addr} {c : Int} (hB : X.B.get? I = none) : ∀ (n : Nat) (x : Int) (s : Shared), IsRangeIter s.heap I x n c → SeqP X I [I] [] ((rngInts x c n).map .int) s
  | 0, x, s, hit => by
    intro A σ s' Q E R M st hQ
    have hit' := st.heap I (by simp) _ hit
    have O : OwnOk X [I] s' := ⟨fun b hb => by rw [List.mem_singleton] at hb; subst hb; exact ⟨own_fields hit' rfl rfl (by decide) (by decide) (by decide), hB⟩⟩
    refine wpAny_pyNext_range_end R.handled hit' (by simp) fun h' hx => ?_
    obtain ⟨M', t⟩ := step_it (gown := []) (tk := s'.toks) M O (h' := h') (fun b o hb e => hx b o (by simpa using hb) e)
    exact hQ _ M' t
  | n + 1, x, s, hit => by
    intro A σ s' Q E R M st hQ
    have hit' := st.heap I (by simp) _ hit
    have O : OwnOk X [I] s' := ⟨fun b hb => by rw [List.mem_singleton] at hb; subst hb; exact ⟨own_fields hit' rfl rfl (by decide) (by decide) (by decide), hB⟩⟩
    refine wpAny_pyNext_range_item hit' (by (first | lia | omega)) fun h' hi hs => ?_
    obtain ⟨M', t⟩ := step_it (gown := []) (tk := s'.toks + 1) M O (h' := h') (fun b o hb e => hs.extBut b o (by simpa using hb) e)
    have hi' : IsRangeIter h' I (x + c) (n : Nat) c := by
      have : (((n + 1 : Nat) : Int) - 1) = (n : Nat) := by (first | lia | omega)
      rw [this] at hi; exact hi
    exact hQ _ _ [I] (.int _ _) M' t (fun b hb => .inl hb) (seqP_range hB n (x + c) _ hi') ⟨fun b hb => by rw [List.mem_singleton] at hb; subst hb; exact ⟨own_fields (s := { s' with heap := h', toks := s'.toks + 1 }) hi rfl rfl (by decide) (by decide) (by decide), hB⟩⟩ fun target A Q E h => go_ref (s := { s' with heap := h', toks := s'.toks + 1 }) hi rfl (by decide) h

noncomputable def isTup : Expr → Bool
  | .Tuple .. => true
  | _ => false

theorem isTup_inv {t : Expr} (h : isTup t = true) : ∃ elts kk pos, t = .Tuple elts kk pos := by
  cases t with
  | Tuple es kk pos => exact ⟨_, _, _, rfl⟩
  | _ => exact absurd h Bool.false_ne_true

noncomputable abbrev NxtQ (Q' : Value → Shared → Prop) (val : Value) : Unit → Shared → Prop := fun _ s₂ => Q' val s₂
noncomputable abbrev NxtP (X : Cx) (A : Around) (target : Expr) (v : Value) (N : Shared → Prop) (Q' : Value → Shared → Prop) (E' : Value → Shared → Prop) : Option Value → Shared → Prop
  | none, s₁ => N s₁
  | some val, s₁ => wpAny (model X.prog X.w) A (letOwnedTupleGo target v val) (NxtQ Q' val) E' s₁
noncomputable abbrev NxtK (X : Cx) (σ : Store) (p : PV) (it' : It) (v : Value) (own : List Addr) (gown : List Nat) (s : Shared) (Q' : Value → Shared → Prop) : Prop :=
  ∀ val s₂ own', Rel s₂.heap p val → Match X σ s₂ → Tr X own gown σ s σ s₂ → IA X it' v own' gown s₂ → OwnOk X own' s₂ → (∀ b ∈ own', b ∈ own ∨ s.heap.get? b = none) → Q' val s₂
theorem nxt_some {target : Expr} {it it' : It} {p : PV} {v : Value} {own : List Addr} {gown : List Nat} {s : Shared} {A : Around} {N : Shared → Prop} {Q' : Value → Shared → Prop} {E E' : Value → Shared → Prop}
    (R : Room A 8) (M : Match X σ s) (I : IA X it v own gown s) (O : OwnOk X own s) (hn : Nxt it σ (some (p, it'))) (ht : (∀ a i, it ≠ .enl a i) ∨ isTup target = true)
    (hQ : NxtK X σ p it' v own gown s Q') :
    wpAny (model X.prog X.w) A (pyNext v) (NxtP X A target v N Q' E') E s := by
  cases hn with
  | lst h hx =>
    rename_i a i xs
    obtain ⟨I, rfl, rfl, rfl, hit⟩ := I
    obtain ⟨vs, hp, r⟩ := M.lists _ _ h
    obtain ⟨u, hu, ru⟩ := r.get hx
    obtain ⟨n, hpl⟩ := id hp
    have hne : I ≠ a := fun q => by obtain ⟨o, ho, hc, hd⟩ := hit; subst q; rw [hpl] at ho; cases ho; cases hd
    refine wpAny_pyNext_list_item hit hp.isList (x := u) (by simpa using hu) fun h' hit' hs => ?_
    obtain ⟨M', t⟩ := step_it (gown := []) (tk := s.toks) M O (h' := h') (fun b o hb e => hs.extBut b o (by simpa using hb) e)
    obtain ⟨o', ho', hc', hd'⟩ := id hit'
    refine go_ref (s := { s with heap := h' }) ho' hc' (by decide) ?_
    refine hQ u { s with heap := h' } [I] (ru.tr M t O.nt) M' t ⟨I, rfl, rfl, rfl, hit'⟩ ⟨fun b hb => ?_⟩ (fun b hb => .inl hb)
    rw [List.mem_singleton] at hb; subst hb
    exact ⟨own_fields ho' hc' hd' (by decide) (by decide) (by decide), (O.ok b (by simp)).2⟩
  | enl h hx =>
    rename_i a i xs x
    obtain ⟨I, J, old, rfl, rfl, rfl, hJ, hit, hne⟩ := I
    obtain ⟨vs, hp, r⟩ := M.lists _ _ h
    obtain ⟨u, hu, ru⟩ := r.get hx
    refine wpAny_pyNext_enum_item hJ hit hp.isList (x := u) (by simpa using hu) hne fun h' hJ' hit' htp hsz hk => ?_
    have hT : ∃ elts kk pos, target = .Tuple elts kk pos := by
      rcases ht with q | q
      · exact absurd rfl (q _ _)
      · exact isTup_inv q
    obtain ⟨elts, kk, pos, rfl⟩ := hT
    refine wpAny_letOwnedTupleGo_enum (s := { s with heap := h', toks := s.toks + 1 }) hJ' fun h₂ hJ₂ hs₂ => ?_
    have hk2 : ∀ b o, b ∉ [J, I] → s.heap.get? b = some o → h₂.get? b = some o := fun b o hb e => by
      simp only [List.mem_cons, List.not_mem_nil, or_false, not_or] at hb
      exact hs₂.extBut b o hb.1 (hk b o hb.1 hb.2 e)
    obtain ⟨M', t⟩ := step_it (gown := []) (tk := s.toks + 1) M O (h' := h₂) hk2
    have hJlt : J ≠ s.heap.objs.size := Nat.ne_of_lt (Heap.lt_size hJ)
    have htup : h₂.get? s.heap.objs.size = some (tupObj #[.int i s.toks, u]) := hs₂.extBut _ _ (Ne.symm hJlt) htp
    have hit₂ : h₂.IsListIter I a (i + 1) := hit'.extBut hs₂.extBut (Ne.symm hne)
    refine hQ _ { s with heap := h₂, toks := s.toks + 1 } [J, I] (.tup (vs := [.int i s.toks, u]) htup rfl fun j y w hy hw => ?_) M' t ⟨I, J, u, rfl, rfl, rfl, ?_, hit₂, hne⟩ ⟨fun b hb => ?_⟩ (fun b hb => .inl hb)
    · match j, hy, hw with
      | 0, hy, hw => simp at hy hw; subst hy; subst hw; exact .int _ _
      | 1, hy, hw => simp at hy hw; subst hy; subst hw; exact ru.tr M t O.nt
      | j + 2, hy, hw => simp at hy
    · have : ((i + 1 : Nat) : Int) = (i : Int) + 1 := by push_cast; rfl
      rw [this]; exact hJ₂
    · have hb' := (O.ok b hb).2
      simp only [List.mem_cons, List.not_mem_nil, or_false] at hb
      rcases hb with rfl | rfl
      · exact ⟨own_fields (s := { s with heap := h₂, toks := s.toks + 1 }) hJ₂ rfl rfl (by decide) (by decide) (by decide), hb'⟩
      · obtain ⟨o, ho, hc, hd⟩ := hit₂
        exact ⟨own_fields (s := { s with heap := h₂, toks := s.toks + 1 }) ho hc hd (by decide) (by decide) (by decide), hb'⟩
  | seq =>
    rename_i xs
    obtain ⟨I, rfl, hS⟩ := I
    exact hS A σ s _ E R M Stays.refl fun u s₂ own' ru M₂ t₂ ho hS₂ O₂ hgo => hgo _ _ _ _ (hQ u s₂ own' ru M₂ t₂ ⟨I, rfl, hS₂⟩ O₂ ho)

theorem nxt_none {it : It} {v : Value} {own : List Addr} {gown : List Nat} {s : Shared} {A : Around} {Q' : Shared → Prop} {N : Value → Shared → Prop} {E : Value → Shared → Prop}
    (R : Room A 8) (M : Match X σ s) (I : IA X it v own gown s) (O : OwnOk X own s) (hn : Nxt it σ none)
    (hQ : ∀ s₂, Match X σ s₂ → Tr X own gown σ s σ s₂ → Q' s₂) :
    wpAny (model X.prog X.w) A (pyNext v) (fun r s₁ => match r with | none => Q' s₁ | some val => N val s₁) E s := by
  cases hn with
  | lstE h hx =>
    rename_i a i xs
    obtain ⟨I, rfl, rfl, rfl, hit⟩ := I
    obtain ⟨vs, hp, r⟩ := M.lists _ _ h
    have hlen : vs.length ≤ i := by rw [← r.1]; exact List.getElem?_eq_none_iff.mp hx
    refine wpAny_pyNext_list_end R.handled hit hp.isList (by simpa using hlen) fun h' hs => ?_
    obtain ⟨M', t⟩ := step_it (gown := []) (tk := s.toks) M O (h' := h') (fun b o hb e => hs b o (by simpa using hb) e)
    exact hQ _ M' t
  | enlE h hx =>
    rename_i a i xs
    obtain ⟨I, J, old, rfl, rfl, rfl, hJ, hit, hne⟩ := I
    obtain ⟨vs, hp, r⟩ := M.lists _ _ h
    have hlen : vs.length ≤ i := by rw [← r.1]; exact List.getElem?_eq_none_iff.mp hx
    refine wpAny_pyNext_enum_end R.handled hJ hit hp.isList (by simpa using hlen) fun h' hs => ?_
    obtain ⟨M', t⟩ := step_it (gown := []) (tk := s.toks) M O (h' := h') (fun b o hb e => hs b o (fun q => hb (by simp [q])) e)
    exact hQ _ M' t
  | seqE =>
    obtain ⟨I, rfl, hS⟩ := I
    exact hS A σ s _ E R M Stays.refl fun s₂ M₂ t₂ => hQ _ M₂ t₂

noncomputable def FL (X : Cx) (k : Nat) (ns : List Str) (env : Env) (target : Expr) (body : List Stmt) (it : It) (ρ : List (Option PV)) (σ : Store) (Q : PF → List (Option PV) → Store → Prop) : Prop :=
  ∀ (A : Around) (s : Shared) (v : Value) (own : List Addr) (gown : List Nat) (R' : Result → Shared → Prop), Room A k → Match X σ s → EnvOk X ns ρ env s.heap → IA X it v own gown s → OwnOk X own s → (∀ b ∈ own, b ∉ wrOf env) →
    (∀ f ρ' σ' fl s', Q f ρ' σ' → Match X σ' s' → EnvOk X ns ρ' env s'.heap → RelF s'.heap f fl → Tr X (own ++ wrOf env) gown σ s σ' s' → R' (.ok fl) s') → codeAny (model X.prog X.w) A (.forLoop target v body [] env) R' s

variable {target : Expr} {body : List Stmt} {it it' : It} {p : PV} {Q : PF → List (Option PV) → Store → Prop}

theorem FL.done (hk : 8 ≤ k) (hn : Nxt it σ none) (h : Q .next ρ σ) : FL X k ns env target body it ρ σ Q := by
  intro A s v own gown R' R M e I O hd hQ
  refine codeAny_of_tree ?_
  show wpAny _ A ((forTurn target v body [] env).onRaise (fun x => do noteFrame x env; theTreesLotGoes x)) _ _ s
  refine wpAny_noted ?_
  simp only [forTurn]
  refine wpAny_bind (wpAny_standAt (wpAny_bind (wpAny_onRaise (wpAny_mono (nxt_none (N := fun _ _ => False) (Q' := fun s₂ => Match X σ s₂ ∧ Tr X own gown σ s σ s₂) (E := fun _ _ => False) (R.less hk) M I O hn (fun s₂ M₂ t₂ => ⟨M₂, t₂⟩)) (fun r s₁ h₁ => ?_) fun _ _ q => q.elim))))
  cases r with
  | some val => exact h₁.elim
  | none =>
    obtain ⟨M₂, t₂⟩ := h₁
    exact wpAny_pure ⟨rfl, codeAny_block (wpAny_execs_nil (hQ .next _ _ _ _ h M₂ (e.tr M t₂ hd O.nt) .next (t₂.mono (fun b q => List.mem_append_left _ q) (fun _ q => q))))⟩

theorem own_off {own own' wr : List Addr} {s : Shared} (hd : ∀ b ∈ own, b ∉ wr) (ho : ∀ b ∈ own', b ∈ own ∨ s.heap.get? b = none) (hw : ∀ b ∈ wr, s.heap.get? b ≠ none) : ∀ b ∈ own', b ∉ wr :=
  fun b hb hbw => (ho b hb).elim (fun q => hd b q hbw) fun q => hw b hbw q
theorem EnvOk.wr_alive {h : Heap} (e : EnvOk X ns ρ env h) : ∀ b ∈ wrOf env, h.get? b ≠ none := fun b hb => by
  obtain ⟨⟨o, ho, _⟩, _⟩ := e.wr_kind b hb
  exact ne_of_some ho

theorem FL.step (hk : 8 ≤ k) (hn : Nxt it σ (some (p, it'))) (ht : (∀ a i, it ≠ .enl a i) ∨ isTup target = true)
    (h : ASG X k ns env target p ρ σ fun ρ₁ σ₁ => EX X k ns env body ρ₁ σ₁ fun f ρ₂ σ₂ => match f with
      | .next | .cont => FL X k ns env target body it' ρ₂ σ₂ Q
      | .brk => Q .next ρ₂ σ₂
      | .ret p => Q (.ret p) ρ₂ σ₂) : FL X k ns env target body it ρ σ Q := by
  intro A s v own gown R' R M e I O hd hQ
  refine codeAny_of_tree ?_
  show wpAny _ A ((forTurn target v body [] env).onRaise (fun x => do noteFrame x env; theTreesLotGoes x)) _ _ s
  refine wpAny_noted ?_
  simp only [forTurn]
  refine wpAny_bind (wpAny_standAt (wpAny_bind (wpAny_onRaise ?_)))
  refine wpAny_mono (nxt_some (N := fun _ => False) (target := target) (Q' := fun val s₂ => ∃ own', Rel s₂.heap p val ∧ Match X σ s₂ ∧ Tr X own gown σ s σ s₂ ∧ IA X it' v own' gown s₂ ∧ OwnOk X own' s₂ ∧ ∀ b ∈ own', b ∈ own ∨ s.heap.get? b = none) (E := fun _ _ => False) (E' := fun _ _ => False) (R.less hk) M I O hn ht (fun val s₂ own' r M₂ t₂ I₂ O₂ ho => ⟨own', r, M₂, t₂, I₂, O₂, ho⟩)) (fun r s₁ h₁ => ?_) fun _ _ q => q.elim
  cases r with
  | none => exact h₁.elim
  | some val =>
    refine wpAny_bind (wpAny_mono h₁ (fun _ s₂ h₂ => ?_) fun _ _ q => q.elim)
    obtain ⟨own', r₂, M₂, t₂, I₂, O₂, ho⟩ := h₂
    have hd' := own_off hd ho e.wr_alive
    have e₂ := e.tr M t₂ hd O.nt
    refine wpAny_bind (h A s₂ val _ _ R M₂ e₂ r₂ fun ρ₃ σ₃ s₃ h₃ M₃ e₃ t₃ => ?_)
    have st₃ := Tr.stays (gown := gown) O₂ M₂ t₃ hd'
    have O₃ := O₂.stays st₃
    refine wpAny_bind (h₃ A s₃ _ _ R M₃ e₃ fun f ρ₄ σ₄ fl s₄ h₄ M₄ e₄ r₄ t₄ => ?_)
    have st₄ := Tr.stays (gown := gown) O₃ M₃ t₄ hd'
    have T : Tr X (own ++ wrOf env) gown σ s σ₄ s₄ := ((t₂.mono (fun b q => List.mem_append_left _ q) (fun _ q => q)).trans (t₃.mono (fun b q => List.mem_append_right _ q) (by simp))).trans (t₄.mono (fun b q => List.mem_append_right _ q) (by simp))
    have hw : ∀ b ∈ own' ++ wrOf env, b ∈ own ++ wrOf env ∨ s.heap.get? b = none := fun b hb => by
      rcases List.mem_append.mp hb with hb | hb
      · exact (ho b hb).imp (fun q => List.mem_append_left _ q) id
      · exact .inl (List.mem_append_right _ hb)
    cases r₄ with
    | next => exact wpAny_pure ⟨rfl, h₄ A s₄ v own' gown R' R M₄ e₄ ((I₂.stays st₃).stays st₄) (O₃.stays st₄) hd' fun f ρ' σ' fl s' q M' e' r' t' => hQ f ρ' σ' fl s' q M' e' r' (T.since t' hw (fun g hg => .inl hg))⟩
    | cont => exact wpAny_pure ⟨rfl, h₄ A s₄ v own' gown R' R M₄ e₄ ((I₂.stays st₃).stays st₄) (O₃.stays st₄) hd' fun f ρ' σ' fl s' q M' e' r' t' => hQ f ρ' σ' fl s' q M' e' r' (T.since t' hw (fun g hg => .inl hg))⟩
    | brk => exact wpAny_pure (hQ .next _ _ _ _ h₄ M₄ e₄ .next T)
    | ret r => exact wpAny_pure (hQ (.ret _) _ _ _ _ h₄ M₄ e₄ (.ret r) T)

noncomputable def Self (X : Cx) (own : List Addr) (gown : List Nat) (v : Value) (s : Shared) : Prop :=
  ∀ (A : Around) (s' : Shared) (Q : Value → Shared → Prop) (E : Value → Shared → Prop), Stays own gown s s' → Q v s' → wpAny (model X.prog X.w) A (pyIter v) Q E s'

noncomputable def EVI (X : Cx) (k : Nat) (ns : List Str) (env : Env) (x : Expr) (ρ : List (Option PV)) (σ : Store) (Q : It → Store → Prop) : Prop :=
  ∀ (A : Around) (s : Shared) (Q' : Value → Shared → Prop) (E : Value → Shared → Prop), Room A k → Match X σ s → EnvOk X ns ρ env s.heap →
    (∀ it own gown v σ' s', Q it σ' → Match X σ' s' → IA X it v own gown s' → OwnOk X own s' → (∀ b ∈ own, s.heap.get? b = none) → (∀ g ∈ gown, s.gens.size ≤ g) → Tr X [] [] σ s σ' s' → Self X own gown v s' → Q' v s') →
    wpAny (model X.prog X.w) A (eval x env) (fun v s₁ => wpAny (model X.prog X.w) A (pyIter v) Q' E s₁) E s

noncomputable def ITER (X : Cx) (k : Nat) (p : PV) (σ : Store) (Q : It → Store → Prop) : Prop :=
  ∀ (A : Around) (s : Shared) (v : Value) (Q' : Value → Shared → Prop) (E : Value → Shared → Prop), Room A k → Match X σ s → Rel s.heap p v →
    (∀ it own gown v σ' s', Q it σ' → Match X σ' s' → IA X it v own gown s' → OwnOk X own s' → (∀ b ∈ own, s.heap.get? b = none) → (∀ g ∈ gown, s.gens.size ≤ g) → Tr X [] [] σ s σ' s' → Self X own gown v s' → Q' v s') →
    wpAny (model X.prog X.w) A (pyIter v) Q' E s

theorem none_of_tr {σ' : Store} {s s' : Shared} {gw : List Nat} (t : Tr X [] gw σ s σ' s') {b : Addr} (h : s'.heap.get? b = none) : s.heap.get? b = none := by
  cases e : s.heap.get? b with
  | none => rfl
  | some o => exact absurd h (t.alive b (by simp) (ne_of_some e))

noncomputable abbrev kITER (X : Cx) (k : Nat) (Q : It → Store → Prop) : PV → Store → Prop := fun p σ => ITER X k p σ Q
noncomputable abbrev kFL (X : Cx) (k : Nat) (ns : List Str) (env : Env) (target : Expr) (body : List Stmt) (ρ : List (Option PV)) (Q : PF → List (Option PV) → Store → Prop) : It → Store → Prop := fun it σ => FL X k ns env target body it ρ σ Q
theorem EVI.of {x : Expr} {Q : It → Store → Prop} (h : EV X k ns env x ρ σ (kITER X k Q)) : EVI X k ns env x ρ σ Q := by
  intro A s Q' E R M e hQ
  refine h A s _ E R M e fun p σ₁ v s₁ h₁ M₁ r₁ t₁ => ?_
  exact h₁ A s₁ v _ E R M₁ r₁ fun it own gown w σ₂ s₂ q M₂ I₂ O₂ f₂ g₂ t₂ sf => hQ it own gown w σ₂ s₂ q M₂ I₂ O₂ (fun b hb => none_of_tr t₁ (f₂ b hb)) (fun g hg => Nat.le_trans t₁.gsize (g₂ g hg)) (t₁.trans t₂) sf

theorem ITER.lst {a : Addr} {xs : List PV} {Q : It → Store → Prop} (h : σ a = some xs) (hq : Q (.lst a 0) σ) : ITER X k (.lst a) σ Q := by
  intro A s v Q' E R M r hQ
  obtain rfl := Rel.lst_inv r
  · skip
    obtain ⟨vs, hp, r⟩ := M.lists _ _ h
    refine wpAny_pyIter_list hp.isList ?_
    obtain ⟨M', t⟩ := step_keep (X := X) (wr := []) (gw := []) (tk := s.toks) M (push_keeps s.heap { cls := .type "list_iterator", data := .fields #[.ref a, .int 0 0] })
    have ho := Heap.get?_push_size s.heap (o := { cls := .type "list_iterator", data := .fields #[.ref a, .int 0 0] }) rfl
    refine hQ (.lst a 0) [s.heap.objs.size] [] _ σ _ hq M' ⟨_, rfl, rfl, rfl, _, ho, rfl, rfl⟩ ⟨fun b hb => ?_⟩ (fun b hb => ?_) (by simp) t (fun A' s' Q'' E'' st hq => wpAny_pyIter_listiter (l := a) (i := 0) ⟨_, st.heap _ (by simp) _ ho, rfl, rfl⟩ hq)
    · rw [List.mem_singleton] at hb; subst hb
      exact ⟨own_fields (s := { s with heap := s.heap.push { cls := .type "list_iterator", data := .fields #[.ref a, .int 0 0] } }) ho rfl rfl (by decide) (by decide) (by decide), M.fresh_base (get_size_none _)⟩
    · rw [List.mem_singleton] at hb; subst hb; exact get_size_none _

theorem ITER.rng {a b c : Int} {n : Nat} {Q : It → Store → Prop} (hsm : Builtin.Range.small a b c = true) (hn : Builtin.Range.rangeSize a b c = n) (hq : Q (.seq ((rngInts a c n).map .int)) σ) : ITER X k (.rng a b c) σ Q := by
  intro A s v Q' E R M r hQ
  obtain ⟨_, _, _, _, rfl, hr⟩ := Rel.rng_inv r
  · skip
    refine wpAny_pyIter_range hr hsm ?_
    rw [hn]
    obtain ⟨M', t⟩ := step_keep (X := X) (wr := []) (gw := []) (tk := s.toks) M (push_keeps s.heap { cls := .type "range_iterator", data := .fields #[rawInt a, rawInt n, rawInt c] })
    have ho := Heap.get?_push_size s.heap (o := { cls := .type "range_iterator", data := .fields #[rawInt a, rawInt n, rawInt c] }) rfl
    have hB := M.fresh_base (get_size_none s.heap)
    refine hQ _ [s.heap.objs.size] [] _ σ _ hq M' ⟨_, rfl, seqP_range hB n a _ ho⟩ ⟨fun b hb => ?_⟩ (fun b hb => ?_) (by simp) t (fun A' s' Q'' E'' st hq => wpAny_pyIter_rangeiter (x := a) (left := (n : Int)) (step := c) (st.heap _ (by simp) _ ho) hq)
    · rw [List.mem_singleton] at hb; subst hb
      exact ⟨own_fields (s := { s with heap := s.heap.push { cls := .type "range_iterator", data := .fields #[rawInt a, rawInt n, rawInt c] } }) ho rfl rfl (by decide) (by decide) (by decide), hB⟩
    · rw [List.mem_singleton] at hb; subst hb; exact get_size_none _

theorem EX1.for {x : Expr} {pos : Pos} (h : EVI X k ns env x ρ σ (kFL X k ns env target body ρ Q))
    (hs : ∀ v, foldedSetIterable x env v = pure v := by intro _; rfl) : EX1 X k ns env (.For target x body [] pos) ρ σ Q := by
  intro A s Q' E R M e hQ
  refine wpAny_For (h A s _ E R M e fun it own gown v σ₁ s₁ q M₁ I₁ O₁ f₁ g₁ t₁ sf₁ => ?_) hs
  have e₁ := e.tr0 M t₁
  have hd : ∀ b ∈ own, b ∉ wrOf env := fun b hb hw => by
    obtain ⟨⟨o, ho, _⟩, _⟩ := e.wr_kind b hw
    rw [f₁ b hb] at ho; cases ho
  refine q A s₁ v own gown _ R M₁ e₁ I₁ O₁ hd fun f ρ' σ' fl s' q' M' e' r' t' => ?_
  refine hQ f ρ' σ' fl s' q' M' e' r' ?_
  refine t₁.upw.since t' (fun b hb => ?_) (fun g hg => .inr (g₁ g hg))
  rcases List.mem_append.mp hb with hb | hb
  · exact .inr (f₁ b hb)
  · exact .inl hb
end


open PySem PySem.W PyProof.Rows PySem.Spec PySem.Calls
set_option maxRecDepth 100000

section
variable {X : Cx} {k : Nat} {σ : Store}

theorem RelL.two {h : Heap} {a b : PV} {vs : List Value} (r : RelL h [a, b] vs) : ∃ v w, vs = [v, w] ∧ Rel h a v ∧ Rel h b w := by
  obtain ⟨v, vs', rfl, r1, r2⟩ := r.inv_cons
  obtain ⟨w, vs'', rfl, r3, r4⟩ := r2.inv_cons
  rw [r4.inv_nil]; exact ⟨v, w, rfl, r1, r3⟩
theorem RelL.one {h : Heap} {a : PV} {vs : List Value} (r : RelL h [a] vs) : ∃ v, vs = [v] ∧ Rel h a v := by
  obtain ⟨v, vs', rfl, r1, r2⟩ := r.inv_cons
  rw [r2.inv_nil]; exact ⟨v, rfl, r1⟩
theorem RelL.ints2 {h : Heap} {a b : Int} {vs : List Value} (r : RelL h [.int a, .int b] vs) : ∃ t u, vs = [.int a t, .int b u] := by
  obtain ⟨v, w, rfl, r1, r2⟩ := r.two; (first | (obtain ⟨_, rfl⟩ := Rel.int_inv r1) | (obtain ⟨_, rfl⟩ := Rel.str_inv r1) | (obtain rfl := Rel.lst_inv r1) | (obtain rfl := Rel.bool_inv r1) | (obtain rfl := Rel.none_inv r1) | (obtain rfl := Rel.raw_inv r1) | cases r1); (first | (obtain ⟨_, rfl⟩ := Rel.int_inv r2) | (obtain ⟨_, rfl⟩ := Rel.str_inv r2) | (obtain rfl := Rel.lst_inv r2) | (obtain rfl := Rel.bool_inv r2) | (obtain rfl := Rel.none_inv r2) | (obtain rfl := Rel.raw_inv r2) | cases r2); exact ⟨_, _, rfl⟩
theorem RelL.strs2 {h : Heap} {a b : Str} {vs : List Value} (r : RelL h [.str a, .str b] vs) : ∃ t u, vs = [.str a t, .str b u] := by
  obtain ⟨v, w, rfl, r1, r2⟩ := r.two; (first | (obtain ⟨_, rfl⟩ := Rel.int_inv r1) | (obtain ⟨_, rfl⟩ := Rel.str_inv r1) | (obtain rfl := Rel.lst_inv r1) | (obtain rfl := Rel.bool_inv r1) | (obtain rfl := Rel.none_inv r1) | (obtain rfl := Rel.raw_inv r1) | cases r1); (first | (obtain ⟨_, rfl⟩ := Rel.int_inv r2) | (obtain ⟨_, rfl⟩ := Rel.str_inv r2) | (obtain rfl := Rel.lst_inv r2) | (obtain rfl := Rel.bool_inv r2) | (obtain rfl := Rel.none_inv r2) | (obtain rfl := Rel.raw_inv r2) | cases r2); exact ⟨_, _, rfl⟩
theorem RelL.three {h : Heap} {a b c : PV} {vs : List Value} (r : RelL h [a, b, c] vs) : ∃ v w u, vs = [v, w, u] ∧ Rel h a v ∧ Rel h b w ∧ Rel h c u := by
  obtain ⟨v, vs', rfl, r1, r2⟩ := r.inv_cons
  obtain ⟨w, u, rfl, r3, r4⟩ := r2.two
  exact ⟨v, w, u, rfl, r1, r3, r4⟩

section
variable {Q : PV → Store → Prop} {a b : Int}

theorem BIN.add (hq : Q (.int (a + b)) σ) : BIN X k .Add (.int a) (.int b) σ Q := by
  intro A s vs Q' E R M r hQ
  obtain ⟨t1, t2, rfl⟩ := r.ints2
  exact add_int (KV.toks hQ M hq fun _ => .int _ _)
theorem BIN.sub (hq : Q (.int (a - b)) σ) : BIN X k .Sub (.int a) (.int b) σ Q := by
  intro A s vs Q' E R M r hQ
  obtain ⟨t1, t2, rfl⟩ := r.ints2
  exact sub_int (KV.toks hQ M hq fun _ => .int _ _)
theorem BIN.mul (hm : IntMulOk a b) (hq : Q (.int (a * b)) σ) : BIN X k .Mult (.int a) (.int b) σ Q := by
  intro A s vs Q' E R M r hQ
  obtain ⟨t1, t2, rfl⟩ := r.ints2
  exact PyProof.Rows.mul_int (KV.toks hQ M hq fun _ => .int _ _) hm
theorem BIN.fdiv (hb : b ≠ 0) (hp : Builtin.divisionGoesByPylong a b = false) (hq : Q (.int (a.fdiv b)) σ) : BIN X k .FloorDiv (.int a) (.int b) σ Q := by
  intro A s vs Q' E R M r hQ
  obtain ⟨t1, t2, rfl⟩ := r.ints2
  exact floordiv_int hb (KV.toks hQ M hq fun _ => .int _ _) (.inl hp)
theorem BIN.mod (hb : b ≠ 0) (hq : Q (.int (a.fmod b)) σ) : BIN X k .Mod (.int a) (.int b) σ Q := by
  intro A s vs Q' E R M r hQ
  obtain ⟨t1, t2, rfl⟩ := r.ints2
  exact mod_int' hb (KV.toks hQ M hq fun _ => .int _ _)
theorem BIN.pow (hn : 0 ≤ b) (hsz : (Builtin.Int.intBits a : Int) * b ≤ 2 ^ 27) (hq : Q (.int (a ^ b.toNat)) σ) : BIN X k .Pow (.int a) (.int b) σ Q := by
  intro A s vs Q' E R M r hQ
  obtain ⟨t1, t2, rfl⟩ := r.ints2
  exact pow_int hn hsz (KV.toks hQ M hq fun _ => .int _ _)
theorem UN.neg (hq : Q (.int (-a)) σ) : UN X k .USub (.int a) σ Q := by
  intro A s vs Q' E R M r hQ
  obtain ⟨v, rfl, r1⟩ := r.one; (first | (obtain ⟨_, rfl⟩ := Rel.int_inv r1) | (obtain ⟨_, rfl⟩ := Rel.str_inv r1) | (obtain rfl := Rel.lst_inv r1) | (obtain rfl := Rel.bool_inv r1) | (obtain rfl := Rel.none_inv r1) | (obtain rfl := Rel.raw_inv r1) | cases r1)
  exact PyProof.Rows.neg_int (KV.toks hQ M hq fun _ => .int _ _)
theorem INP.add (hq : Q (.int (a + b)) σ) : INP X k .Add (.int a) (.int b) σ Q := by
  intro A s vs Q' E R M r hQ
  obtain ⟨t1, t2, rfl⟩ := r.ints2
  exact iadd_int (KV.toks hQ M hq fun _ => .int _ _)
theorem CMP.lt (hq : Q (.bool (decide (a < b))) σ) : CMP X k .Lt (.int a) (.int b) σ Q := by
  intro A s vs Q' E R M r hQ
  obtain ⟨t1, t2, rfl⟩ := r.ints2
  exact lt_int (KV.same hQ M hq (.bool _))
theorem CMP.gt (hq : Q (.bool (decide (b < a))) σ) : CMP X k .Gt (.int a) (.int b) σ Q := by
  intro A s vs Q' E R M r hQ
  obtain ⟨t1, t2, rfl⟩ := r.ints2
  exact gt_int (KV.same hQ M hq (.bool _))
theorem CMP.eq (hq : Q (.bool (a == b)) σ) : CMP X k .Eq (.int a) (.int b) σ Q := by
  intro A s vs Q' E R M r hQ
  obtain ⟨t1, t2, rfl⟩ := r.ints2
  exact eq_int (KV.same hQ M hq (.bool _))
theorem CMP.ne (hq : Q (.bool (a != b)) σ) : CMP X k .NotEq (.int a) (.int b) σ Q := by
  intro A s vs Q' E R M r hQ
  obtain ⟨t1, t2, rfl⟩ := r.ints2
  exact ne_int (KV.same hQ M hq (.bool _))
end

section
variable {Q : PV → Store → Prop} {a b : Str}
theorem CMP.eqS (hq : Q (.bool (a == b)) σ) : CMP X k .Eq (.str a) (.str b) σ Q := by
  intro A s vs Q' E R M r hQ
  obtain ⟨t1, t2, rfl⟩ := r.strs2
  exact PyProof.Rows.eq_str (KV.same hQ M hq (.bool _))
theorem CMP.notInS (hq : Q (.bool (!(!(Builtin.Str.occurrences b a 0 b.length 1).isEmpty))) σ) : CMP X k .NotIn (.str a) (.str b) σ Q := by
  intro A s vs Q' E R M r hQ
  obtain ⟨t1, t2, rfl⟩ := r.strs2
  exact notIn_str (KV.same hQ M hq (.bool _))
theorem BIN.addS (hsz : a.length + b.length ≤ sizeLine) (hq : Q (.str (a ++ b)) σ) : BIN X k .Add (.str a) (.str b) σ Q := by
  intro A s vs Q' E R M r hQ
  obtain ⟨t1, t2, rfl⟩ := r.strs2
  exact PyProof.Rows.add_str (fun t tk => KV.toks hQ M hq fun _ => .str _ _) hsz
end

noncomputable def isNonePV : PV → Bool
  | .none => true
  | _ => false
theorem rel_none {h : Heap} {p : PV} {v : Value} (hp : ∀ v, p ≠ .raw v) (r : Rel h p v) : (v == Value.none) = isNonePV p := by
  cases r <;> first | rfl | exact absurd rfl (hp _)

section
variable {Q : PV → Store → Prop} {p : PV}
theorem CMP.isNone (hp : ∀ v, p ≠ .raw v) (hq : Q (.bool (isNonePV p)) σ) : CMP X k .Is p .none σ Q := by
  intro A s vs Q' E R M r hQ
  obtain ⟨v, w, rfl, r1, r2⟩ := r.two; (first | (obtain ⟨_, rfl⟩ := Rel.int_inv r2) | (obtain ⟨_, rfl⟩ := Rel.str_inv r2) | (obtain rfl := Rel.lst_inv r2) | (obtain rfl := Rel.bool_inv r2) | (obtain rfl := Rel.none_inv r2) | (obtain rfl := Rel.raw_inv r2) | cases r2)
  refine is_none ?_
  rw [rel_none hp r1]; exact KV.same hQ M hq (.bool _)
theorem CMP.isNotBool {a b : Bool} (hq : Q (.bool (a != b)) σ) : CMP X k .IsNot (.bool a) (.bool b) σ Q := by
  intro A s vs Q' E R M r hQ
  obtain ⟨v, w, rfl, r1, r2⟩ := r.two; (first | (obtain ⟨_, rfl⟩ := Rel.int_inv r1) | (obtain ⟨_, rfl⟩ := Rel.str_inv r1) | (obtain rfl := Rel.lst_inv r1) | (obtain rfl := Rel.bool_inv r1) | (obtain rfl := Rel.none_inv r1) | (obtain rfl := Rel.raw_inv r1) | cases r1); (first | (obtain ⟨_, rfl⟩ := Rel.int_inv r2) | (obtain ⟨_, rfl⟩ := Rel.str_inv r2) | (obtain rfl := Rel.lst_inv r2) | (obtain rfl := Rel.bool_inv r2) | (obtain rfl := Rel.none_inv r2) | (obtain rfl := Rel.raw_inv r2) | cases r2)
  refine wpAny_isNot_plain rfl ?_
  have : (!(Value.bool a == Value.bool b)) = (a != b) := by cases a <;> cases b <;> rfl
  rw [this]; exact KV.same hQ M hq (.bool _)
end

section
variable {Q : Bool → Store → Prop}
theorem TRU.bool {b : Bool} (hq : Q b σ) : TRU X k (.bool b) σ Q := by
  intro A s vs Q' E R M r hQ
  obtain ⟨v, rfl, r1⟩ := r.one; (first | (obtain ⟨_, rfl⟩ := Rel.int_inv r1) | (obtain ⟨_, rfl⟩ := Rel.str_inv r1) | (obtain rfl := Rel.lst_inv r1) | (obtain rfl := Rel.bool_inv r1) | (obtain rfl := Rel.none_inv r1) | (obtain rfl := Rel.raw_inv r1) | cases r1)
  exact wpAny_truthy_bool (hQ _ _ _ hq M Tr.refl)
theorem TRU.int {b : Int} (hq : Q (b != 0) σ) : TRU X k (.int b) σ Q := by
  intro A s vs Q' E R M r hQ
  obtain ⟨v, rfl, r1⟩ := r.one; (first | (obtain ⟨_, rfl⟩ := Rel.int_inv r1) | (obtain ⟨_, rfl⟩ := Rel.str_inv r1) | (obtain rfl := Rel.lst_inv r1) | (obtain rfl := Rel.bool_inv r1) | (obtain rfl := Rel.none_inv r1) | (obtain rfl := Rel.raw_inv r1) | cases r1)
  exact PyProof.Rows.truthy_int (hQ _ _ _ hq M Tr.refl)
theorem TRU.str {b : Str} (hfit : (b.length : Int) < 2 ^ 63) (hq : Q ((b.length : Int) != 0) σ) : TRU X k (.str b) σ Q := by
  intro A s vs Q' E R M r hQ
  obtain ⟨v, rfl, r1⟩ := r.one; (first | (obtain ⟨_, rfl⟩ := Rel.int_inv r1) | (obtain ⟨_, rfl⟩ := Rel.str_inv r1) | (obtain rfl := Rel.lst_inv r1) | (obtain rfl := Rel.bool_inv r1) | (obtain rfl := Rel.none_inv r1) | (obtain rfl := Rel.raw_inv r1) | cases r1)
  exact P.truthy_str (by (first | lia | omega)) (hQ _ _ _ hq M.toks Tr.toks)
end

noncomputable abbrev kNotP (Q : PV → Store → Prop) : Bool → Store → Prop := fun b σ => Q (.bool (!b)) σ
section
variable {Q : PV → Store → Prop} {a b : Addr} {xs ys : List PV}
end

theorem setItem_plain {prog : Program} {w : World} {A : Around} {E : Value → Shared → Prop} {s : Shared} {l : Addr} {items : Array Value} {i : Int} {t : Tok} {v : Value} {Q : Unit → Shared → Prop} (hl : s.heap.PlainList l items)
    (h0 : 0 ≤ i) (hfit : i < 2 ^ 63) (hn : i < items.size)
    (hQ : ∀ h', h'.PlainList l (items.setIfInBounds i.toNat v) → Heap.SameBut l s.heap h' → Q () { s with heap := h' }) :
    wpAny (model prog w) A (setItem (.ref l) (.int i t) v) Q E s := by
  obtain ⟨n, ho⟩ := hl
  have hT : s.TypeIs (.ref l) "list" := ⟨_, ho, rfl⟩
  unfold setItem
  try with_reducible refine wpAny_holding ?_
  first | refine wpAny_bind (wpAny_pure ?_) | skip
  refine wpAny_bind (wpAny_sequenceKey hT (by decide) ?_)
  refine wpAny_bind (wpAny_callSpecial?_slot (name := Str.ofString "__setitem__") hT slot_list_setitem
    (wpAny_call_entry slot_list_setitem hT entry_list_setitem ?_ (args_list_setitem _ _ _)))
  show wpAny _ _ (Builtin.List.listSubscript? (.int i t) >>= _) _ _ s
  refine wpAny_bind (wpAny_listSubscript_int (fitsIndex_of h0 hfit) ?_)
  clear hfit
  obtain ⟨j, rfl⟩ := Int.eq_ofNat_of_zero_le h0
  have hj : j < items.size := by (first | lia | omega)
  have hx' : items[j]? = some items[j] := Array.getElem?_eq_getElem hj
  show wpAny _ _ ((seqItemAt l j >>= fun r => pure (r.map (j, ·))) >>= _) _ _ s
  refine wpAny_bind (wpAny_bind (wpAny_seqItemAt ho rfl (wpAny_pure ?_)))
  rw [hx']
  show wpAny _ _ (setSeqItemAt l j v >>= _) _ _ s
  have fin : (s.heap.update l (Obj.mapSeq (·.setIfInBounds j v))).PlainList l (items.setIfInBounds j v) := ⟨_, IsL.update (show IsL s.heap l items n from ho) (·.setIfInBounds j v)⟩
  refine wpAny_bind (wpAny_setSeqItemAt ho rfl ?_)
  first
    | exact wpAny_bind (wpAny_pure (wpAny_pure ⟨.none, rfl, wpAny_pure (hQ _ fin (Heap.SameBut.update ..))⟩))
    | exact wpAny_pure ⟨.none, rfl, wpAny_pure (hQ _ fin (Heap.SameBut.update ..))⟩

noncomputable def callT (f : Value) (vs : List Value) : Sem Value := call f vs
noncomputable abbrev CB (X : Cx) (k : Nat) (f : Value) (args : List PV) (σ : Store) (Q : PV → Store → Prop) : Prop := VV X k args (callT f) σ Q

section
variable {Q : PV → Store → Prop} {a b : Addr} {xs ys : List PV}

theorem CB.append {p : PV} (ha : σ a = some xs) (hsz : xs.length ≤ sizeLine) (hq : Q .none (Store.set σ a (xs ++ [p]))) : CB X k (.builtin "list.append") [.lst a, p] σ Q := by
  intro A s vs Q' E R M r hQ
  obtain ⟨v, w, rfl, r1, r2⟩ := r.two; (first | (obtain ⟨_, rfl⟩ := Rel.int_inv r1) | (obtain ⟨_, rfl⟩ := Rel.str_inv r1) | (obtain rfl := Rel.lst_inv r1) | (obtain rfl := Rel.bool_inv r1) | (obtain rfl := Rel.none_inv r1) | (obtain rfl := Rel.raw_inv r1) | cases r1)
  obtain ⟨us, hp, ru⟩ := M.lists _ _ ha
  refine wpAny_list_append_plain hp (fun h' hp' hs => ?_) (by simpa [← ru.1] using hsz)
  have e : us.toArray.push w = (us ++ [w]).toArray := by simp
  rw [e] at hp'
  exact KV.setList (tk := s.toks) hQ M ha hs.extBut hp' (ru.append (.cons r2 .nil)) .none hq

theorem insert_eq (us : List Value) (w : Value) (i : Nat) : ((us.toArray.extract 0 (min i us.length)).push w ++ us.toArray.extract (min i us.length)) = (us.take i ++ [w] ++ us.drop i).toArray := by
  have e1 : us.take (min i us.length) = us.take i := by
    by_cases h : i ≤ us.length
    · rw [Nat.min_eq_left h]
    · rw [Nat.min_eq_right (by (first | lia | omega)), List.take_of_length_le (by (first | lia | omega)), List.take_of_length_le (by (first | lia | omega))]
  have e2 : us.drop (min i us.length) = us.drop i := by
    by_cases h : i ≤ us.length
    · rw [Nat.min_eq_left h]
    · rw [Nat.min_eq_right (by (first | lia | omega)), List.drop_of_length_le (by (first | lia | omega)), List.drop_of_length_le (by (first | lia | omega))]
  apply Array.ext'
  simp only [Array.toList_append, Array.toList_push, Array.toList_extract, List.extract_eq_take_drop, Nat.sub_zero, List.drop_zero, e1, e2, List.size_toArray]
  rw [List.take_of_length_le (l := us.drop i) (by rw [List.length_drop]; first | exact Nat.sub_le_sub_left (Nat.min_le_left _ _) _ | (first | lia | omega))]

theorem CB.insert {p : PV} {i : Int} (ha : σ a = some xs) (h0 : 0 ≤ i) (hi : i < 2 ^ 62) (hsz : xs.length ≤ sizeLine) (hq : Q .none (Store.set σ a (xs.take i.toNat ++ [p] ++ xs.drop i.toNat))) : CB X k (.builtin "list.insert") [.lst a, .int i, p] σ Q := by
  intro A s vs Q' E R M r hQ
  obtain ⟨v, w, u, rfl, r1, r2, r3⟩ := r.three; (first | (obtain ⟨_, rfl⟩ := Rel.int_inv r1) | (obtain ⟨_, rfl⟩ := Rel.str_inv r1) | (obtain rfl := Rel.lst_inv r1) | (obtain rfl := Rel.bool_inv r1) | (obtain rfl := Rel.none_inv r1) | (obtain rfl := Rel.raw_inv r1) | cases r1); (first | (obtain ⟨_, rfl⟩ := Rel.int_inv r2) | (obtain ⟨_, rfl⟩ := Rel.str_inv r2) | (obtain rfl := Rel.lst_inv r2) | (obtain rfl := Rel.bool_inv r2) | (obtain rfl := Rel.none_inv r2) | (obtain rfl := Rel.raw_inv r2) | cases r2)
  rename_i t
  obtain ⟨us, ⟨n, hp⟩, ru⟩ := M.lists _ _ ha
  have hfit : Builtin.List.listFitsIndex i = true := by
    unfold Builtin.List.listFitsIndex
    simp only [Bool.and_eq_true, decide_eq_true_eq]
    (first | lia | omega)
  refine call_meets F.slot_list_insert ⟨_, hp, rfl⟩ F.entry_list_insert (F.args_list_insert_3 _ _ _) (AutoSeq1.list_insert_list_int_val_1 a us.toArray n i t u (by rw [hfit]; simp) (by simpa [← ru.1] using hsz)) ⟨hp, ?_⟩
  have e : ((fun xs : Array Value => have k := if i < 0 then (i + (xs.size : Int)).toNat else min i.toNat xs.size; (xs.extract 0 k).push u ++ xs.extract k) us.toArray) = (us.take i.toNat ++ [u] ++ us.drop i.toNat).toArray := by
    show (have k := if i < 0 then (i + (us.toArray.size : Int)).toNat else min i.toNat us.toArray.size; (us.toArray.extract 0 k).push u ++ us.toArray.extract k) = _
    rw [if_neg (by (first | lia | omega))]
    rw [← insert_eq us u i.toNat]
    simp
  have hu : ∀ z, ((fun xs : Array Value => have k := if i < 0 then (i + (xs.size : Int)).toNat else min i.toNat xs.size; (xs.extract 0 k).push u ++ xs.extract k) us.toArray) = z →
      ∃ m, IsL (s.heap.update a (Obj.mapSeq fun xs => have k := if i < 0 then (i + (xs.size : Int)).toNat else min i.toNat xs.size; (xs.extract 0 k).push u ++ xs.extract k)) a z m :=
    fun z hz => by subst hz; exact ⟨_, IsL.update (show IsL s.heap a us.toArray n from hp) _⟩
  exact KV.setList (tk := s.toks) hQ M ha (Heap.SameBut.update ..).extBut (hu _ e) (((ru.take i.toNat).append (.cons r3 .nil)).append (ru.drop i.toNat)) .none hq

theorem CB.lenL (ha : σ a = some xs) (hfit : xs.length ≤ 1000000) (hq : Q (.int xs.length) σ) : CB X k (.builtin "len") [.lst a] σ Q := by
  intro A s vs Q' E R M r hQ
  obtain ⟨v, rfl, r1⟩ := r.one; (first | (obtain ⟨_, rfl⟩ := Rel.int_inv r1) | (obtain ⟨_, rfl⟩ := Rel.str_inv r1) | (obtain rfl := Rel.lst_inv r1) | (obtain rfl := Rel.bool_inv r1) | (obtain rfl := Rel.none_inv r1) | (obtain rfl := Rel.raw_inv r1) | cases r1)
  obtain ⟨us, ⟨n, hp⟩, ru⟩ := M.lists _ _ ha
  have hl : s.heap.IsList a us.toArray := ⟨_, hp, rfl, n, rfl⟩
  have e : us.toArray.size = xs.length := by simp [ru.1]
  refine PyProof.Rows.len_list hl (by rw [e]; (first | lia | omega)) ?_
  rw [e]
  exact KV.toks hQ M hq fun _ => .int _ _
theorem CB.lenS {x : Str} (hfit : (x.length : Int) < 2 ^ 62) (hq : Q (.int x.length) σ) : CB X k (.builtin "len") [.str x] σ Q := by
  intro A s vs Q' E R M r hQ
  obtain ⟨v, rfl, r1⟩ := r.one; (first | (obtain ⟨_, rfl⟩ := Rel.int_inv r1) | (obtain ⟨_, rfl⟩ := Rel.str_inv r1) | (obtain rfl := Rel.lst_inv r1) | (obtain rfl := Rel.bool_inv r1) | (obtain rfl := Rel.none_inv r1) | (obtain rfl := Rel.raw_inv r1) | cases r1)
  exact PyProof.Rows.len_str (by (first | lia | omega)) (KV.toks hQ M hq fun _ => .int _ _)

theorem GETI.lst {i : Int} {p : PV} (ha : σ a = some xs) (h0 : 0 ≤ i) (hi : i < 2 ^ 62) (hx : xs[i.toNat]? = some p) (hq : Q p σ) : GETI X k (.lst a) (.int i) σ Q := by
  intro A s vs Q' E R M r hQ
  obtain ⟨v, w, rfl, r1, r2⟩ := r.two; (first | (obtain ⟨_, rfl⟩ := Rel.int_inv r1) | (obtain ⟨_, rfl⟩ := Rel.str_inv r1) | (obtain rfl := Rel.lst_inv r1) | (obtain rfl := Rel.bool_inv r1) | (obtain rfl := Rel.none_inv r1) | (obtain rfl := Rel.raw_inv r1) | cases r1); (first | (obtain ⟨_, rfl⟩ := Rel.int_inv r2) | (obtain ⟨_, rfl⟩ := Rel.str_inv r2) | (obtain rfl := Rel.lst_inv r2) | (obtain rfl := Rel.bool_inv r2) | (obtain rfl := Rel.none_inv r2) | (obtain rfl := Rel.raw_inv r2) | cases r2)
  obtain ⟨us, hp, ru⟩ := M.lists _ _ ha
  obtain ⟨u, hu, r⟩ := ru.get hx
  exact wpAny_getItem_list hp.isList h0 (by (first | lia | omega)) (x := u) (by simpa using hu) (KV.same hQ M hq r)
theorem SETI.lst {i : Int} {p : PV} {Q : Store → Prop} (ha : σ a = some xs) (h0 : 0 ≤ i) (hi : i < 2 ^ 62) (hx : i < xs.length) (hq : Q (Store.set σ a (xs.set i.toNat p))) : SETI X k (.lst a) (.int i) p σ Q := by
  intro A s vs Q' E R M r hQ
  obtain ⟨v, w, u, rfl, r1, r2, r3⟩ := r.three; (first | (obtain ⟨_, rfl⟩ := Rel.int_inv r1) | (obtain ⟨_, rfl⟩ := Rel.str_inv r1) | (obtain rfl := Rel.lst_inv r1) | (obtain rfl := Rel.bool_inv r1) | (obtain rfl := Rel.none_inv r1) | (obtain rfl := Rel.raw_inv r1) | cases r1); (first | (obtain ⟨_, rfl⟩ := Rel.int_inv r2) | (obtain ⟨_, rfl⟩ := Rel.str_inv r2) | (obtain rfl := Rel.lst_inv r2) | (obtain rfl := Rel.bool_inv r2) | (obtain rfl := Rel.none_inv r2) | (obtain rfl := Rel.raw_inv r2) | cases r2)
  rename_i t
  obtain ⟨us, hp, ru⟩ := M.lists _ _ ha
  have rl : RelL s.heap (xs.set i.toNat p) (us.set i.toNat u) := by
    refine ⟨by simp [ru.1], fun m x v hx hv => ?_⟩
    rw [List.getElem?_set] at hx hv
    by_cases hm : i.toNat = m
    · subst hm
      rw [if_pos rfl] at hx hv
      split at hx
      · rename_i h1
        rw [if_pos (ru.1 ▸ h1)] at hv
        cases hx; cases hv; exact r3
      · cases hx
    · rw [if_neg hm] at hx hv
      exact ru.2 m x v hx hv
  refine wpAny_bind (setItem_plain hp h0 (by (first | lia | omega)) (by simpa [← ru.1] using hx) fun h' hp' hs => wpAny_pure ?_)
  exact KV.setList (tk := s.toks) hQ M ha hs.extBut (by simpa using hp') rl .none hq
end
end


open PySem PySem.W PyProof.Rows PySem.Spec PySem.Calls
set_option maxRecDepth 100000

noncomputable def S (l : List Nat) : Str := ⟨l.toArray⟩
theorem S_len (l : List Nat) : (S l).length = l.length := by simp [S, Str.length]
theorem S_cps (l : List Nat) : (S l).cps = l.toArray := rfl
theorem S_append (a b : List Nat) : S a ++ S b = S (a ++ b) := by
  show Str.append (S a) (S b) = S (a ++ b)
  simp [Str.append, S]
theorem S_inj {a b : List Nat} (h : S a = S b) : a = b := by
  have := congrArg (fun s : Str => s.cps.toList) h
  simpa [S] using this
theorem S_beq (a b : List Nat) : (S a == S b) = (a == b) := by
  rw [Bool.eq_iff_iff]
  simp only [beq_iff_eq]
  exact ⟨S_inj, fun h => by rw [h]⟩
noncomputable def pickIdx (lo hi st : Option Int) (n : Nat) : List Nat := sliceRange (sliceBounds lo hi st n).1 (sliceBounds lo hi st n).2.1 (sliceBounds lo hi st n).2.2
noncomputable def pickL {α : Type} (xs : List α) (lo hi st : Option Int) : List α := (pickIdx lo hi st xs.length).filterMap (xs[·]?)
noncomputable def cut {α : Type} (xs : List α) (lo hi : Option Int) : List α :=
  (xs.drop (lo.elim 0 (clipAt xs.length))).take (hi.elim xs.length (clipAt xs.length) - lo.elim 0 (clipAt xs.length))

theorem relL_pick {h : Heap} {xs : List PV} {vs : List Value} (r : RelL h xs vs) (l : List Nat) : RelL h (l.filterMap (xs[·]?)) (l.filterMap (vs[·]?)) := by
  induction l with
  | nil => exact .nil
  | cons i l ih =>
    rw [List.filterMap_cons, List.filterMap_cons]
    cases hx : xs[i]? with
    | none =>
      have : vs[i]? = none := by rw [List.getElem?_eq_none_iff] at hx ⊢; rw [← r.1]; exact hx
      rw [this]; exact ih
    | some x =>
      obtain ⟨v, hv, rv⟩ := r.get hx
      rw [hv]; exact .cons rv ih

theorem pickL_plain {α : Type} (xs : List α) (lo hi : Option Int) : pickL xs lo hi none = cut xs lo hi := by
  unfold pickL pickIdx cut
  rw [sliceBounds_plain]
  simp only [sliceRange_one]
  have := pick_run xs.toArray
  simpa using this (lo.elim 0 (clipAt xs.length)) (hi.elim xs.length (clipAt xs.length) - lo.elim 0 (clipAt xs.length))

section
variable {X : Cx} {k : Nat} {σ : Store}

noncomputable def partPV : PV → Option (Option Int)
  | .none => some none
  | .int i => some (some i)
  | _ => none
theorem isPart_of {h : Heap} {p : PV} {v : Value} {o : Option Int} (hp : partPV p = some o) (r : Rel h p v) : IsPart v o := by
  cases r with
  | none => have hp : some none = some o := hp; cases hp; exact .none
  | int i t => have hp : some (some i) = some o := hp; cases hp; exact .int _ _
  | _ => have hp : none = some o := hp; cases hp

noncomputable def sliT : List Value → Sem Value
  | [o, l, u, st] => do let i ← newFields "slice" [l, u, st]; getItem o i
  | _ => unsupported ""
noncomputable abbrev SLI (X : Cx) (k : Nat) (o l u st : PV) (σ : Store) (Q : PV → Store → Prop) : Prop := VV X k [o, l, u, st] sliT σ Q

section
variable {Q : PV → Store → Prop}

theorem RelL.four {h : Heap} {a b c d : PV} {vs : List Value} (r : RelL h [a, b, c, d] vs) : ∃ v w u z, vs = [v, w, u, z] ∧ Rel h a v ∧ Rel h b w ∧ Rel h c u ∧ Rel h d z := by
  obtain ⟨v, vs', rfl, r1, r2⟩ := r.inv_cons
  obtain ⟨w, u, z, rfl, r3, r4, r5⟩ := r2.three
  exact ⟨v, w, u, z, rfl, r1, r3, r4, r5⟩

theorem SLI.lst {a : Addr} {xs : List PV} {l u st : PV} {lo hi sp : Option Int} (ha : σ a = some xs) (hl : partPV l = some lo) (hu : partPV u = some hi) (hs : partPV st = some sp) (h0 : sp ≠ some 0) (hsz : xs.length ≤ sizeLine)
    (hq : ∀ c, σ c = .none → Q (.lst c) (Store.set σ c (pickL xs lo hi sp))) : SLI X k (.lst a) l u st σ Q := by
  intro A s vs Q' E R M r hQ
  obtain ⟨v, w, y, z, rfl, r1, r2, r3, r4⟩ := r.four; (first | (obtain ⟨_, rfl⟩ := Rel.int_inv r1) | (obtain ⟨_, rfl⟩ := Rel.str_inv r1) | (obtain rfl := Rel.lst_inv r1) | (obtain rfl := Rel.bool_inv r1) | (obtain rfl := Rel.none_inv r1) | (obtain rfl := Rel.raw_inv r1) | cases r1)
  obtain ⟨us, hp, ru⟩ := M.lists _ _ ha
  refine wpAny_bind (wpAny_newObj_type ?_ (by size_fits))
  refine wpAny_getItem_list_slice (hp.isList.push _) (Heap.IsSliceOf.new s.heap w y z) (isPart_of hl r2) (isPart_of hu r3) (isPart_of hs r4) h0 ?_ (by simpa [← ru.1] using hsz)
  have e : slicePick us.toArray lo hi sp = ((pickIdx lo hi sp xs.length).filterMap (us[·]?)).toArray := by
    unfold slicePick pickIdx
    simp [ru.1]
  rw [e]
  obtain ⟨M', t⟩ := step_keep (X := X) (wr := []) (gw := []) (tk := s.toks) M (push_keeps s.heap { cls := .type "slice", data := .fields #[w, y, z] })
  obtain ⟨M'', t'⟩ := step_newList (X := X) (wr := []) (gw := []) (tk := s.toks) M' (push_keeps _ _) (get_size_none _) (push_plain _ _) (relL_pick (ru.tr0 M t) (pickIdx lo hi sp xs.length))
  exact hQ _ _ _ _ (hq _ (M'.fresh_list (get_size_none _))) M'' (.lst _) (t.trans t')

theorem partTok {h : Heap} {p : PV} {v : Value} {o : Option Int} (hp : partPV p = some o) (r : Rel h p v) : ∃ q : Option (Int × Tok), v = partValue q ∧ q.map (·.1) = o := by
  cases r with
  | none => have hp : some none = some o := hp; cases hp; exact ⟨none, rfl, rfl⟩
  | int i t => have hp : some (some i) = some o := hp; cases hp; exact ⟨some (i, t), rfl, rfl⟩
  | _ => have hp : none = some o := hp; cases hp

theorem strIdx (lo hi : Option Int) (n : Nat) : Builtin.Str.strSliceIndices lo hi 1 n = (List.range ((hi.elim n (clipAt n)) - (lo.elim 0 (clipAt n)))).map ((lo.elim 0 (clipAt n)) + ·) := by
  rw [← sliceRange_one]
  have e := sliceBounds_plain lo hi n
  have h1 := congrArg Prod.fst e
  have h2 := congrArg (fun x => x.2.1) e
  simp only at h1 h2
  rw [← h1, ← h2]
  unfold Builtin.Str.strSliceIndices sliceBounds
  simp only [Option.getD_none]
  rfl

theorem SLI.str {x : List Nat} {l u : PV} {lo hi : Option Int} (hl : partPV l = some lo) (hu : partPV u = some hi) (hsz : x.length ≤ sizeLine)
    (hq : Q (.str (S (cut x lo hi))) σ) : SLI X k (.str (S x)) l u .none σ Q := by
  intro A s vs Q' E R M r hQ
  obtain ⟨v, w, y, z, rfl, r1, r2, r3, r4⟩ := r.four; (first | (obtain ⟨_, rfl⟩ := Rel.int_inv r1) | (obtain ⟨_, rfl⟩ := Rel.str_inv r1) | (obtain rfl := Rel.lst_inv r1) | (obtain rfl := Rel.bool_inv r1) | (obtain rfl := Rel.none_inv r1) | (obtain rfl := Rel.raw_inv r1) | cases r1); (first | (obtain ⟨_, rfl⟩ := Rel.int_inv r4) | (obtain ⟨_, rfl⟩ := Rel.str_inv r4) | (obtain rfl := Rel.lst_inv r4) | (obtain rfl := Rel.bool_inv r4) | (obtain rfl := Rel.none_inv r4) | (obtain rfl := Rel.raw_inv r4) | cases r4)
  rename_i t
  obtain ⟨ql, rfl, el⟩ := partTok hl r2
  obtain ⟨qu, rfl, eu⟩ := partTok hu r3
  refine wpAny_bind (wpAny_newObj_type ?_ (by size_fits))
  refine wpAny_getItem_str_slice (l := ql) (u := qu) (st := none) ⟨_, Heap.get?_push_size _ rfl, rfl, rfl⟩ rfl ?_
  obtain ⟨M', tr⟩ := step_keep (X := X) (wr := []) (gw := []) (tk := s.toks) M (push_keeps s.heap { cls := .type "slice", data := .fields #[partValue ql, partValue qu, .none] })
  have epick : slicePicked (S x) ql qu none = (List.range ((hi.elim x.length (clipAt x.length)) - (lo.elim 0 (clipAt x.length)))).map ((lo.elim 0 (clipAt x.length)) + ·) := by
    unfold slicePicked
    rw [el, eu, S_len]
    exact strIdx lo hi x.length
  have efm : (slicePicked (S x) ql qu none).filterMap ((S x).cps[·]?) = cut x lo hi := by
    rw [epick]
    have := pick_run x.toArray (lo.elim 0 (clipAt x.length)) (hi.elim x.length (clipAt x.length) - lo.elim 0 (clipAt x.length))
    simpa [S, cut] using this
  unfold sliceMade
  split
  · rename_i hc
    have hlen : (slicePicked (S x) ql qu none).length = x.length := by
      simp only [Bool.and_eq_true, beq_iff_eq] at hc
      rw [hc.2, S_len]
    have : cut x lo hi = x := by
      rw [epick] at hlen
      simp only [List.length_map, List.length_range] at hlen
      have hb : hi.elim x.length (clipAt x.length) ≤ x.length := by
        cases hi with
        | none => exact Nat.le_refl _
        | some i =>
          exact Int.toNat_le.mpr (Int.max_le.mpr ⟨Int.natCast_nonneg _, Int.min_le_right _ _⟩)
      unfold cut
      by_cases hz : x.length = 0
      · have : x = [] := List.eq_nil_of_length_eq_zero hz
        subst this; simp
      · have h0 : lo.elim 0 (clipAt x.length) = 0 := by (first | lia | omega)
        have h2 : hi.elim x.length (clipAt x.length) - 0 = x.length := by rw [h0] at hlen; exact hlen
        rw [h0, h2]
        simp
    rw [this] at hq
    exact hQ _ _ _ _ hq M' (.str _ _) tr
  · rw [efm]
    refine ⟨?_, hQ _ _ _ _ hq M'.toks (.str _ _) (tr.trans Tr.toks)⟩
    show (S (cut x lo hi)).length ≤ sizeLine
    rw [S_len]
    unfold cut
    rw [List.length_take, List.length_drop]
    first | exact Nat.le_trans (Nat.min_le_right _ _) (Nat.le_trans (Nat.sub_le _ _) (by assumption)) | (first | lia | omega)

theorem GETI.tup {xs : List PV} {i : Nat} {p : PV} (hi : i < 2 ^ 62) (hx : xs[i]? = some p) (hq : Q p σ) : GETI X k (.tup xs) (.int i) σ Q := by
  intro A s vs Q' E R M r hQ
  obtain ⟨v, w, rfl, r1, r2⟩ := r.two; (first | (obtain ⟨_, rfl⟩ := Rel.int_inv r2) | (obtain ⟨_, rfl⟩ := Rel.str_inv r2) | (obtain rfl := Rel.lst_inv r2) | (obtain rfl := Rel.bool_inv r2) | (obtain rfl := Rel.none_inv r2) | (obtain rfl := Rel.raw_inv r2) | cases r2)
  obtain ⟨a, us, rfl, ha, hl, hv⟩ := Rel.tup_inv r1
  · skip
    have ru : RelL s.heap xs us := ⟨hl, hv⟩
    obtain ⟨u, hu, r⟩ := ru.get hx
    have hlt : i < us.length := (List.getElem?_eq_some_iff.mp hu).1
    refine getItem_tuple (items := us.toArray) (j := i) ⟨_, ha, rfl, _, rfl⟩ (by (first | lia | omega)) (by (first | lia | omega)) ?_ (by simpa using hu) (KV.same hQ M hq r)
    have hn : ¬ ((i : Int) < 0) := Int.not_lt.mpr (Int.natCast_nonneg i)
    unfold seqIndex?
    rw [if_neg hn]
    rw [if_pos (by rw [Bool.and_eq_true]; exact ⟨decide_eq_true (Int.natCast_nonneg i), decide_eq_true (Int.ofNat_lt.mpr (by simpa using hlt))⟩)]; rfl

theorem GETI.str {x : List Nat} {i : Int} {c : Nat} (hi : -2 ^ 62 < i ∧ i < 2 ^ 62) (hx : (seqIndex? i x.length).bind (x[·]?) = some c) (hq : Q (.str (S [c])) σ) : GETI X k (.str (S x)) (.int i) σ Q := by
  intro A s vs Q' E R M r hQ
  obtain ⟨v, w, rfl, r1, r2⟩ := r.two; (first | (obtain ⟨_, rfl⟩ := Rel.int_inv r1) | (obtain ⟨_, rfl⟩ := Rel.str_inv r1) | (obtain rfl := Rel.lst_inv r1) | (obtain rfl := Rel.bool_inv r1) | (obtain rfl := Rel.none_inv r1) | (obtain rfl := Rel.raw_inv r1) | cases r1); (first | (obtain ⟨_, rfl⟩ := Rel.int_inv r2) | (obtain ⟨_, rfl⟩ := Rel.str_inv r2) | (obtain rfl := Rel.lst_inv r2) | (obtain rfl := Rel.bool_inv r2) | (obtain rfl := Rel.none_inv r2) | (obtain rfl := Rel.raw_inv r2) | cases r2)
  refine PyProof.Rows.getItem_str (c := c) (by simp; (first | lia | omega)) ?_ (KV.toks hQ M hq fun _ => .str _ _)
  rw [S_len]
  simpa [S] using hx

theorem mul_S (x : List Nat) (n : Nat) : Txt.mul (S x) (n : Int) = S ((List.replicate n x).flatten) := by
  have key : ∀ (m : Nat) (acc : Array Nat), (List.replicate m x.toArray).foldl (· ++ ·) acc = acc ++ ((List.replicate m x).flatten).toArray := by
    intro m
    induction m with
    | zero => intro acc; simp
    | succ m ih =>
      intro acc
      rw [List.replicate_succ, List.foldl_cons, ih, List.replicate_succ, List.flatten_cons]
      simp
  unfold Txt.mul
  by_cases h1 : (n : Int) < 1
  · have : n = 0 := by (first | lia | omega)
    subst this
    rw [if_pos h1]; simp [S, Str.empty]
  · rw [if_neg h1]
    split
    · rename_i h2
      simp only [Bool.or_eq_true, beq_iff_eq] at h2
      rcases h2 with h2 | h2
      · have : n = 1 := by (first | lia | omega)
        subst this; simp
      · rw [S_len] at h2
        have : x = [] := List.eq_nil_of_length_eq_zero h2
        subst this; simp
    · rw [Int.toNat_natCast, S_cps, key]
      simp [S]

theorem BIN.mulS {x : List Nat} {n : Nat} (hn : n ≤ 1000) (hx : x.length ≤ 1000) (hq : Q (.str (S ((List.replicate n x).flatten))) σ) : BIN X k .Mult (.str (S x)) (.int n) σ Q := by
  intro A s vs Q' E R M r hQ
  obtain ⟨v, w, rfl, r1, r2⟩ := r.two; (first | (obtain ⟨_, rfl⟩ := Rel.int_inv r1) | (obtain ⟨_, rfl⟩ := Rel.str_inv r1) | (obtain rfl := Rel.lst_inv r1) | (obtain rfl := Rel.bool_inv r1) | (obtain rfl := Rel.none_inv r1) | (obtain rfl := Rel.raw_inv r1) | cases r1); (first | (obtain ⟨_, rfl⟩ := Rel.int_inv r2) | (obtain ⟨_, rfl⟩ := Rel.str_inv r2) | (obtain rfl := Rel.lst_inv r2) | (obtain rfl := Rel.bool_inv r2) | (obtain rfl := Rel.none_inv r2) | (obtain rfl := Rel.raw_inv r2) | cases r2)
  refine SB.mul ⟨by simp; (first | lia | omega), fun h1 _ => ?_, fun h1 _ => ?_⟩ fun t tk => ?_
  · rw [S_len]
    have h3 : x.length * n ≤ 1000 * 1000 := Nat.mul_le_mul hx hn
    have h2 : (x.length : Int) ≤ (2 ^ 63 - 1) / n := Int.le_ediv_of_mul_le (by (first | lia | omega)) (by (first | lia | omega))
    (first | lia | omega)
  · have h3 : x.length * n ≤ 1000 * 1000 := Nat.mul_le_mul hx hn
    rw [S_len]
    unfold Builtin.Str.tooLong
    rw [sizeLine_eq]
    simp
    (first | lia | omega)
  · rw [mul_S]
    exact KV.toks hQ M hq fun _ => .str _ _

theorem CB.lower {x y : List Nat} (hy : Txt.lower (S x) = S y) (hsz : y.length ≤ sizeLine) (hq : Q (.str (S y)) σ) : CB X k (.builtin "str.lower") [.str (S x)] σ Q := by
  intro A s vs Q' E R M r hQ
  obtain ⟨v, rfl, r1⟩ := r.one; (first | (obtain ⟨_, rfl⟩ := Rel.int_inv r1) | (obtain ⟨_, rfl⟩ := Rel.str_inv r1) | (obtain rfl := Rel.lst_inv r1) | (obtain rfl := Rel.bool_inv r1) | (obtain rfl := Rel.none_inv r1) | (obtain rfl := Rel.raw_inv r1) | cases r1)
  refine SC.lower ?_ ?_
  · rw [hy, S_len]
    unfold Builtin.Str.tooLong
    simpa using hsz
  · rw [hy]; exact KV.toks hQ M hq fun _ => .str _ _

theorem foldl_len (sep : Str) (l : List (List Nat)) (n : Nat) : (l.map S).foldl (fun a b => a + b.length + sep.length) n = n + (l.map fun x => x.length + sep.length).sum := by
  induction l generalizing n with
  | nil => simp
  | cons x l ih => rw [List.map_cons, List.foldl_cons, ih, List.map_cons, List.sum_cons, S_len]; (first | lia | omega)

theorem glued_S (l : List (List Nat)) : Builtin.Str.glued (S []) (l.map S) = S l.flatten := by
  have key : ∀ (l : List (List Nat)) (acc : Array Nat), (l.map S).foldl (fun acc p => acc ++ (S []).cps ++ p.cps) acc = acc ++ l.flatten.toArray := by
    intro l
    induction l with
    | nil => intro acc; simp
    | cons x l ih =>
      intro acc
      rw [List.map_cons, List.foldl_cons, ih, List.flatten_cons]
      simp [S]
  unfold Builtin.Str.glued
  cases l with
  | nil => rfl
  | cons x l =>
    rw [List.map_cons, List.drop_succ_cons, List.drop_zero, List.headD_cons, key]
    simp [S]

theorem strs_of {h : Heap} : ∀ {l : List (List Nat)} {us : List Value}, RelL h (l.map fun x => .str (S x)) us → ∃ ts : List (Str × Tok), us = strValues ts ∧ ts.map (·.1) = l.map S
  | [], us, ru => by rw [RelL.inv_nil ru]; exact ⟨[], rfl, rfl⟩
  | x :: l, us, ru => by
    obtain ⟨v, us', rfl, r1, r2⟩ := RelL.inv_cons ru
    (first | (obtain ⟨_, rfl⟩ := Rel.int_inv r1) | (obtain ⟨_, rfl⟩ := Rel.str_inv r1) | (obtain rfl := Rel.lst_inv r1) | (obtain rfl := Rel.bool_inv r1) | (obtain rfl := Rel.none_inv r1) | (obtain rfl := Rel.raw_inv r1) | cases r1)
    rename_i t'
    obtain ⟨ts, rfl, e⟩ := strs_of r2
    exact ⟨(S x, t') :: ts, rfl, by simp [e]⟩

theorem CB.join {a : Addr} {l : List (List Nat)} (ha : σ a = some (l.map fun x => .str (S x))) (hsz : l.flatten.length ≤ sizeLine) (hq : Q (.str (S l.flatten)) σ) : CB X k (.builtin "str.join") [.str (S []), .lst a] σ Q := by
  intro A s vs Q' E R M r hQ
  obtain ⟨v, w, rfl, r1, r2⟩ := r.two; (first | (obtain ⟨_, rfl⟩ := Rel.int_inv r1) | (obtain ⟨_, rfl⟩ := Rel.str_inv r1) | (obtain rfl := Rel.lst_inv r1) | (obtain rfl := Rel.bool_inv r1) | (obtain rfl := Rel.none_inv r1) | (obtain rfl := Rel.raw_inv r1) | cases r1); (first | (obtain ⟨_, rfl⟩ := Rel.int_inv r2) | (obtain ⟨_, rfl⟩ := Rel.str_inv r2) | (obtain rfl := Rel.lst_inv r2) | (obtain rfl := Rel.bool_inv r2) | (obtain rfl := Rel.none_inv r2) | (obtain rfl := Rel.raw_inv r2) | cases r2)
  rename_i t
  obtain ⟨us, hp, ru⟩ := M.lists _ _ ha
  obtain ⟨ts, rfl, e⟩ := strs_of ru
  refine call_meets F.slot_str_join (typeIs_str s _ t) F.entry_str_join (F.args_str_join_2 _ _) (meets_str_join_list (S []) t a ts ?_) ⟨hp.isList, ?_⟩
  · rw [e]
    have e1 : (l.map S).toArray.foldl (fun a b => a + b.length + (S []).length) 0 = (l.map S).foldl (fun a b => a + b.length + (S []).length) 0 := by simp
    rw [e1, foldl_len]
    have e2 : (l.map fun x => x.length + (S []).length).sum = l.flatten.length := by
      rw [List.length_flatten]
      simp [S, Str.length]
    rw [e2]
    unfold Builtin.Str.tooLong
    simpa using hsz
  · unfold joinMade
    split
    · rename_i p
      cases l with
      | nil => simp at e
      | cons x l =>
        cases l with
        | cons y l => simp at e
        | nil =>
          simp at e
          simp only [List.flatten_cons, List.flatten_nil, List.append_nil] at hq
          rw [e]
          exact KV.same hQ M hq (.str _ _)
    · rw [e, glued_S]
      refine ⟨?_, KV.toks hQ M hq fun _ => .str _ _⟩
      rw [S_len]; exact hsz
end
end


open PySem PySem.W PyProof.Rows PySem.Spec PySem.Calls
set_option maxRecDepth 100000

section
variable {X : Cx} {k : Nat} {σ : Store} {Q : PV → Store → Prop}

theorem CB.range1 {n : Int} (hq : Q (.rng 0 n 1) σ) : CB X k (.type "range") [.int n] σ Q := by
  intro A s vs Q' E R M r hQ
  obtain ⟨v, rfl, r1⟩ := r.one; (first | (obtain ⟨_, rfl⟩ := Rel.int_inv r1) | (obtain ⟨_, rfl⟩ := Rel.str_inv r1) | (obtain rfl := Rel.lst_inv r1) | (obtain rfl := Rel.bool_inv r1) | (obtain rfl := Rel.none_inv r1) | (obtain rfl := Rel.raw_inv r1) | cases r1)
  refine call_range_1 ?_
  exact KV.keep (tk := s.toks + 1 + 1) hQ M (push_keeps _ _) (.rng (Heap.get?_push_size _ rfl)) hq
theorem CB.range3 {a b c : Int} (hc : c ≠ 0) (hp : Builtin.divisionGoesByPylong (b - a) c = false) (hq : Q (.rng a b c) σ) : CB X k (.type "range") [.int a, .int b, .int c] σ Q := by
  intro A s vs Q' E R M r hQ
  obtain ⟨v, w, u, rfl, r1, r2, r3⟩ := r.three; (first | (obtain ⟨_, rfl⟩ := Rel.int_inv r1) | (obtain ⟨_, rfl⟩ := Rel.str_inv r1) | (obtain rfl := Rel.lst_inv r1) | (obtain rfl := Rel.bool_inv r1) | (obtain rfl := Rel.none_inv r1) | (obtain rfl := Rel.raw_inv r1) | cases r1); (first | (obtain ⟨_, rfl⟩ := Rel.int_inv r2) | (obtain ⟨_, rfl⟩ := Rel.str_inv r2) | (obtain rfl := Rel.lst_inv r2) | (obtain rfl := Rel.bool_inv r2) | (obtain rfl := Rel.none_inv r2) | (obtain rfl := Rel.raw_inv r2) | cases r2); (first | (obtain ⟨_, rfl⟩ := Rel.int_inv r3) | (obtain ⟨_, rfl⟩ := Rel.str_inv r3) | (obtain rfl := Rel.lst_inv r3) | (obtain rfl := Rel.bool_inv r3) | (obtain rfl := Rel.none_inv r3) | (obtain rfl := Rel.raw_inv r3) | cases r3)
  refine call_range_3 hc ?_ (.inl hp)
  exact KV.keep (tk := s.toks) hQ M (push_keeps _ _) (.rng (Heap.get?_push_size _ rfl)) hq

theorem CB.listRange {a b c : Int} {n : Nat} (hsm : Builtin.Range.small a b c = true) (hn : Builtin.Range.rangeSize a b c = n) (hle : n ≤ 2 ^ 24)
    (hq : ∀ l, σ l = .none → Q (.lst l) (Store.set σ l ((List.range n).map fun (i : Nat) => .int (a + (i : Int) * c)))) : CB X k (.type "list") [.rng a b c] σ Q := by
  intro A s vs Q' E R M r hQ
  obtain ⟨v, rfl, r1⟩ := r.one
  obtain ⟨_, _, _, _, rfl, hr⟩ := Rel.rng_inv r1
  · skip
    refine call_list_range R.handled hr hsm hn hle fun h' tk acc c' hk hl hi => ?_
    refine KV.newList hQ M (xs := (List.range n).map fun (i : Nat) => .int (a + (i : Int) * c)) (vs := acc.toList) hk (get_size_none _) ⟨c', by simpa using hl⟩ ⟨by simp [← hi.1], fun i x v hx hv => ?_⟩ (hq _ (M.fresh_list (get_size_none _)))
    rw [List.getElem?_map] at hx
    cases hr : (List.range n)[i]? with
    | none => rw [hr] at hx; cases hx
    | some j =>
      rw [hr] at hx
      cases hx
      have : j = i := by
        rw [List.getElem?_range] at hr
        · cases hr; rfl
        · have := (List.getElem?_eq_some_iff.mp hr).1; simpa using this
      subst this
      obtain ⟨t, rfl⟩ := hi.2 j v (by simpa using hv)
      exact .int _ _

theorem CB.min2 {a b : Int} (hq : Q (.int (if b < a then b else a)) σ) : CB X k (.builtin "min") [.int a, .int b] σ Q := by
  intro A s vs Q' E R M r hQ
  obtain ⟨v, w, rfl, r1, r2⟩ := r.two; (first | (obtain ⟨_, rfl⟩ := Rel.int_inv r1) | (obtain ⟨_, rfl⟩ := Rel.str_inv r1) | (obtain rfl := Rel.lst_inv r1) | (obtain rfl := Rel.bool_inv r1) | (obtain rfl := Rel.none_inv r1) | (obtain rfl := Rel.raw_inv r1) | cases r1); (first | (obtain ⟨_, rfl⟩ := Rel.int_inv r2) | (obtain ⟨_, rfl⟩ := Rel.str_inv r2) | (obtain rfl := Rel.lst_inv r2) | (obtain rfl := Rel.bool_inv r2) | (obtain rfl := Rel.none_inv r2) | (obtain rfl := Rel.raw_inv r2) | cases r2)
  refine min_two_ints R.handled fun h' tk hk => ?_
  split
  · rename_i h; rw [if_pos h] at hq; exact KV.keep hQ M hk (.int _ _) hq
  · rename_i h; rw [if_neg h] at hq; exact KV.keep hQ M hk (.int _ _) hq
theorem CB.int {a : Int} (hq : Q (.int a) σ) : CB X k (.type "int") [.int a] σ Q := by
  intro A s vs Q' E R M r hQ
  obtain ⟨v, rfl, r1⟩ := r.one; (first | (obtain ⟨_, rfl⟩ := Rel.int_inv r1) | (obtain ⟨_, rfl⟩ := Rel.str_inv r1) | (obtain rfl := Rel.lst_inv r1) | (obtain rfl := Rel.bool_inv r1) | (obtain rfl := Rel.none_inv r1) | (obtain rfl := Rel.raw_inv r1) | cases r1)
  exact call_int_int (KV.same hQ M hq (.int _ _))

theorem mul_list_wp {prog : Program} {w : World} {A : Around} {E : Value → Shared → Prop} {s : Shared} {l : Addr} {items : Array Value} {m : Nat} {x : Int} {u : Tok} {Q : Value → Shared → Prop}
    (hl : s.heap.get? l = some { cls := .type "list", dict := none, data := .seq items m, slots := #[] })
    (hlo : -(2 ^ 63 : Int) ≤ x) (hhi : x < 2 ^ 63) (hsz : items.size * x.toNat ≤ 2 ^ 24)
    (h : Q (.ref s.heap.objs.size) { s with heap := s.heap.push { cls := .type "list", data := .seq (List.foldl (fun x1 x2 => x1 ++ x2) #[] (List.replicate (if items.isEmpty = true then 0 else x.toNat) items)) } }) :
    wpAny (model prog w) A (binaryOp .Mult (.ref l) (.int x u)) Q E s :=
  wpAny_binaryOp_repeat_ref (T := "list") (U := "int") (by decide) ⟨_, hl, rfl⟩ (fun s' => typeIs_int s' x u) noFill_list_mul F.fills_int_mul F.slot_int_rmul repeat_list F.slot_int_index.lookup
    (call_meets F.slot_int_rmul (typeIs_int s x u) F.entry_int_rmul (F.args_int_rmul_2 _ _) (int___rmul___int_list x u l items m)
      ⟨hl, rfl, ⟨_, hl, rfl⟩, call_meets F.slot_list_mul ⟨_, hl, rfl⟩ F.entry_list_mul (F.args_list_mul_2 _ _)
        (AutoListH.list___mul___list_int_3 l items m x u (by simp [Builtin.List.listFitsIndex]; (first | lia | omega)) (by (first | lia | omega)) (by simp [Builtin.List.listTooLong, sizeLine]; (first | lia | omega)))
        ⟨hl, h⟩⟩)

theorem BIN.mulL {a : Addr} {xs : List PV} {n : Nat} (ha : σ a = some xs) (hn : n ≤ 1000) (hx : xs.length ≤ 1000) (hq : ∀ c, σ c = .none → Q (.lst c) (Store.set σ c ((List.replicate n xs).flatten))) : BIN X k .Mult (.lst a) (.int n) σ Q := by
  intro A s vs Q' E R M r hQ
  obtain ⟨v, w, rfl, r1, r2⟩ := r.two; (first | (obtain ⟨_, rfl⟩ := Rel.int_inv r1) | (obtain ⟨_, rfl⟩ := Rel.str_inv r1) | (obtain rfl := Rel.lst_inv r1) | (obtain rfl := Rel.bool_inv r1) | (obtain rfl := Rel.none_inv r1) | (obtain rfl := Rel.raw_inv r1) | cases r1); (first | (obtain ⟨_, rfl⟩ := Rel.int_inv r2) | (obtain ⟨_, rfl⟩ := Rel.str_inv r2) | (obtain rfl := Rel.lst_inv r2) | (obtain rfl := Rel.bool_inv r2) | (obtain rfl := Rel.none_inv r2) | (obtain rfl := Rel.raw_inv r2) | cases r2)
  rename_i t
  obtain ⟨us, ⟨m, hl⟩, ru⟩ := M.lists _ _ ha
  have hsz : us.length * n ≤ 1000 * 1000 := Nat.mul_le_mul (ru.1 ▸ hx) hn
  have key : ∀ (m : Nat) (acc : Array Value), (List.replicate m us.toArray).foldl (fun x1 x2 => x1 ++ x2) acc = acc ++ ((List.replicate m us).flatten).toArray := by
    intro m
    induction m with
    | zero => intro acc; simp
    | succ m ih =>
      intro acc
      rw [List.replicate_succ, List.foldl_cons, ih, List.replicate_succ, List.flatten_cons]
      simp
  have e : List.foldl (fun x1 x2 => x1 ++ x2) #[] (List.replicate (if us.toArray.isEmpty = true then 0 else (n : Int).toNat) us.toArray) = ((List.replicate n us).flatten).toArray := by
    rw [key]
    split
    · rename_i h
      have : us = [] := by simpa using h
      subst this; simp
    · simp
  have rr : ∀ m : Nat, RelL s.heap ((List.replicate m xs).flatten) ((List.replicate m us).flatten) := by
    intro m
    induction m with
    | zero => exact .nil
    | succ m ih => rw [List.replicate_succ, List.replicate_succ, List.flatten_cons, List.flatten_cons]; exact ru.append ih
  have fin : Q' (.ref s.heap.objs.size) { s with heap := s.heap.push { cls := .type "list", data := .seq (List.foldl (fun x1 x2 => x1 ++ x2) #[] (List.replicate (if us.toArray.isEmpty = true then 0 else (n : Int).toNat) us.toArray)) } } := by
    rw [e]
    exact KV.newList hQ M (tk := s.toks) (push_keeps s.heap _) (get_size_none _) (push_plain _ _) (rr n) (hq _ (M.fresh_list (get_size_none _)))
  exact mul_list_wp hl (by (first | lia | omega)) (by (first | lia | omega)) (by simp; (first | lia | omega)) fin

theorem iadd_lookup : typeLookup (.type "list") (dunderI "add") = pure (some (.builtin "list.__iadd__")) := F.slot_list_iadd.lookup

theorem INP.addL {a b : Addr} {xs ys : List PV} (hab : a ≠ b) (ha : σ a = some xs) (hb : σ b = some ys) (hsz : xs.length + ys.length ≤ 10000) (hq : Q (.lst a) (Store.set σ a (xs ++ ys))) : INP X k .Add (.lst a) (.lst b) σ Q := by
  intro A s vs Q' E R M r hQ
  obtain ⟨v, w, rfl, r1, r2⟩ := r.two; (first | (obtain ⟨_, rfl⟩ := Rel.int_inv r1) | (obtain ⟨_, rfl⟩ := Rel.str_inv r1) | (obtain rfl := Rel.lst_inv r1) | (obtain rfl := Rel.bool_inv r1) | (obtain rfl := Rel.none_inv r1) | (obtain rfl := Rel.raw_inv r1) | cases r1); (first | (obtain ⟨_, rfl⟩ := Rel.int_inv r2) | (obtain ⟨_, rfl⟩ := Rel.str_inv r2) | (obtain rfl := Rel.lst_inv r2) | (obtain rfl := Rel.bool_inv r2) | (obtain rfl := Rel.none_inv r2) | (obtain rfl := Rel.raw_inv r2) | cases r2)
  obtain ⟨us, ⟨n, hp⟩, ru⟩ := M.lists _ _ ha
  obtain ⟨ws, ⟨m, hp'⟩, rw'⟩ := M.lists _ _ hb
  have hT : s.TypeIs (.ref a) "list" := ⟨_, hp, rfl⟩
  have hT' : s.TypeIs (.ref b) "list" := ⟨_, hp', rfl⟩
  show wpAny _ A (inplaceOp .Add (.ref a) (.ref b)) Q' E s
  unfold inplaceOp
  refine wpAny_holding ?_
  have hfi : fillsInplaceSlot (.type "list") "add" (Operator.Add == .Add) = pure false := by
    unfold fillsInplaceSlot
    show (typeLookup (.type "list") (dunderI "add") >>= fun fi => pure (fi.isSome && !isSeqSlot fi)) = pure false
    rw [iadd_lookup]
    kernel_rfl
  have hsi : seqSlot? (.type "list") (dunderI "add") = pure (some (.builtin "list.__iadd__")) := by
    unfold seqSlot?
    rw [iadd_lookup]
    kernel_rfl
  refine wpAny_bind (wpAny_typeOf hT (wpAny_bind (wpAny_of_eq hfi ?_)))
  show wpAny _ A (if false = true then _ else _) Q' E s
  rw [if_neg Bool.false_ne_true]
  refine wpAny_bind (wpAny_binaryOp1_none (nm := "add") hT hT' noFill_list_add ?_)
  refine wpAny_bind (wpAny_of_eq hsi ?_)
  refine wpAny_bind (wpAny_rule ?_)
  have h1 : us.length + ws.length ≤ 10000 := by rw [← ru.1, ← rw'.1]; exact hsz
  refine call_meets F.slot_list_iadd hT F.entry_list_iadd (F.args_list_iadd_2 _ _) (AutoSeq1.list___iadd___list_list_0 a us.toArray n b ws.toArray m (by simp [Builtin.List.listTooLong, sizeLine]; (first | lia | omega)) (by simp [sizeLine]; (first | lia | omega)) (by simp [sizeLine]; (first | lia | omega))) ⟨hp, hp', ?_⟩
  have hu := IsL.update (show IsL s.heap a us.toArray n from hp) (· ++ ws.toArray)
  have e : us.toArray ++ ws.toArray = (us ++ ws).toArray := by simp
  exact KV.setList (tk := s.toks) hQ M ha (Heap.SameBut.update ..).extBut ⟨_, e ▸ hu⟩ (ru.append rw') (.lst _) hq

theorem presum_eq (is : List Int) : ∀ n, n ≤ is.length → preSum (fun i => is.getD i 0) n = (is.take n).sum := by
  intro n
  induction n with
  | zero => intro _; simp [preSum]
  | succ n ih =>
    intro h
    rw [preSum, ih (by (first | lia | omega))]
    rw [List.take_add_one, List.sum_append]
    have : is[n]? = some (is.getD n 0) := by rw [List.getD_eq_getElem?_getD, List.getElem?_eq_getElem (by (first | lia | omega))]; rfl
    rw [this]; simp

theorem CB.sum {a : Addr} {is : List Int} (ha : σ a = some (is.map .int)) (hq : Q (.int is.sum) σ) : CB X k (.builtin "sum") [.lst a] σ Q := by
  intro A s vs Q' E R M r hQ
  obtain ⟨v, rfl, r1⟩ := r.one; (first | (obtain ⟨_, rfl⟩ := Rel.int_inv r1) | (obtain ⟨_, rfl⟩ := Rel.str_inv r1) | (obtain rfl := Rel.lst_inv r1) | (obtain rfl := Rel.bool_inv r1) | (obtain rfl := Rel.none_inv r1) | (obtain rfl := Rel.raw_inv r1) | cases r1)
  obtain ⟨us, hp, ru⟩ := M.lists _ _ ha
  refine call_sum_walkAnyS (wpAny_pyIter_list hp.isList ?_)
  have hne : a ≠ s.heap.objs.size := fun q => by obtain ⟨n, e⟩ := hp; exact absurd (Heap.lt_size e) (by rw [q]; exact Nat.lt_irrefl _)
  have ho := Heap.get?_push_size s.heap (o := { cls := .type "list_iterator", data := .fields #[.ref a, .int 0 0] }) rfl
  refine ⟨s.heap.objs.size, _, _, _, us.toArray.size, _, _, fun i => is.getD i 0, rfl, (Walks.list (A := A.in1) R.handled s.heap.objs.size a hne us.toArray).toS, ⟨⟨_, ho, rfl, rfl⟩, hp.isList.push _⟩, ?_, ?_, ?_⟩
  · intro b hb
    simp only [List.mem_cons, List.not_mem_nil, or_false] at hb
    show b < (s.heap.push _).objs.size
    rw [Heap.size_push]
    rcases hb with rfl | rfl
    · exact Nat.lt_succ_self _
    · obtain ⟨n, e⟩ := hp; exact Nat.lt_succ_of_lt (Heap.lt_size e)
  · intro i v hv
    have hv' : us[i]? = some v := by simpa using hv
    have hi : i < (is.map PV.int).length := by rw [ru.1]; exact (List.getElem?_eq_some_iff.mp hv').1
    have hx : (is.map PV.int)[i]? = some (.int (is.getD i 0)) := by
      rw [List.getElem?_map]
      have : i < is.length := by simpa using hi
      rw [List.getElem?_eq_getElem this, List.getD_eq_getElem?_getD, List.getElem?_eq_getElem this]; rfl
    have := ru.2 i _ v hx hv'
    cases this
    exact ⟨_, rfl⟩
  · intro s' t' mv
    have hl : us.toArray.size = is.length := by have := ru.1; simp at this; simp [← this]
    rw [hl, presum_eq is _ (Nat.le_refl _), List.take_length]
    have hk : ∀ b o, s.heap.get? b = some o → s'.heap.get? b = some o := fun b o e => mv.heap b o (by
      simp only [List.mem_singleton]; exact Nat.ne_of_lt (Heap.lt_size e)) (push_keeps _ _ b o e)
    obtain ⟨hp', gs, dr, tk, os⟩ := s'
    have e1 : gs = s.gens := mv.gens
    have e2 : dr = s.drawn := mv.drawn
    have e3 : os = s.os := mv.os
    subst e1 e2 e3
    exact KV.keep (tk := tk) hQ M hk (.int _ _) hq
end


open PySem PySem.W PyProof.Rows PySem.Spec PySem.Calls
set_option maxRecDepth 100000

inductive TY (σ : Store) : PV → String → Prop
  | lst {a : Addr} {xs : List PV} (h : σ a = some xs) : TY σ (.lst a) "list"
  | str {x : Str} : TY σ (.str x) "str"
  | tup {xs : List PV} : TY σ (.tup xs) "tuple"

section
variable {X : Cx} {k : Nat} {ns gs : List Str} {env : Env} {ρ : List (Option PV)} {σ : Store} {Q : PV → Store → Prop}

theorem TY.is {s : Shared} {p : PV} {v : Value} {T : String} (t : TY σ p T) (M : Match X σ s) (r : Rel s.heap p v) : s.TypeIs v T := by
  cases t with
  | lst h =>
    (first | (obtain ⟨_, rfl⟩ := Rel.int_inv r) | (obtain ⟨_, rfl⟩ := Rel.str_inv r) | (obtain rfl := Rel.lst_inv r) | (obtain rfl := Rel.bool_inv r) | (obtain rfl := Rel.none_inv r) | (obtain rfl := Rel.raw_inv r) | cases r)
    obtain ⟨vs, ⟨n, e⟩, _⟩ := M.lists _ _ h
    exact ⟨_, e, rfl⟩
  | str => (first | (obtain ⟨_, rfl⟩ := Rel.int_inv r) | (obtain ⟨_, rfl⟩ := Rel.str_inv r) | (obtain rfl := Rel.lst_inv r) | (obtain rfl := Rel.bool_inv r) | (obtain rfl := Rel.none_inv r) | (obtain rfl := Rel.raw_inv r) | cases r); exact typeIs_str s _ _
  | tup =>
    cases r with
    | tup ha _ _ => exact ⟨_, ha, rfl⟩
theorem TY.item {p : PV} {T : String} (t : TY σ p T) : ∃ id, typeLookup (.type T) "__getitem__" = pure (some (.builtin id)) := by
  cases t
  · exact ⟨_, slot_list_getitem.lookup⟩
  · exact ⟨_, F.slot_str_getitem.lookup⟩
  · exact ⟨_, slot_tuple_getitem.lookup⟩

noncomputable abbrev kGET (X : Cx) (k : Nat) (Q : PV → Store → Prop) : PV → PV → Store → Prop := fun o i σ => (∃ T, TY σ o T) ∧ GETI X k o i σ Q
noncomputable abbrev kGETC (X : Cx) (k : Nat) (x : Str) (Q : PV → Store → Prop) : PV → Store → Prop := fun i σ => GETI X k (.str x) i σ Q
noncomputable abbrev kMeth' (X : Cx) (k : Nat) (id : String) (Q : PV → Store → Prop) (ov : PV) : List PV → Store → Prop := fun as σ => CB X k (.builtin id) (ov :: as) σ Q
noncomputable abbrev kMeth (X : Cx) (k : Nat) (ns : List Str) (env : Env) (pos : Pos) (args : List Expr) (ρ : List (Option PV)) (T id : String) (Q : PV → Store → Prop) : PV → Store → Prop := fun ov σ => TY σ ov T ∧ EVS X k ns env pos args ρ σ (kMeth' X k id Q ov)
noncomputable abbrev kCB (X : Cx) (k : Nat) (f : Value) (Q : PV → Store → Prop) : List PV → Store → Prop := fun as σ => CB X k f as σ Q
theorem EV.subI {value slice : Expr} {pos : Pos} (h : EV X k ns env value ρ σ (kEV X k ns env slice ρ (kGET X k Q)))
    (hs : ∀ o i, subscripted slice false o i = operate [o, i] (getItem o i) := by intro _ _; rfl) (ht : ∀ o r, letTemporaryGo value o r = pure () := by intro _ _; rfl) : EV X k ns env (.Subscript value slice pos) ρ σ Q := by
  intro A s Q' E R M e hQ
  refine Subscript_ (h A s _ E R M e fun o σ₁ v₁ s₁ h₁ M₁ r₁ t₁ => ?_)
  refine h₁ A s₁ _ E R M₁ (e.tr0 M t₁) fun i σ₂ v₂ s₂ h₂ M₂ r₂ t₂ => ?_
  obtain ⟨⟨T, ty⟩, h₂⟩ := h₂
  have r₁' := r₁.tr0 M₁ t₂
  obtain ⟨id, hl⟩ := ty.item
  refine subscriptTail_builtin (ty.is M₂ r₁') hl ?_ (hs _ _) (ht _)
  exact h₂ A s₂ [v₁, v₂] Q' E R M₂ (.cons r₁' (.cons r₂ .nil)) fun p σ₃ v₃ s₃ q M₃ r₃ t₃ => hQ p σ₃ v₃ s₃ q M₃ r₃ ((t₁.trans t₂).trans t₃)

theorem EV.subC {x : Str} {kk : Nat} {cp : Pos} {slice : Expr} {pos : Pos} (h : EV X k ns env slice ρ σ (kGETC X k x Q))
    (hs : ∀ o i, subscripted slice false o i = operate [o, i] (getItem o i) := by intro _ _; rfl) : EV X k ns env (.Subscript (.Constant (.str x) kk cp) slice pos) ρ σ Q := by
  intro A s Q' E R M e hQ
  refine Subscript_ (wpAny_Constant_str ?_)
  refine h A _ _ E R M.toks e fun i σ₂ v₂ s₂ h₂ M₂ r₂ t₂ => ?_
  refine subscriptTail_builtin (typeIs_str _ _ _) F.slot_str_getitem.lookup ?_ (hs _ _) (by intro r; rfl)
  exact h₂ A s₂ [_, v₂] Q' E R M₂ (.cons (.str _ _) (.cons r₂ .nil)) fun p σ₃ v₃ s₃ q M₃ r₃ t₃ => hQ p σ₃ v₃ s₃ q M₃ r₃ ((Tr.toks.trans t₂).trans t₃)

noncomputable def EVO (X : Cx) (k : Nat) (ns : List Str) (env : Env) (e : Option Expr) (ρ : List (Option PV)) (σ : Store) (Q : PV → Store → Prop) : Prop := TV X k ns env (evalPart e env) ρ σ Q
theorem EVO.none (hq : Q .none σ) : EVO X k ns env none ρ σ Q := fun A s Q' E R M e hQ => wpAny_pure (hQ _ _ _ _ hq M .none Tr.refl)
theorem EVO.some {x : Expr} (h : EV X k ns env x ρ σ Q) : EVO X k ns env (some x) ρ σ Q := h

noncomputable abbrev kSl4 (X : Cx) (k : Nat) (T : String) (Q : PV → Store → Prop) (o l u : PV) : PV → Store → Prop := fun z σ => TY σ o T ∧ SLI X k o l u z σ Q
noncomputable abbrev kSl3 (X : Cx) (k : Nat) (ns : List Str) (env : Env) (st : Option Expr) (T : String) (ρ : List (Option PV)) (Q : PV → Store → Prop) (o l : PV) : PV → Store → Prop := fun u σ => EVO X k ns env st ρ σ (kSl4 X k T Q o l u)
noncomputable abbrev kSl2 (X : Cx) (k : Nat) (ns : List Str) (env : Env) (up st : Option Expr) (T : String) (ρ : List (Option PV)) (Q : PV → Store → Prop) (o : PV) : PV → Store → Prop := fun l σ => EVO X k ns env up ρ σ (kSl3 X k ns env st T ρ Q o l)
noncomputable abbrev kSl1 (X : Cx) (k : Nat) (ns : List Str) (env : Env) (lo up st : Option Expr) (T : String) (ρ : List (Option PV)) (Q : PV → Store → Prop) : PV → Store → Prop := fun o σ => EVO X k ns env lo ρ σ (kSl2 X k ns env up st T ρ Q o)
theorem slice_use {M : Model} {A : Around} {s : Shared} {o l u st : Value} {Q' : Value → Shared → Prop} {E : Value → Shared → Prop} (h : wpAny M A (sliT [o, l, u, st]) Q' E s) :
    wpAny M A (getItem o (.ref s.heap.objs.size)) Q' E { s with heap := s.heap.push { cls := .type "slice", data := .fields #[l, u, st] } } := by
  intro Γ p hΓ
  have h0 : wpAny M A (newFields "slice" [l, u, st] >>= fun i => getItem o i) Q' E s := h
  have h' := h0 Γ p hΓ
  rw [Sem.wp_bind'] at h'
  have e : newFields "slice" [l, u, st] = (do let a ← alloc { cls := .type "slice", data := .fields #[l, u, st] }; pure (.ref a)) := by
    simp only [newFields, newObj, newObjAsIs]
    rfl
  rw [e] at h'
  simp only [Sem.wp_bind', Sem.wp_cmd_alloc, Sem.wp_pure'] at h'
  exact h'

theorem EV.sliceL {value : Expr} {lo up : Option Expr} {p pos : Pos}
    (h : EV X k ns env value ρ σ (kSl1 X k ns env lo up Option.none "list" ρ Q))
    (ht : ∀ o r, letTemporaryGo value o r = pure () := by intro _ _; rfl) : EV X k ns env (.Subscript value (.Slice lo up Option.none p) pos) ρ σ Q := by
  intro A s Q' E R M e hQ
  refine wpAny_Subscript_Slice (T := "list") slot_list_getitem.lookup (h A s _ E R M e fun o σ₁ v₁ s₁ h₁ M₁ r₁ t₁ => ?_) ht
  refine wpAny_Slice ?_
  refine h₁ A s₁ _ E R M₁ (e.tr0 M t₁) fun l σ₂ v₂ s₂ h₂ M₂ r₂ t₂ => ?_
  refine h₂ A s₂ _ E R M₂ ((e.tr0 M t₁).tr0 M₁ t₂) fun u σ₃ v₃ s₃ h₃ M₃ r₃ t₃ => ?_
  refine h₃ A s₃ _ E R M₃ (((e.tr0 M t₁).tr0 M₁ t₂).tr0 M₂ t₃) fun z σ₄ v₄ s₄ h₄ M₄ r₄ t₄ => ?_
  obtain ⟨ty, h₄⟩ := h₄
  have ro := ((r₁.tr0 M₁ t₂).tr0 M₂ t₃).tr0 M₃ t₄
  have rl := (r₂.tr0 M₂ t₃).tr0 M₃ t₄
  have ru := r₃.tr0 M₃ t₄
  refine ⟨?_, slice_use (h₄ A s₄ [v₁, v₂, v₃, v₄] Q' E R M₄ (.cons ro (.cons rl (.cons ru (.cons r₄ .nil)))) fun q σ₅ v₅ s₅ hq M₅ r₅ t₅ => hQ q σ₅ v₅ s₅ hq M₅ r₅ ((((t₁.trans t₂).trans t₃).trans t₄).trans t₅))⟩
  obtain ⟨M', t⟩ := step_keep (X := X) (wr := []) (gw := []) (tk := s₄.toks) M₄ (push_keeps s₄.heap { cls := .type "slice", data := .fields #[v₂, v₃, v₄] })
  exact ty.is M' (ro.tr0 M₄ t)

theorem EV.sliceL3 {value : Expr} {lo up : Option Expr} {st : Expr} {p pos : Pos}
    (h : EV X k ns env value ρ σ (kSl1 X k ns env lo up (some st) "list" ρ Q))
    (ht : ∀ o r, letTemporaryGo value o r = pure () := by intro _ _; rfl) : EV X k ns env (.Subscript value (.Slice lo up (some st) p) pos) ρ σ Q := by
  intro A s Q' E R M e hQ
  refine wpAny_Subscript_Slice_step (T := "list") slot_list_getitem.lookup (h A s _ E R M e fun o σ₁ v₁ s₁ h₁ M₁ r₁ t₁ => ?_) ht
  refine wpAny_Slice ?_
  refine h₁ A s₁ _ E R M₁ (e.tr0 M t₁) fun l σ₂ v₂ s₂ h₂ M₂ r₂ t₂ => ?_
  refine h₂ A s₂ _ E R M₂ ((e.tr0 M t₁).tr0 M₁ t₂) fun u σ₃ v₃ s₃ h₃ M₃ r₃ t₃ => ?_
  refine h₃ A s₃ _ E R M₃ (((e.tr0 M t₁).tr0 M₁ t₂).tr0 M₂ t₃) fun z σ₄ v₄ s₄ h₄ M₄ r₄ t₄ => ?_
  obtain ⟨ty, h₄⟩ := h₄
  have ro := ((r₁.tr0 M₁ t₂).tr0 M₂ t₃).tr0 M₃ t₄
  have rl := (r₂.tr0 M₂ t₃).tr0 M₃ t₄
  have ru := r₃.tr0 M₃ t₄
  refine ⟨?_, slice_use (h₄ A s₄ [v₁, v₂, v₃, v₄] Q' E R M₄ (.cons ro (.cons rl (.cons ru (.cons r₄ .nil)))) fun q σ₅ v₅ s₅ hq M₅ r₅ t₅ => hQ q σ₅ v₅ s₅ hq M₅ r₅ ((((t₁.trans t₂).trans t₃).trans t₄).trans t₅))⟩
  obtain ⟨M', t⟩ := step_keep (X := X) (wr := []) (gw := []) (tk := s₄.toks) M₄ (push_keeps s₄.heap { cls := .type "slice", data := .fields #[v₂, v₃, v₄] })
  exact ty.is M' (ro.tr0 M₄ t)

theorem EV.sliceS {value : Expr} {lo up : Option Expr} {p pos : Pos}
    (h : EV X k ns env value ρ σ (kSl1 X k ns env lo up Option.none "str" ρ Q))
    (ht : ∀ o r, letTemporaryGo value o r = pure () := by intro _ _; rfl) : EV X k ns env (.Subscript value (.Slice lo up Option.none p) pos) ρ σ Q := by
  intro A s Q' E R M e hQ
  refine wpAny_Subscript_Slice (T := "str") F.slot_str_getitem.lookup (h A s _ E R M e fun o σ₁ v₁ s₁ h₁ M₁ r₁ t₁ => ?_) ht
  refine wpAny_Slice ?_
  refine h₁ A s₁ _ E R M₁ (e.tr0 M t₁) fun l σ₂ v₂ s₂ h₂ M₂ r₂ t₂ => ?_
  refine h₂ A s₂ _ E R M₂ ((e.tr0 M t₁).tr0 M₁ t₂) fun u σ₃ v₃ s₃ h₃ M₃ r₃ t₃ => ?_
  refine h₃ A s₃ _ E R M₃ (((e.tr0 M t₁).tr0 M₁ t₂).tr0 M₂ t₃) fun z σ₄ v₄ s₄ h₄ M₄ r₄ t₄ => ?_
  obtain ⟨ty, h₄⟩ := h₄
  have ro := ((r₁.tr0 M₁ t₂).tr0 M₂ t₃).tr0 M₃ t₄
  have rl := (r₂.tr0 M₂ t₃).tr0 M₃ t₄
  have ru := r₃.tr0 M₃ t₄
  refine ⟨?_, slice_use (h₄ A s₄ [v₁, v₂, v₃, v₄] Q' E R M₄ (.cons ro (.cons rl (.cons ru (.cons r₄ .nil)))) fun q σ₅ v₅ s₅ hq M₅ r₅ t₅ => hQ q σ₅ v₅ s₅ hq M₅ r₅ ((((t₁.trans t₂).trans t₃).trans t₄).trans t₅))⟩
  obtain ⟨M', t⟩ := step_keep (X := X) (wr := []) (gw := []) (tk := s₄.toks) M₄ (push_keeps s₄.heap { cls := .type "slice", data := .fields #[v₂, v₃, v₄] })
  exact ty.is M' (ro.tr0 M₄ t)


theorem evalArgs_pos {M : Model} {A : Around} {s : Shared} {E : Value → Shared → Prop} {f : Value} {pos : Pos} {args : List Expr} {Q : Args → Shared → Prop}
    (hno : (backTo pos (starEach args env)).any (·.1) = false)
    (h : wpAny M A (spliced (backTo pos (starEach args env))) (fun vs s' => Q ⟨vs, []⟩ s') E s) : wpAny M A (evalArgs f true (backTo pos (starEach args env)) []) Q E s := by
  cases hb : backTo pos (starEach args env) with
  | nil =>
    rw [hb] at h
    unfold evalArgs
    refine wpAny_bind (wpAny_bind (wpAny_mono h (fun vs s' h' => ?_) fun _ _ x => x))
    refine wpAny_pure (wpAny_holding ?_)
    exact wpAny_bind (wpAny_pure (wpAny_bind (wpAny_pure (wpAny_pure h'))))
  | cons q r =>
    obtain ⟨b, x⟩ := q
    rw [hb] at h hno
    simp only [List.any_cons, Bool.or_eq_false_iff] at hno
    have : b = false := hno.1
    subst this
    exact evalArgs_plain h

theorem callWith_machine {M : Model} {A : Around} {s : Shared} {E : Value → Shared → Prop} {f : Value} {pos : Pos} {first : List Value} {args : List Expr} {ap : Pos} {Q : Value → Shared → Prop} (hf : ∀ a, f ≠ .ref a)
    (hno : (backTo ap (starEach args env)).any (·.1) = false)
    (h : wpAny M A (spliced (backTo ap (starEach args env))) (fun vs s₁ => wpAny M A (call f (first ++ vs)) Q E s₁) E s) : wpAny M A (callWith pos f first (backTo ap (starEach args env)) []) Q E s := by
  unfold callWith
  refine wpAny_bind (wpAny_holding (evalArgs_pos hno (wpAny_mono h (fun vs s₁ h₁ => wpAny_bind (wpAny_standAt ?_)) fun _ _ x => x)))
  simp only [hno, List.any_nil, Bool.or_false]
  have hk : keeperOf f = pure .machine := by
    unfold keeperOf
    cases f <;> first | rfl | exact absurd rfl (hf _)
  rw [hk]
  refine wpAny_bind (wpAny_pure ?_)
  exact wpAny_bind (wpAny_mono h₁ (fun r s₂ hr => wpAny_bind (wpAny_holding (wpAny_point (wpAny_pure hr)))) fun _ _ x => x)

theorem EV.callB (S : EnvS ns gs env) {x : Str} {np pos : Pos} {args : List Expr} {f : Value} (hg : x ∈ gs) (G : X.Glob x (.raw f)) (hf : ∀ a, f ≠ .ref a)
    (h : EVS X k ns env pos args ρ σ (kCB X k f Q)) (hno : (backTo pos (starEach args env)).any (·.1) = false := by rfl) (hd : (x == ("__debug__" : Str)) = false := by decide +kernel) : EV X k ns env (.Call (.Name x np) args [] pos) ρ σ Q := by
  intro A s Q' E R M e hQ
  refine wpAny_Call_ofName (EV.glob (Q := fun p σ₁ => p = .raw f ∧ σ₁ = σ) S hg G ⟨rfl, rfl⟩ hd A s _ E R M e fun p σ₁ v₁ s₁ h₁ M₁ r₁ t₁ => ?_)
  obtain ⟨rfl, rfl⟩ := h₁
  (first | (obtain ⟨_, rfl⟩ := Rel.int_inv r₁) | (obtain ⟨_, rfl⟩ := Rel.str_inv r₁) | (obtain rfl := Rel.lst_inv r₁) | (obtain rfl := Rel.bool_inv r₁) | (obtain rfl := Rel.none_inv r₁) | (obtain rfl := Rel.raw_inv r₁) | cases r₁)
  show wpAny _ A (callWith pos f [] (backTo pos (starEach args env)) []) Q' E s₁
  refine callWith_machine hf hno (h A s₁ _ E R M₁ (e.tr0 M t₁) fun as σ₂ vs s₂ h₂ M₂ r₂ t₂ => ?_)
  exact h₂ A s₂ vs Q' E R M₂ r₂ fun p σ₃ v₃ s₃ q M₃ r₃ t₃ => hQ p σ₃ v₃ s₃ q M₃ r₃ ((t₁.trans t₂).trans t₃)

theorem EV.meth {o : Expr} {name : Str} {apos pos : Pos} {args : List Expr} {T id : String} (slot : Slot T name id) (hty : typeOf (.builtin id) = pure (.type "method_descriptor")) (hpa : PlainAttrs T) (hTd : T ≠ "tuple")
    (h : EV X k ns env o ρ σ (kMeth X k ns env pos args ρ T id Q))
    (hbase : attributeBase o name env (eval o env) = eval o env := by rfl)
    (hform : ((((backTo pos (starEach args env)).all fun x => !x.fst) && (backToKw pos (keywordEach [] env)).all fun x => x.fst.isSome) && decide ((args.length + ([] : List Keyword).length + if ([] : List Keyword).isEmpty = true then 0 else 1) < 30)) = true := by rfl)
    (hline : (apos.endLine == pos.line) = true := by rfl) (hno : (backTo pos (starEach args env)).any (·.1) = false := by rfl) : EV X k ns env (.Call (.Attribute o name apos) args [] pos) ρ σ Q := by
  intro A s Q' E R M e hQ
  refine wpAny_Call_method hbase hform hline hpa slot hty (h A s _ E R M e fun ov σ₁ v₁ s₁ h₁ M₁ r₁ t₁ => ?_)
  obtain ⟨ty, h₁⟩ := h₁
  refine ⟨ty.is M₁ r₁, fun a ha => ?_, ?_⟩
  · cases ty with
    | lst hx =>
      (first | (obtain ⟨_, rfl⟩ := Rel.int_inv r₁) | (obtain ⟨_, rfl⟩ := Rel.str_inv r₁) | (obtain rfl := Rel.lst_inv r₁) | (obtain rfl := Rel.bool_inv r₁) | (obtain rfl := Rel.none_inv r₁) | (obtain rfl := Rel.raw_inv r₁) | cases r₁); cases ha
      obtain ⟨vs, ⟨n, e⟩, _⟩ := M₁.lists _ _ hx
      exact ⟨_, e, rfl⟩
    | str => (first | (obtain ⟨_, rfl⟩ := Rel.int_inv r₁) | (obtain ⟨_, rfl⟩ := Rel.str_inv r₁) | (obtain rfl := Rel.lst_inv r₁) | (obtain rfl := Rel.bool_inv r₁) | (obtain rfl := Rel.none_inv r₁) | (obtain rfl := Rel.raw_inv r₁) | cases r₁); cases ha
    | tup => exact absurd rfl hTd
  · refine callWith_machine (first := [v₁]) (by intro a q; cases q) hno (h₁ A s₁ _ E R M₁ (e.tr0 M t₁) fun as σ₂ vs s₂ h₂ M₂ r₂ t₂ => ?_)
    exact h₂ A s₂ (v₁ :: vs) Q' E R M₂ (.cons (r₁.tr0 M₁ t₂) r₂) fun p σ₃ v₃ s₃ q M₃ r₃ t₃ => hQ p σ₃ v₃ s₃ q M₃ r₃ ((t₁.trans t₂).trans t₃)
end


open PySem PySem.W PyProof.Rows PySem.Spec PySem.Calls
set_option maxRecDepth 100000

theorem get_none_of_ge {h : Heap} {a : Addr} (ha : h.objs.size ≤ a) : h.get? a = none := by
  cases e : h.get? a with
  | none => rfl
  | some o => exact absurd (Heap.lt_size e) (Nat.not_lt.mpr ha)

theorem cellsFrom_has : ∀ (names : List (Str × NameKind)) (n : Nat) (acc : List (Str × Addr)) (x : Str), (acc.lookup x).isSome = true ∨ names.lookup x = some .cell → ((cellsFrom n names acc).lookup x).isSome = true
  | [], n, acc, x, h => by
    rcases h with h | h
    · exact h
    · cases h
  | (y, kd) :: r, n, acc, x, h => by
    unfold cellsFrom
    by_cases hk : kd = .cell
    · subst hk
      rw [if_pos (by rfl)]
      refine cellsFrom_has r (n + 1) _ x ?_
      by_cases hx : x = y
      · subst hx; left; simp
      · have hb : (x == y) = false := by simpa using hx
        rcases h with h | h
        · left; rw [List.lookup_cons, hb]; exact h
        · right; rw [List.lookup_cons, hb] at h; exact h
    · have : (kd == NameKind.cell) = false := by simpa using hk
      rw [if_neg (by rw [this]; simp)]
      refine cellsFrom_has r n acc x ?_
      rcases h with h | h
      · exact .inl h
      · by_cases hx : x = y
        · subst hx; rw [List.lookup_cons] at h; simp at h; exact absurd h hk
        · have hb : (x == y) = false := by simpa using hx
          rw [List.lookup_cons, hb] at h; exact .inr h

theorem bindL_ne {kf : Str → Option NameKind} : ∀ (l : List (Str × Value)) (m : Str → Option Value) (x : Str), (∀ p ∈ l, p.1 ≠ x) → bindL kf l m x = m x
  | [], m, x, _ => rfl
  | (n, v) :: r, m, x, h => by
    unfold bindL
    rw [bindL_ne r _ x (fun p hp => h p (List.mem_cons_of_mem _ hp))]
    split
    · have := h (n, v) (List.mem_cons_self ..)
      exact if_neg (fun q => this q.symm)
    · rfl
theorem bindL_get {kf : Str → Option NameKind} : ∀ (bn : List Str) (bv : List Value) (m : Str → Option Value), bn.Nodup → bn.length = bv.length → ∀ (i : Nat) (x : Str), bn[i]? = some x → kf x = some .local → bindL kf (bn.zip bv) m x = bv[i]?
  | [], bv, m, _, _, i, x, hx, _ => by simp at hx
  | y :: bn, [], m, _, hl, i, x, hx, _ => by simp at hl
  | y :: bn, v :: bv, m, nd, hl, i, x, hx, hk => by
    rw [List.zip_cons_cons]
    unfold bindL
    cases i with
    | zero =>
      simp at hx; subst hx
      rw [if_pos hk, bindL_ne _ _ y]
      · simp
      · intro p hp q
        exact (List.nodup_cons.mp nd).1 (q ▸ (List.of_mem_zip hp).1)
    | succ i =>
      rw [bindL_get bn bv _ (List.nodup_cons.mp nd).2 (by simpa using hl) i x (by simpa using hx) hk]
      simp
theorem bindC_ne {kf : Str → Option NameKind} : ∀ (l : List (Str × Value)) (m : Str → Option Value) (x : Str), (∀ p ∈ l, p.1 ≠ x) → bindC kf l m x = m x
  | [], m, x, _ => rfl
  | (n, v) :: r, m, x, h => by
    unfold bindC
    rw [bindC_ne r _ x (fun p hp => h p (List.mem_cons_of_mem _ hp))]
    split
    · rfl
    · have := h (n, v) (List.mem_cons_self ..)
      exact if_neg (fun q => this q.symm)
theorem bindC_get {kf : Str → Option NameKind} : ∀ (bn : List Str) (bv : List Value) (m : Str → Option Value), bn.Nodup → bn.length = bv.length → ∀ (i : Nat) (x : Str), bn[i]? = some x → kf x ≠ some .local → bindC kf (bn.zip bv) m x = bv[i]?
  | [], bv, m, _, _, i, x, hx, _ => by simp at hx
  | y :: bn, [], m, _, hl, i, x, hx, _ => by simp at hl
  | y :: bn, v :: bv, m, nd, hl, i, x, hx, hk => by
    rw [List.zip_cons_cons]
    unfold bindC
    cases i with
    | zero =>
      simp at hx; subst hx
      rw [if_neg hk, bindC_ne _ _ y]
      · simp
      · intro p hp q
        exact (List.nodup_cons.mp nd).1 (q ▸ (List.of_mem_zip hp).1)
    | succ i =>
      rw [bindC_get bn bv _ (List.nodup_cons.mp nd).2 (by simpa using hl) i x (by simpa using hx) hk]
      simp

theorem look_params : ∀ (bn : List Str) (bp : List PV) (rest : List Str) (m : Nat) (x : Str) (p : PV), bn.length = bp.length → Look (bn ++ rest) (bp.map some ++ List.replicate m none) x p → ∃ i : Nat, bn[i]? = some x ∧ bp[i]? = some p
  | [], [], rest, m, x, p, _, l => by
    exfalso
    simp only [List.map_nil, List.nil_append] at l
    have key : ∀ (rest : List Str) (m : Nat), Look rest (List.replicate m none) x p → False := by
      intro rest m l
      induction m generalizing rest with
      | zero => cases l
      | succ m ih =>
        rw [List.replicate_succ] at l
        cases l with
        | there l => exact ih _ l
    exact key _ _ l
  | y :: bn, q :: bp, rest, m, x, p, h, l => by
    simp only [List.map_cons, List.cons_append] at l
    cases l with
    | here => exact ⟨0, rfl, rfl⟩
    | there l =>
      obtain ⟨i, h1, h2⟩ := look_params bn bp rest m x p (by simpa using h) l
      exact ⟨i + 1, by simpa using h1, by simpa using h2⟩
  | [], _ :: _, _, _, _, _, h, _ => by simp at h
  | _ :: _, [], _, _, _, _, h, _ => by simp at h

structure Fun (X : Cx) (f : Addr) (fd : FuncData) (body : List Stmt) : Prop where
  obj : ∃ o, X.B.get? f = some o ∧ o.data = .func fd
  nex : f ∉ X.ex
  code : ∃ c, fd.code = .ref c ∧ c ∉ X.ex
  crec : X.B.CodeRec fd.code fd.qualname
  body : fd.body = .stmts body
  clo : fd.closure = []
  co : fd.scope.isCoroutine = false
  kind : fd.scope.kind = .function

noncomputable def retOf : PF → PV
  | .ret v => v
  | _ => .none

section
variable {X : Cx} {k : Nat} {σ : Store} {Q : PV → Store → Prop}

theorem Match.coderec {s : Shared} (M : Match X σ s) {cd : Value} {q : Str} (h : X.B.CodeRec cd q) (hx : ∃ c, cd = .ref c ∧ c ∉ X.ex) : s.heap.CodeRec cd q := by
  obtain ⟨c, o, vs, t, rfl, g, d, r⟩ := h
  obtain ⟨c', e, hc⟩ := hx
  cases e
  exact ⟨c, o, vs, t, rfl, M.base _ _ g hc, d, r⟩

noncomputable def BINDS (X : Cx) (σ : Store) (fd : FuncData) (args : List PV) (kw : List (Str × PV)) (bn : List Str) (bp : List PV) : Prop :=
  ∀ (s : Shared) (vs us : List Value), Match X σ s → RelL s.heap args vs → RelL s.heap (kw.map (·.2)) us → ∃ bv, BindsTo s fd ⟨vs, (kw.map (·.1)).zip us⟩ (bn.zip bv) ∧ RelL s.heap bp bv

theorem CALL.def {f : Addr} {fd : FuncData} {body : List Stmt} {args : List PV} {kw : List (Str × PV)} {bn : List Str} {bp : List PV} {rest gs : List Str}
    (F : Fun X f fd body) (hgen : fd.scope.isGenerator = false) (hb : BINDS X σ fd args kw bn bp) (hlen : bn.length = bp.length)
    (S : ∀ L, EnvS (bn ++ rest) gs (callEnvC fd L f)) (hk : ∀ x ∈ bn ++ rest, fd.scope.names.lookup x = some .local ∨ fd.scope.names.lookup x = some .cell)
    (h : ∀ L, EX X k (bn ++ rest) (callEnvC fd L f) body (bp.map some ++ List.replicate rest.length none) σ fun fl _ σ' => Q (retOf fl) σ') : CALL X (k + 1) (.ref f) args kw σ Q := by
  intro A s vs us Q' E R M rv ru hQ
  obtain ⟨o, ho, hd⟩ := F.obj
  have ho' := M.base _ _ ho F.nex
  obtain ⟨bv, hbt, rb⟩ := hb s vs us M rv ru
  have hlv : bn.length = bv.length := hlen.trans rb.1
  refine wpAny_call (codeAny_call_function R.lim ho' hd F.co hgen F.body (M.coderec F.crec F.code) ?_)
  refine hbt _ _ _ _ ?_
  rw [F.clo]
  have nd : bn.Nodup := (List.nodup_append.mp (S 0).nd).1
  have hkf : ∀ L x, (callEnvC fd L f).kindOf x = fd.scope.names.lookup x := fun _ _ => rfl
  refine wpAny_newFunctionEnv_cells F.kind (fun x hx => ?_) fun env he s₁ hin => ?_
  · have hx1 : x.1 ∈ bn := (List.of_mem_zip hx).1
    rcases hk x.1 (List.mem_append_left _ hx1) with q | q
    · exact .inl q
    · exact .inr ⟨q, cellsFrom_has _ _ _ _ (.inr q)⟩
  · have he' : env = callEnvC fd s.heap.objs.size f := he
    subst he'
    obtain ⟨h', tk, rfl, hkeep⟩ := hin.done
    obtain ⟨M₁, t₁⟩ := step_keep (X := X) (wr := []) (gw := []) (tk := tk) M hkeep
    refine ⟨M₁.nolimit, codeAny_func ?_⟩
    have hL : ∀ c, s.heap.objs.size ≤ c → s.heap.get? c = none := fun c hc => get_none_of_ge hc
    have hcs : ∀ x c, (callEnvC fd s.heap.objs.size f).cells.lookup x = some c → s.heap.get? c = none := fun x c hc => hL c (Nat.le_of_lt (hin.above x c (mem_of_lookup hc)))
    have e₁ : EnvOk X (bn ++ rest) (bp.map some ++ List.replicate rest.length none) (callEnvC fd s.heap.objs.size f) h' := by
      refine ⟨⟨_, hin.toInCall.ns, fun x p l hx => ?_⟩, fun x c hc => ?_, fun x hx hx2 => ?_, hin.apart, fun x p l hx => ?_, ?_⟩
      · obtain ⟨i, h1, h2⟩ := look_params bn bp rest _ x p hlen l
        obtain ⟨v, hv, r⟩ := rb.get h2
        exact ⟨v, (bindL_get bn bv _ nd hlv i x h1 hx).trans hv, r.tr0 M t₁⟩
      · exact ⟨⟨_, hin.cell x c hc⟩, M.fresh_base (hcs x c hc)⟩
      · rcases hk x hx with q | q
        · exact absurd q hx2
        · exact Option.isSome_iff_exists.mp (cellsFrom_has _ _ _ _ (.inr q))
      · obtain ⟨i, h1, h2⟩ := look_params bn bp rest _ x p hlen l
        obtain ⟨v, hv, r⟩ := rb.get h2
        have hx' : x ∈ bn ++ rest := l.mem
        rcases hk x hx' with q | q
        · exact absurd q hx
        · obtain ⟨c, hc⟩ := Option.isSome_iff_exists.mp (cellsFrom_has fd.scope.names (s.heap.objs.size + 1) [] x (.inr q))
          refine ⟨c, v, hc, ?_, r.tr0 M t₁⟩
          have := hin.cell x c hc
          rw [bindC_get bn bv _ nd hlv i x h1 hx, hv] at this
          exact this
      · exact M.fresh_base (hL _ (Nat.le_refl _))
    refine h s.heap.objs.size (A.deeper _) _ _ _ (R.deeper _) M₁ e₁ fun fl ρ' σ' fv s' hq M' e' r' t' => ?_
    have T : Tr X [] [] σ s σ' s' := t₁.since t' (fun b hb => ?_) (by simp)
    · cases r' with
      | ret r => exact hQ _ _ _ _ hq M' r T
      | next => exact hQ _ _ _ _ hq M' .none T
      | brk => exact hQ _ _ _ _ hq M' .none T
      | cont => exact hQ _ _ _ _ hq M' .none T
    · rcases List.mem_cons.mp hb with rfl | hb
      · exact .inr (hL _ (Nat.le_refl _))
      · obtain ⟨q, _, hc⟩ := List.mem_filterMap.mp hb
        exact .inr (hcs _ _ hc)

theorem BINDS.pos1 {fd : FuncData} {a : PV} {bn : List Str} (hb : ∀ u, bindArgs fd ⟨[u], []⟩ = pure (bn.zip [u])) : BINDS X σ fd [a] [] bn [a] := by
  intro s vs us M rv ru
  have : us = [] := by have := ru.1; simpa using this.symm
  subst this
  obtain ⟨u, rfl⟩ : ∃ u, vs = [u] := by
    have := rv.1
    cases vs with
    | nil => simp at this
    | cons u r => cases r with
      | nil => exact ⟨u, rfl⟩
      | cons _ _ => simp at this
  exact ⟨_, BindsTo.of_eq (hb u), rv⟩
theorem BINDS.pos2 {fd : FuncData} {a b : PV} {bn : List Str} (hb : ∀ u v, bindArgs fd ⟨[u, v], []⟩ = pure (bn.zip [u, v])) : BINDS X σ fd [a, b] [] bn [a, b] := by
  intro s vs us M rv ru
  have : us = [] := by have := ru.1; simpa using this.symm
  subst this
  obtain ⟨u, r, rfl, _, r1⟩ := rv.inv_cons
  obtain ⟨v, r, rfl, _, r2⟩ := r1.inv_cons
  have := r2.inv_nil
  subst this
  exact ⟨_, BindsTo.of_eq (hb u v), rv⟩
theorem BINDS.pos3 {fd : FuncData} {a b c : PV} {bn : List Str} (hb : ∀ u v w, bindArgs fd ⟨[u, v, w], []⟩ = pure (bn.zip [u, v, w])) : BINDS X σ fd [a, b, c] [] bn [a, b, c] := by
  intro s vs us M rv ru
  have : us = [] := by have := ru.1; simpa using this.symm
  subst this
  obtain ⟨u, r, rfl, _, r1⟩ := rv.inv_cons
  obtain ⟨v, r, rfl, _, r2⟩ := r1.inv_cons
  obtain ⟨w, r, rfl, _, r3⟩ := r2.inv_cons
  have := r3.inv_nil
  subst this
  exact ⟨_, BindsTo.of_eq (hb u v w), rv⟩

variable {ns gs : List Str} {env : Env} {ρ : List (Option PV)}

noncomputable abbrev kCALL (X : Cx) (k : Nat) (f : Addr) (Q : PV → Store → Prop) : List PV → Store → Prop := fun as σ => CALL X k (.ref f) as [] σ Q
theorem callWith_def {M : Model} {A : Around} {s : Shared} {E : Value → Shared → Prop} {a : Addr} {o : Obj} {fd : FuncData} {pos ap : Pos} {args : List Expr} {Q : Value → Shared → Prop}
    (hno : (backTo ap (starEach args env)).any (·.1) = false)
    (h : wpAny M A (spliced (backTo ap (starEach args env))) (fun vs s₁ => (s₁.heap.get? a = some o ∧ o.data = .func fd) ∧ wpAny M A (call (.ref a) vs) Q E s₁) E s) : wpAny M A (callWith pos (.ref a) [] (backTo ap (starEach args env)) []) Q E s :=
  callWith_function (evalArgs_pos hno (wpAny_mono h (fun vs s₁ h₁ => h₁) fun _ _ x => x))

theorem EV.callF (S : EnvS ns gs env) {x : Str} {np pos : Pos} {args : List Expr} {f : Addr} {fd : FuncData} {body : List Stmt} (hg : x ∈ gs) (G : X.Glob x (.raw (.ref f))) (F : Fun X f fd body)
    (h : EVS X k ns env pos args ρ σ (kCALL X k f Q)) (hno : (backTo pos (starEach args env)).any (·.1) = false := by rfl) (hd : (x == ("__debug__" : Str)) = false := by decide +kernel) : EV X k ns env (.Call (.Name x np) args [] pos) ρ σ Q := by
  intro A s Q' E R M e hQ
  refine wpAny_Call_ofName (EV.glob (Q := fun p σ₁ => p = .raw (.ref f) ∧ σ₁ = σ) S hg G ⟨rfl, rfl⟩ hd A s _ E R M e fun p σ₁ v₁ s₁ h₁ M₁ r₁ t₁ => ?_)
  obtain ⟨rfl, rfl⟩ := h₁
  (first | (obtain ⟨_, rfl⟩ := Rel.int_inv r₁) | (obtain ⟨_, rfl⟩ := Rel.str_inv r₁) | (obtain rfl := Rel.lst_inv r₁) | (obtain rfl := Rel.bool_inv r₁) | (obtain rfl := Rel.none_inv r₁) | (obtain rfl := Rel.raw_inv r₁) | cases r₁)
  obtain ⟨o, ho, hdt⟩ := F.obj
  show wpAny _ A (callWith pos (.ref f) [] (backTo pos (starEach args env)) []) Q' E s₁
  refine callWith_def (o := o) (fd := fd) hno (h A s₁ _ E R M₁ (e.tr0 M t₁) fun as σ₂ vs s₂ h₂ M₂ r₂ t₂ => ⟨⟨M₂.base _ _ ho F.nex, hdt⟩, ?_⟩)
  exact h₂ A s₂ vs [] Q' E R M₂ r₂ .nil fun p σ₃ v₃ s₃ q M₃ r₃ t₃ => hQ p σ₃ v₃ s₃ q M₃ r₃ ((t₁.trans t₂).trans t₃)

theorem CALL.less {f : Value} {args : List PV} {kw : List (Str × PV)} {j : Nat} (h : CALL X j f args kw σ Q) (hj : j ≤ k) : CALL X k f args kw σ Q :=
  fun A s vs us Q' E R M rv ru hQ => h A s vs us Q' E (R.less hj) M rv ru hQ
theorem CALL.mono {f : Value} {args : List PV} {kw : List (Str × PV)} {Q₁ : PV → Store → Prop} (h : CALL X k f args kw σ Q₁) (hq : ∀ p σ', Q₁ p σ' → Q p σ') : CALL X k f args kw σ Q :=
  fun A s vs us Q' E R M rv ru hQ => h A s vs us Q' E R M rv ru fun p σ' v s' q => hQ p σ' v s' (hq _ _ q)
end


open PySem PySem.W PyProof.Rows PySem.Spec PySem.Calls
set_option maxRecDepth 100000

noncomputable def closL (f : Str → Option Addr) : List (Str × NameKind) → List (Str × Addr) → List (Str × Addr)
  | [], acc => acc
  | (n, k) :: r, acc => closL f r (if k == .free then (match f n with | some c => (n, c) :: acc | none => acc) else acc)

theorem closureFor_eq {scope : Scope} {env : Env} (h : ∀ x ∈ scope.names, x.2 = .free → ∃ c, env.cells.lookup x.1 = some c) : closureFor scope env = pure (closL (fun n => env.cells.lookup n) scope.names []) := by
  unfold closureFor
  generalize scope.names = l at h
  have key : ∀ (l : List (Str × NameKind)) (acc : List (Str × Addr)), (∀ x ∈ l, x.2 = .free → ∃ c, env.cells.lookup x.1 = some c) →
      (forIn (m := Sem) l acc fun x (cs : List (Str × Addr)) => if (x.2 == .free) = true then do let c ← cellOf env x.1; pure (ForInStep.yield ((x.1, c) :: cs)) else pure (ForInStep.yield cs)) = pure (closL (fun n => env.cells.lookup n) l acc) := by
    intro l
    induction l with
    | nil => intro acc _; rfl
    | cons x l ih =>
      intro acc h
      obtain ⟨n, kd⟩ := x
      rw [List.forIn_cons]
      by_cases hk : kd = .free
      · subst hk
        obtain ⟨c, hc⟩ := h (n, .free) List.mem_cons_self rfl
        have hc' : env.cells.lookup n = some c := hc
        have e : cellOf env n = pure c := by unfold cellOf; rw [hc']
        have e2 : closL (fun n => env.cells.lookup n) ((n, .free) :: l) acc = closL (fun n => env.cells.lookup n) l ((n, c) :: acc) := by
          show closL _ l (if (NameKind.free == NameKind.free) = true then (match env.cells.lookup n with | some c => (n, c) :: acc | none => acc) else acc) = _
          rw [hc']; rfl
        rw [e2, ← ih _ (fun y hy => h y (List.mem_cons_of_mem _ hy))]
        show ((if (NameKind.free == NameKind.free) = true then do let c ← cellOf env n; pure (ForInStep.yield ((n, c) :: acc)) else pure (ForInStep.yield acc)) >>= _) = _
        rw [if_pos (show (NameKind.free == NameKind.free) = true from rfl), e]; rfl
      · have hb : (kd == NameKind.free) = false := by simpa using hk
        have e2 : closL (fun n => env.cells.lookup n) ((n, kd) :: l) acc = closL (fun n => env.cells.lookup n) l acc := by
          show closL _ l (if (kd == NameKind.free) = true then _ else acc) = _
          rw [if_neg (by rw [hb]; simp)]
        rw [e2, ← ih _ (fun y hy => h y (List.mem_cons_of_mem _ hy))]
        show ((if (kd == NameKind.free) = true then do let c ← cellOf env n; pure (ForInStep.yield ((n, c) :: acc)) else pure (ForInStep.yield acc)) >>= _) = _
        rw [if_neg (by rw [hb]; simp)]; rfl
  have := key l [] h
  refine Eq.trans ?_ this
  exact bind_pure _

theorem closL_mem {f : Str → Option Addr} : ∀ (l : List (Str × NameKind)) (acc : List (Str × Addr)) (p : Str × Addr), p ∈ closL f l acc → p ∈ acc ∨ ((p.1, NameKind.free) ∈ l ∧ f p.1 = some p.2)
  | [], acc, p, h => .inl h
  | (n, kd) :: r, acc, p, h => by
    rcases closL_mem r _ p h with h | ⟨h1, h2⟩
    · by_cases hk : kd = .free
      · subst hk
        cases hf : f n with
        | none => rw [hf] at h; exact .inl h
        | some c =>
          rw [hf] at h
          rcases List.mem_cons.mp h with rfl | h
          · exact .inr ⟨List.mem_cons_self, hf⟩
          · exact .inl h
      · rw [if_neg (by simpa using hk)] at h; exact .inl h
    · exact .inr ⟨List.mem_cons_of_mem _ h1, h2⟩

theorem closL_has {f : Str → Option Addr} : ∀ (l : List (Str × NameKind)) (acc : List (Str × Addr)) (x : Str) (c : Addr), ((x, NameKind.free) ∈ l ∧ f x = some c) ∨ (∃ c, (x, c) ∈ acc) → ∃ c, (x, c) ∈ closL f l acc
  | [], acc, x, c, h => by rcases h with ⟨h, _⟩ | h; cases h; exact h
  | (n, kd) :: r, acc, x, c, h => by
    refine closL_has r _ x c ?_
    rcases h with ⟨h1, h2⟩ | ⟨c', h⟩
    · rcases List.mem_cons.mp h1 with q | q
      · cases q
        right; refine ⟨c, ?_⟩
        rw [if_pos (by rfl), h2]; exact List.mem_cons_self
      · exact .inl ⟨q, h2⟩
    · right; refine ⟨c', ?_⟩
      split
      · split
        · exact List.mem_cons_of_mem _ h
        · exact h
      · exact h

theorem lookup_of_mem {c : Addr} {x : Str} : ∀ {l : List (Str × Addr)}, (x, c) ∈ l → ∃ c, l.lookup x = some c
  | [], h => by cases h
  | (y, d) :: l, h => by
    rw [List.lookup_cons]
    by_cases hx : x = y
    · subst hx; exact ⟨d, by simp⟩
    · have hb : (x == y) = false := by simpa using hx
      rw [hb]
      rcases List.mem_cons.mp h with q | q
      · cases q; exact absurd rfl hx
      · exact lookup_of_mem q

theorem closL_apart {f : Str → Option Addr} (hf : ∀ x y c, f x = some c → f y = some c → x = y) : ∀ (l : List (Str × NameKind)) (acc : List (Str × Addr)), (l.map (·.1)).Nodup → acc.Pairwise (fun x y => x.2 ≠ y.2) →
    (∀ p ∈ acc, f p.1 = some p.2 ∧ p.1 ∉ l.map (·.1)) → (closL f l acc).Pairwise (fun x y => x.2 ≠ y.2)
  | [], acc, _, h, _ => h
  | (n, kd) :: r, acc, nd, h, ha => by
    rw [List.map_cons, List.nodup_cons] at nd
    have hr : ∀ p ∈ acc, f p.1 = some p.2 ∧ p.1 ∉ r.map (·.1) := fun p hp => ⟨(ha p hp).1, fun q => (ha p hp).2 (List.mem_cons_of_mem _ q)⟩
    show (closL f r (if (kd == NameKind.free) = true then (match f n with | some c => (n, c) :: acc | none => acc) else acc)).Pairwise _
    by_cases hk : (kd == NameKind.free) = true
    · rw [if_pos hk]
      cases hfn : f n with
      | none => exact closL_apart hf r acc nd.2 h hr
      | some c =>
        refine closL_apart hf r _ nd.2 (List.Pairwise.cons (fun p hp q => ?_) h) (fun p hp => ?_)
        · have := (ha p hp)
          exact this.2 (by rw [hf p.1 n c (by rw [this.1]; exact congrArg some q.symm) hfn]; exact List.mem_cons_self)
        · rcases List.mem_cons.mp hp with rfl | hp
          · exact ⟨hfn, nd.1⟩
          · exact hr p hp
    · rw [if_neg hk]; exact closL_apart hf r acc nd.2 h hr

theorem lookup_map_kind (g : Str → NameKind → NameKind) : ∀ (l : List (Str × NameKind)) (x : Str), (l.map fun (n, k) => (n, g n k)).lookup x = (l.lookup x).map (g x)
  | [], x => rfl
  | (n, k) :: l, x => by
    show List.lookup x ((n, g n k) :: _) = _
    rw [List.lookup_cons, List.lookup_cons]
    by_cases hx : x = n
    · subst hx; simp
    · have hb : (x == n) = false := by simpa using hx
      rw [hb]; exact lookup_map_kind g l x

theorem kind_relabel {scope : Scope} {env : Env} (x : Str) : (relabel scope env).names.lookup x = (scope.names.lookup x).map fun k => if (k == .free && env.scope.kind == .function && env.kindOf x == some .cell) then .cell else k := by
  have : (relabel scope env).names = scope.names.map fun (n, k) => (n, (fun n k => if (k == NameKind.free && env.scope.kind == .function && env.kindOf n == some .cell) then NameKind.cell else k) n k) := by
    unfold relabel
    refine List.map_congr_left fun p _ => ?_
    obtain ⟨n, k⟩ := p
    show (if (k == .free && env.scope.kind == .function && env.kindOf n == some .cell) = true then (n, NameKind.cell) else (n, k)) = (n, if (k == .free && env.scope.kind == .function && env.kindOf n == some .cell) = true then NameKind.cell else k)
    split <;> rfl
  rw [this]; exact lookup_map_kind (fun n k => if (k == NameKind.free && env.scope.kind == .function && env.kindOf n == some .cell) then NameKind.cell else k) scope.names x

structure CompS (scope : Scope) (onames : List (Str × NameKind)) (cap loc gs : List Str) : Prop where
  kind : scope.kind = .function
  co : scope.isCoroutine = false
  nd : (scope.names.map (·.1)).Nodup
  free : ∀ x ∈ scope.names, x.2 = .free → x.1 ∈ cap
  nocell : ∀ x ∈ scope.names, x.2 ≠ .cell
  local' : ∀ x ∈ scope.names, x.2 = .local → scope.names.lookup x.1 = some .local
  capf : ∀ x ∈ cap, (x, NameKind.free) ∈ scope.names ∧ scope.names.lookup x = some .free ∧ onames.lookup x ≠ some .local
  locf : ∀ x ∈ loc, scope.names.lookup x = some .local
  glob : ∀ x ∈ gs, scope.names.lookup x = some .globalImplicit
  ndn : (cap ++ loc).Nodup

inductive CapOk (ns : List Str) (ρ : List (Option PV)) : List Str → List PV → Prop
  | nil : CapOk ns ρ [] []
  | cons {x : Str} {p : PV} {xs : List Str} {ps : List PV} (l : Look ns ρ x p) (h : CapOk ns ρ xs ps) : CapOk ns ρ (x :: xs) (p :: ps)
theorem CapOk.len {ns : List Str} {ρ : List (Option PV)} {xs : List Str} {ps : List PV} (h : CapOk ns ρ xs ps) : xs.length = ps.length := by
  induction h with
  | nil => rfl
  | cons _ _ ih => simp [ih]
theorem CapOk.get {ns : List Str} {ρ : List (Option PV)} {xs : List Str} {ps : List PV} (h : CapOk ns ρ xs ps) {i : Nat} {x : Str} {p : PV} (hx : xs[i]? = some x) (hp : ps[i]? = some p) : Look ns ρ x p := by
  induction h generalizing i with
  | nil => simp at hx
  | cons l _ ih =>
    cases i with
    | zero => simp at hx hp; subst hx; subst hp; exact l
    | succ i => exact ih (by simpa using hx) (by simpa using hp)
theorem CapOk.mem {ns : List Str} {ρ : List (Option PV)} {xs : List Str} {ps : List PV} (h : CapOk ns ρ xs ps) : ∀ x ∈ xs, x ∈ ns := by
  induction h with
  | nil => intro x hx; cases hx
  | cons l _ ih =>
    intro x hx
    rcases List.mem_cons.mp hx with rfl | hx
    · exact l.mem
    · exact ih x hx

noncomputable abbrev capL (scope : Scope) (env : Env) : List (Str × Addr) := closL (fun n => env.cells.lookup n) scope.names []

section
variable {X : Cx} {k : Nat} {ns gs : List Str} {env : Env} {ρ : List (Option PV)} {σ : Store}

theorem CompS.envS (S : EnvS ns gs env) {scope : Scope} {cap loc gs' : List Str} (C : CompS scope env.scope.names cap loc gs') (cl : List (Str × Addr)) (a : Addr) : EnvS (cap ++ loc) gs' (compEnvC scope cl a env) := by
  refine ⟨C.kind, C.ndn, fun x hx => ?_, fun x hx => ?_, S.globals, S.builtins, C.co⟩
  · show (relabel scope env).names.lookup x = _ ∨ (relabel scope env).names.lookup x = _ ∨ (relabel scope env).names.lookup x = _
    rw [kind_relabel]
    rcases List.mem_append.mp hx with h | h
    · rw [(C.capf x h).2.1]
      simp only [Option.map_some]
      split
      · exact .inr (.inl rfl)
      · exact .inr (.inr rfl)
    · rw [C.locf x h]; exact .inl rfl
  · show (relabel scope env).names.lookup x = _
    rw [kind_relabel, C.glob x hx]; rfl

theorem capL_mem {scope : Scope} {p : Str × Addr} (h : p ∈ capL scope env) : (p.1, NameKind.free) ∈ scope.names ∧ env.cells.lookup p.1 = some p.2 := by
  rcases closL_mem _ _ _ h with h | h
  · cases h
  · exact h

theorem env_inj {X : Cx} {ns : List Str} {ρ : List (Option PV)} {env : Env} {h : Heap} (e : EnvOk X ns ρ env h) : ∀ x y c, env.cells.lookup x = some c → env.cells.lookup y = some c → x = y :=
  fun x y c hx hy => name_of_addr e.apart (mem_of_lookup hx) (mem_of_lookup hy)

theorem CompS.cells (S : EnvS ns gs env) {scope : Scope} {cap loc gs' : List Str} (C : CompS scope env.scope.names cap loc gs') {h : Heap} (e : EnvOk X ns ρ env h) (hc : ∀ x ∈ cap, x ∈ ns) :
    ∀ x ∈ scope.names, x.2 = .free → ∃ c, env.cells.lookup x.1 = some c := fun x hx hf =>
  have hm := C.free x hx hf
  e.has x.1 (hc _ hm) (C.capf _ hm).2.2

theorem CompS.inner (S : EnvS ns gs env) {scope : Scope} {cap loc gs' : List Str} (C : CompS scope env.scope.names cap loc gs') {capP : List PV} (K : CapOk ns ρ cap capP) {h : Heap} (e : EnvOk X ns ρ env h)
    {a : Addr} {m : Str → Option Value} (hn : h.Ns a m) (hB : X.B.get? a = none) : EnvOk X (cap ++ loc) (capP.map some ++ List.replicate loc.length none) (compEnvC scope (capL scope env) a env) h := by
  have S' := C.envS S (capL scope env) a
  have notloc : ∀ x ∈ cap, (compEnvC scope (capL scope env) a env).kindOf x ≠ some .local := fun x hx => by
    show (relabel scope env).names.lookup x ≠ _
    rw [kind_relabel, (C.capf x hx).2.1]
    simp only [Option.map_some]
    split <;> simp
  have lookc : ∀ x p, Look (cap ++ loc) (capP.map some ++ List.replicate loc.length none) x p → x ∈ cap ∧ Look ns ρ x p := fun x p l => by
    obtain ⟨i, h1, h2⟩ := look_params cap capP loc _ x p K.len l
    exact ⟨List.mem_of_getElem? h1, K.get h1 h2⟩
  have inC : ∀ x ∈ cap, ∃ c, (capL scope env).lookup x = some c := fun x hx => by
    obtain ⟨c, hc⟩ := e.has x (K.mem x hx) (C.capf x hx).2.2
    obtain ⟨c', hc'⟩ := closL_has (f := fun n => env.cells.lookup n) scope.names [] x c (.inl ⟨(C.capf x hx).1, hc⟩)
    exact lookup_of_mem hc'
  refine ⟨⟨m, hn, fun x p l hk => ?_⟩, fun x c hc => ?_, fun x hx hk => ?_, ?_, fun x p l hk => ?_, hB⟩
  · exact absurd hk (notloc x (lookc x p l).1)
  · exact e.cell x c (capL_mem (mem_of_lookup hc)).2
  · rcases List.mem_append.mp hx with h | h
    · exact inC x h
    · refine absurd ?_ hk
      show (relabel scope env).names.lookup x = _
      rw [kind_relabel, C.locf x h]; rfl
  · exact closL_apart (env_inj e) _ _ C.nd List.Pairwise.nil (fun p hp => by cases hp)
  · obtain ⟨hx, l'⟩ := lookc x p l
    obtain ⟨c, v, hc, hv, r⟩ := e.cl x p l' (C.capf x hx).2.2
    obtain ⟨c', hc'⟩ := inC x hx
    have := (capL_mem (mem_of_lookup hc')).2
    simp only at this
    rw [hc] at this; cases this
    exact ⟨c, v, hc', hv, r⟩

theorem step_one {s : Shared} (M : Match X σ s) {b : Addr} {o : Obj} (ho : s.heap.get? b = some o) (hd : (∃ es n, o.data = .dict es n) ∨ ∃ v, o.data = .cell v) (hb : X.B.get? b = none)
    {h' : Heap} {tk : Nat} (hs : Heap.SameBut b s.heap h') :
    Match X σ { s with heap := h', toks := tk } ∧ Tr X [b] [] σ s σ { s with heap := h', toks := tk } := by
  have np : ¬ Prot o := by rcases hd with ⟨es, n, e⟩ | ⟨v, e⟩; exact not_prot_dict e; exact not_prot_cell e
  have ns : ∀ vs n, o.data ≠ .seq vs n := by rcases hd with ⟨es, n, e⟩ | ⟨v, e⟩ <;> (intros; rw [e]; nofun)
  have hσ : σ b = none := M.not_list_of_data ho ns
  have kt : ∀ a o, a ≠ b → s.heap.get? a = some o → h'.get? a = some o := fun a o ha e => hs.extBut a o ha e
  have rl : ∀ {p : PV} {v : Value}, Rel s.heap p v → Rel h' p v := fun r => r.mono fun a oo i e => kt a _ (fun q => by subst q; rw [ho] at e; cases e; exact imm_data i hd) e
  refine ⟨M.step (wr := [b]) (fun a oo ha _ e => kt a oo (by simpa using ha) e) (by
      intro a ha; rw [List.mem_singleton] at ha; subst ha
      exact ⟨fun oo e => by rw [ho] at e; cases e; exact np, hb⟩) (fun a xs e => ?_) M.newl M.gens,
    ⟨fun a hn ha => ?_, fun a oo ha _ _ e => kt a oo (by simpa using ha) e, fun _ _ _ e => e, Nat.le_refl _, rfl, fun _ _ h _ => h, fun _ h => h⟩⟩
  · obtain ⟨vs, hp, r⟩ := M.lists a xs e
    have hab : a ≠ b := fun q => by rw [q, hσ] at e; cases e
    exact ⟨vs, hp.at (fun oo => kt a oo hab), r.1, fun i x v hx hv => rl (r.2 i x v hx hv)⟩
  · cases e : s.heap.get? a with
    | none => exact absurd e ha
    | some oo => exact ne_of_some (kt a oo (by simpa using hn) e)

noncomputable def ASGL (X : Cx) (k : Nat) (ns : List Str) (env : Env) (t : Expr) (p : PV) (ρ : List (Option PV)) (Q : List (Option PV) → Prop) : Prop :=
  ∀ (A : Around) (σ : Store) (s : Shared) (v : Value) (Q' : Unit → Shared → Prop) (E : Value → Shared → Prop), Room A k → Match X σ s → EnvOk X ns ρ env s.heap → Rel s.heap p v →
    (∀ ρ' s', Q ρ' → Match X σ s' → EnvOk X ns ρ' env s'.heap → Tr X [env.locals] [] σ s σ s' → Q' () s') → wpAny (model X.prog X.w) A (assign t env v) Q' E s
noncomputable def ASGLS (X : Cx) (k : Nat) (ns : List Str) (env : Env) (ts : List Expr) (ps : List PV) (ρ : List (Option PV)) (Q : List (Option PV) → Prop) : Prop :=
  ∀ (A : Around) (σ : Store) (s : Shared) (vs : List Value) (Q' : Unit → Shared → Prop) (E : Value → Shared → Prop), Room A k → Match X σ s → EnvOk X ns ρ env s.heap → RelL s.heap ps vs →
    (∀ ρ' s', Q ρ' → Match X σ s' → EnvOk X ns ρ' env s'.heap → Tr X [env.locals] [] σ s σ s' → Q' () s') → wpAny (model X.prog X.w) A (assignInOrder ((assignEach ts env).map (·.2)) vs) Q' E s

theorem EnvOk.loc_nt {h : Heap} (e : EnvOk X ns ρ env h) : ∀ b ∈ [env.locals], ∀ o, Imm o → h.get? b ≠ some o :=
  fun b hb => by rw [List.mem_singleton] at hb; subst hb; exact e.wr_nt _ (List.mem_cons_self ..)

theorem ASGL.name (S : EnvS ns gs env) {x : Str} {pos : Pos} {p : PV} {ρ' : List (Option PV)} {Q : List (Option PV) → Prop} (hl : env.kindOf x = some .local) (l : Put ns ρ x p ρ') (hq : Q ρ') : ASGL X k ns env (.Name x pos) p ρ Q := by
  intro A σ s v Q' E R M e r hQ
  refine wpAny_assign_Name ?_
  obtain ⟨m, hn, hv⟩ := e.fr
  obtain ⟨oL, es, ep, e1, e2, _⟩ := id hn
  refine wpAny_storeName_local hl hn (fun h' hn' hs => ?_) (pn_of S)
  have hcL : ∀ c v, s.heap.IsCell c v → c ≠ env.locals := fun c v ⟨oc, f1, f2⟩ q => by subst q; rw [e1] at f1; cases f1; rw [e2] at f2; cases f2
  obtain ⟨M', t⟩ := step_one (tk := s.toks + 1) M e1 (.inl ⟨es, ep, e2⟩) e.base hs
  refine hQ ρ' _ hq M' ⟨⟨_, hn', fun y q ly hy => ?_⟩, fun y c hc => ?_, e.has, e.apart, fun y q ly hy => ?_, e.base⟩ t
  · rcases l.look S.nd ly with ⟨rfl, rfl⟩ | ⟨hne, ly'⟩
    · exact ⟨v, if_pos rfl, rel_own e1 (.inl ⟨es, ep, e2⟩) hs r⟩
    · obtain ⟨u, hu, ru⟩ := hv y q ly' hy
      exact ⟨u, by rw [if_neg hne]; exact hu, rel_own e1 (.inl ⟨es, ep, e2⟩) hs ru⟩
  · obtain ⟨⟨u, hu⟩, hb⟩ := e.cell y c hc
    exact ⟨⟨u, hu.sameBut hs (hcL c u hu)⟩, hb⟩
  · rcases l.look S.nd ly with ⟨rfl, rfl⟩ | ⟨hne, ly'⟩
    · exact absurd hl hy
    · obtain ⟨c, u, hc, hu, ru⟩ := e.cl y q ly' hy
      exact ⟨c, u, hc, hu.sameBut hs (hcL c _ hu), rel_own e1 (.inl ⟨es, ep, e2⟩) hs ru⟩

theorem ASGLS.nil {Q : List (Option PV) → Prop} (h : Q ρ) : ASGLS X k ns env [] [] ρ Q := by
  intro A σ s vs Q' E R M e r hQ
  rw [r.inv_nil]
  exact wpAny_pure (hQ _ _ h M e Tr.refl)
theorem ASGLS.cons {t : Expr} {ts : List Expr} {p : PV} {ps : List PV} {Q : List (Option PV) → Prop} (h : ASGL X k ns env t p ρ fun ρ₁ => ASGLS X k ns env ts ps ρ₁ Q)
    (he : assignEach (t :: ts) env = (false, assign t env) :: assignEach ts env := by rfl) : ASGLS X k ns env (t :: ts) (p :: ps) ρ Q := by
  intro A σ s vs Q' E R M e r hQ
  obtain ⟨v, vs', rfl, r1, r2⟩ := r.inv_cons
  rw [he]
  show wpAny _ A (do holding vs' (assign t env v); assignInOrder ((assignEach ts env).map (·.2)) vs') Q' E s
  refine wpAny_bind (wpAny_holding (h A σ s v _ E R M e r1 fun ρ₁ s₁ h₁ M₁ e₁ t₁ => ?_))
  exact h₁ A σ s₁ vs' Q' E R M₁ e₁ (r2.tr M t₁ e.loc_nt) fun ρ₂ s₂ h₂ M₂ e₂ t₂ => hQ _ _ h₂ M₂ e₂ (t₁.trans t₂)
theorem ASGL.tuple {ts : List Expr} {kk : Nat} {pos : Pos} {ps : List PV} {Q : List (Option PV) → Prop} (h : ASGLS X k ns env ts ps ρ Q)
    (hn : (assignEach ts env).length = ps.length := by rfl) (hstar : (assignEach ts env).findIdx? (·.1) = none := by rfl) : ASGL X k ns env (.Tuple ts kk pos) (.tup ps) ρ Q := by
  intro A σ s v Q' E R M e r hQ
  obtain ⟨a, vs, rfl, ha, hl, hv⟩ := Rel.tup_inv r
  · skip
    have rl : RelL s.heap ps vs := ⟨hl, hv⟩
    refine wpAny_assign_Tuple R.handled (items := vs.toArray) ⟨_, ha, rfl, _, rfl⟩ (by rw [hn, hl]; simp) hstar fun h' hx => ?_
    obtain ⟨M', t⟩ := step_keep (X := X) (wr := [env.locals]) (gw := []) (tk := s.toks) M (extSize_keeps hx)
    have t0 := (step_keep (X := X) (wr := []) (gw := []) (tk := s.toks) M (extSize_keeps hx)).2
    rw [show vs.toArray.toList = vs by simp]
    exact h A σ _ vs Q' E R M' (e.tr0 M t0) (rl.tr0 M t0) fun ρ₂ s₂ h₂ M₂ e₂ t₂ => hQ _ _ h₂ M₂ e₂ (t.trans t₂)

noncomputable def IFS (X : Cx) (k : Nat) (ns : List Str) (env : Env) (ifs : List Expr) (ρ : List (Option PV)) (σ : Store) (Q : Bool → Store → Prop) : Prop :=
  TB X k ns env (forIn ifs true fun c r => if r = true then do let ok ← isTrue c env (eval c env); pure (ForInStep.yield ok) else pure (ForInStep.yield r)) ρ σ Q
theorem IFS.nil {Q : Bool → Store → Prop} (h : Q true σ) : IFS X k ns env [] ρ σ Q := fun A s Q' E R M e hQ => wpAny_tests_nil (hQ _ _ _ h M Tr.refl)
theorem IFS.one {c : Expr} {Q : Bool → Store → Prop} (h : EVB X k ns env c ρ σ Q) : IFS X k ns env [c] ρ σ Q := fun A s Q' E R M e hQ => wpAny_tests_one (h A s Q' E R M e hQ)

noncomputable def CL (X : Cx) (k : Nat) (ns : List Str) (cenv : Env) (elt target iter : Expr) (ifs : List Expr) (scope : Scope) (pos : Pos) (it : It) (D : Addr) (ρ : List (Option PV)) (σ : Store) (Q : Store → Prop) : Prop :=
  ∀ (A : Around) (s : Shared) (v : Value) (own : List Addr) (gown : List Nat) (R' : Result → Shared → Prop), Room A k → Match X σ s → EnvOk X ns ρ cenv s.heap → IA X it v own gown s → OwnOk X own s → (∀ b ∈ own, b ∉ wrOf cenv) →
    (∀ ρ' σ' s', Q σ' → Match X σ' s' → EnvOk X ns ρ' cenv s'.heap → Tr X (own ++ [cenv.locals]) gown σ s σ' s' → R' (.ok .next) s') →
    codeAny (model X.prog X.w) A (.compLoop (.ListComp elt [⟨target, iter, ifs, 0⟩] scope pos) 0 v (.ref D) cenv) R' s

variable {elt target iter : Expr} {ifs : List Expr} {scope : Scope} {pos : Pos} {it it' : It} {D : Addr} {p : PV} {Q : Store → Prop}

theorem CL.weak {ρ' : List (Option PV)} (w : Weak ρ ρ') (h : CL X k ns env elt target iter ifs scope pos it D ρ σ Q) : CL X k ns env elt target iter ifs scope pos it D ρ' σ Q :=
  fun A s v own gown R' R M e I O hd hQ => h A s v own gown R' R M (e.weak w) I O hd hQ

theorem CL.done (hk : 8 ≤ k) (hn : Nxt it σ none) (h : Q σ) : CL X k ns env elt target iter ifs scope pos it D ρ σ Q := by
  intro A s v own gown R' R M e I O hd hQ
  refine codeAny_of_tree ?_
  show wpAny _ A ((compTurn (.ListComp elt [⟨target, iter, ifs, 0⟩] scope pos) 0 v (.ref D) env).onRaise (fun x => do noteFrame x env; theTreesLotGoes x)) _ _ s
  refine wpAny_noted ?_
  rw [compTurn_list]
  refine wpAny_bind (wpAny_standAt (wpAny_bind (wpAny_mono (nxt_none (N := fun _ _ => False) (Q' := fun s₂ => Match X σ s₂ ∧ Tr X own gown σ s σ s₂) (E := fun _ _ => False) (R.less hk) M I O hn (fun s₂ M₂ t₂ => ⟨M₂, t₂⟩)) (fun r s₁ h₁ => ?_) fun _ _ q => q.elim)))
  cases r with
  | some val => exact h₁.elim
  | none =>
    obtain ⟨M₂, t₂⟩ := h₁
    exact wpAny_pure (hQ _ _ _ h M₂ (e.tr M t₂ hd O.nt) (t₂.mono (fun b q => List.mem_append_left _ q) (fun _ q => q)))

theorem CL.step (S : EnvS ns gs env) (hk : 8 ≤ k) (hn : Nxt it σ (some (p, it'))) (ht : (∀ a i, it ≠ .enl a i) ∨ isTup target = true)
    (h : ASGL X k ns env target p ρ fun ρ₁ => IFS X k ns env ifs ρ₁ σ fun ok σ₁ => if ok = true then
        EV X k ns env elt ρ₁ σ₁ fun y σ₂ => ∃ xs, σ₂ D = some xs ∧ xs.length ≤ sizeLine ∧ CL X k ns env elt target iter ifs scope pos it' D ρ₁ (Store.set σ₂ D (xs ++ [y])) Q
      else CL X k ns env elt target iter ifs scope pos it' D ρ₁ σ₁ Q) : CL X k ns env elt target iter ifs scope pos it D ρ σ Q := by
  intro A s v own gown R' R M e I O hd hQ
  refine codeAny_of_tree ?_
  show wpAny _ A ((compTurn (.ListComp elt [⟨target, iter, ifs, 0⟩] scope pos) 0 v (.ref D) env).onRaise (fun x => do noteFrame x env; theTreesLotGoes x)) _ _ s
  refine wpAny_noted ?_
  rw [compTurn_list]
  refine wpAny_bind (wpAny_standAt (wpAny_bind ?_))
  refine wpAny_mono (nxt_some (N := fun _ => False) (target := target) (Q' := fun val s₂ => ∃ own', Rel s₂.heap p val ∧ Match X σ s₂ ∧ Tr X own gown σ s σ s₂ ∧ IA X it' v own' gown s₂ ∧ OwnOk X own' s₂ ∧ ∀ b ∈ own', b ∈ own ∨ s.heap.get? b = none) (E := fun _ _ => False) (E' := fun _ _ => False) (R.less hk) M I O hn ht (fun val s₂ own' r M₂ t₂ I₂ O₂ ho => ⟨own', r, M₂, t₂, I₂, O₂, ho⟩)) (fun r s₁ h₁ => ?_) fun _ _ q => q.elim
  cases r with
  | none => exact h₁.elim
  | some val =>
    refine wpAny_bind (wpAny_mono h₁ (fun _ s₂ h₂ => ?_) fun _ _ q => q.elim)
    obtain ⟨own', r₂, M₂, t₂, I₂, O₂, ho⟩ := h₂
    have hd' := own_off hd ho e.wr_alive
    have e₂ := e.tr M t₂ hd O.nt
    have hd1 : ∀ b ∈ own', b ∉ [env.locals] := fun b hb q => hd' b hb (by rw [List.mem_singleton] at q; subst q; exact List.mem_cons_self ..)
    refine wpAny_bind (h A σ s₂ val _ _ R M₂ e₂ r₂ fun ρ₃ s₃ h₃ M₃ e₃ t₃ => ?_)
    have st₃ := Tr.stays (gown := gown) O₂ M₂ t₃ hd1
    have O₃ := O₂.stays st₃
    refine wpAny_bind (h₃ A s₃ _ _ R M₃ e₃ fun ok σ₄ s₄ h₄ M₄ t₄ => ?_)
    have st₄ := Tr.stays (gown := gown) O₃ M₃ t₄ (by simp)
    have O₄ := O₃.stays st₄
    have e₄ := e₃.tr0 M₃ t₄
    have T : Tr X (own ++ [env.locals]) gown σ s σ₄ s₄ := ((t₂.mono (fun b q => List.mem_append_left _ q) (fun _ q => q)).trans (t₃.mono (fun b q => List.mem_append_right _ q) (by simp))).trans t₄.up
    have hw : ∀ b ∈ own' ++ [env.locals], b ∈ own ++ [env.locals] ∨ s.heap.get? b = none := fun b hb => by
      rcases List.mem_append.mp hb with hb | hb
      · exact (ho b hb).imp (fun q => List.mem_append_left _ q) id
      · exact .inl (List.mem_append_right _ hb)
    cases ok with
    | false => exact wpAny_pure ⟨rfl, h₄ A s₄ v own' gown R' R M₄ e₄ ((I₂.stays st₃).stays st₄) O₄ hd' fun ρ' σ' s' q M' e' t' => hQ ρ' σ' s' q M' e' (T.since t' hw (fun g hg => .inl hg))⟩
    | true =>
      refine wpAny_bind (wpAny_bind (h₄ A s₄ _ _ R M₄ e₄ fun y σ₅ w s₅ h₅ M₅ r₅ t₅ => ?_))
      obtain ⟨xs, hD, hsz, h₅⟩ := h₅
      have st₅ := Tr.stays (gown := gown) O₄ M₄ t₅ (by simp)
      have O₅ := O₄.stays st₅
      have e₅ := e₄.tr0 M₄ t₅
      refine wpAny_bind ?_
      refine CB.append (X := X) (k := k) (p := y) hD hsz (Q := fun q σ' => σ' = Store.set σ₅ D (xs ++ [y])) rfl A s₅ [.ref D, w] _ _ R M₅ (.cons (.lst D) (.cons r₅ .nil)) fun q σ₆ u s₆ h₆ M₆ r₆ t₆ => ?_
      subst h₆
      have st₆ := Tr.stays (gown := gown) O₅ M₅ t₆ (by simp)
      exact wpAny_pure (wpAny_pure ⟨rfl, h₅ A s₆ v own' gown R' R M₆ (e₅.tr0 M₅ t₆) ((((I₂.stays st₃).stays st₄).stays st₅).stays st₆) (O₅.stays st₆) hd' fun ρ' σ' s' q M' e' t' => hQ ρ' σ' s' q M' e' (((T.trans t₅.up).trans t₆.up).since t' hw (fun g hg => .inl hg))⟩)

theorem comp_run (S : EnvS ns gs env) {cap loc gs' : List Str} (C : CompS scope env.scope.names cap loc gs') {capP : List PV} (K : CapOk ns ρ cap capP)
    {A : Around} {s : Shared} {v : Value} {own : List Addr} {gown : List Nat} {Q : Addr → Store → Prop} {use : Option (Value → Sem Unit)} {Qf : Value → Shared → Prop} {E : Value → Shared → Prop}
    (R : Room A k) (M : Match X σ s) (e : EnvOk X ns ρ env s.heap) (I : IA X it v own gown s) (O : OwnOk X own s) (hd : ∀ b ∈ own, b ∉ wrOf env) (sf : Self X own gown v s)
    (h : ∀ D C, σ D = none → CL X k (cap ++ loc) (compEnvC scope (capL scope env) C env) elt target iter ifs scope pos it D (capP.map some ++ List.replicate loc.length none) (Store.set σ D []) (Q D))
    (hQ : ∀ D Cc σ' s' m, σ D = none → Q D σ' → Match X σ' s' → s.heap.get? Cc = none → s'.heap.Ns Cc m → X.B.get? Cc = none → Tr X own gown σ s σ' s' → (∀ b ∈ own, b ∉ wrOf env) →
      compPost (model X.prog X.w) A E use Qf (.ref D) Cc (.ok .next) s') :
    wpAny (model X.prog X.w) A (newList []) (fun acc s₃ => wpAny (model X.prog X.w) A (newFunctionEnv scope env.globals (capL scope env) [] env.qual none .none (some env)) (fun cenv s₄ =>
      codeAny (model X.prog X.w) A (.compStart (.ListComp elt [⟨target, iter, ifs, 0⟩] scope pos) 0 v acc { cenv with scope := relabel scope env }) (compPost (model X.prog X.w) A E use Qf acc cenv.locals) s₄) E s₃) E s := by
  refine wpAny_newObj_type ?_
  obtain ⟨M₁, t₁⟩ := step_newList (X := X) (wr := []) (gw := []) (tk := s.toks) M (push_keeps s.heap { cls := .type "list", data := .seq ([] : List Value).toArray }) (get_size_none _) (push_plain s.heap []) RelL.nil
  have hDσ : σ s.heap.objs.size = none := M.fresh_list (get_size_none _)
  generalize hs₁ : ({ s with heap := s.heap.push { cls := .type "list", data := .seq ([] : List Value).toArray }, toks := s.toks } : Shared) = s₁ at M₁ t₁
  have hCs : s.heap.get? s₁.heap.objs.size = none := none_of_tr t₁ (get_size_none _)
  refine wpAny_newFunctionEnv C.nocell (by intro y hy; simp at hy) (fun h₂ hns hsb => ?_) C.kind
  have hk₂ : ∀ b o, s₁.heap.get? b = some o → h₂.get? b = some o := fun b o q => hsb.extBut b o (fun r => by subst r; rw [get_size_none] at q; cases q) (Heap.get?_push_of_some _ q)
  obtain ⟨M₂, t₂⟩ := step_keep (X := X) (wr := []) (gw := []) (tk := s₁.toks + ([] : List (Str × Value)).length) M₁ hk₂
  have e₁ := e.tr0 M t₁
  have e₂ := e₁.tr0 M₁ t₂
  have st₁ := Tr.stays (gown := gown) O M t₁ (by simp)
  have O₁ := O.stays st₁
  have st₂ := Tr.stays (gown := gown) O₁ M₁ t₂ (by simp)
  have O₂ := O₁.stays st₂
  have hCb : X.B.get? s₁.heap.objs.size = none := M₁.fresh_base (get_size_none _)
  have e₃ : EnvOk X (cap ++ loc) (capP.map some ++ List.replicate loc.length none) (compEnvC scope (capL scope env) s₁.heap.objs.size env) h₂ := C.inner S K e₂ hns hCb
  have hd₂ : ∀ b ∈ own, b ∉ wrOf (compEnvC scope (capL scope env) s₁.heap.objs.size env) := fun b hb q => by
    rcases List.mem_cons.mp q with q | q
    · obtain ⟨⟨o, ho, _⟩, _⟩ := O.ok b hb
      have q' : b = s₁.heap.objs.size := q
      subst q'; rw [hCs] at ho; cases ho
    · obtain ⟨p, hp, hc⟩ := List.mem_filterMap.mp q
      have := (capL_mem (mem_of_lookup (show (capL scope env).lookup p.1 = some b from hc))).2
      exact hd b hb (cell_wr this)
  have fin : codeAny (model X.prog X.w) A (.compLoop (.ListComp elt [⟨target, iter, ifs, 0⟩] scope pos) 0 v (.ref s.heap.objs.size) (compEnvC scope (capL scope env) s₁.heap.objs.size env))
      (compPost (model X.prog X.w) A E use Qf (.ref s.heap.objs.size) s₁.heap.objs.size) { s₁ with heap := h₂, toks := s₁.toks + ([] : List (Str × Value)).length } := by
    refine h s.heap.objs.size s₁.heap.objs.size hDσ A _ v own gown _ R M₂ e₃ ((I.stays st₁).stays st₂) O₂ hd₂ fun ρ' σ' s' q M' e' t' => ?_
    obtain ⟨m, hm, _⟩ := e'.fr
    refine hQ _ _ _ _ m hDσ q M' hCs hm hCb ?_ hd
    refine (t₁.trans t₂).up.since t' (fun b hb => ?_) (fun g hg => .inl hg)
    rcases List.mem_append.mp hb with hb | hb
    · exact .inl hb
    · rw [List.mem_singleton] at hb; subst hb; exact .inr hCs
  exact codeAny_compStart_list fin (sf A _ _ _ (st₁.trans st₂) fin)

theorem EV.listcomp (S : EnvS ns gs env) {cap loc gs' : List Str} (C : CompS scope env.scope.names cap loc gs') {capP : List PV} (K : CapOk ns ρ cap capP) {Q : PV → Store → Prop}
    (h : EVI X k ns env iter ρ σ fun it σ₁ => ∀ D C, σ₁ D = Option.none → CL X k (cap ++ loc) (compEnvC scope (capL scope env) C env) elt target iter ifs scope pos it D (capP.map Option.some ++ List.replicate loc.length Option.none) (Store.set σ₁ D []) (fun σ₂ => Q (.lst D) σ₂))
    (hs : ∀ x, foldedSetIterable iter env x = pure x := by intro _; rfl) : EV X k ns env (.ListComp elt [⟨target, iter, ifs, 0⟩] scope pos) ρ σ Q := by
  intro A s Q' E R M e hQ
  rw [eval_ListComp]
  refine wpAny_comprehension_free (use := Option.none) rfl hs (closureFor_eq (C.cells S e K.mem)) C.kind C.local' ?_
  refine h A s _ E R M e fun it own gown v σ₁ s₁ q M₁ I₁ O₁ f₁ g₁ t₁ sf₁ => ?_
  have hd : ∀ b ∈ own, b ∉ wrOf env := fun b hb hw => by
    obtain ⟨⟨o, ho, _⟩, _⟩ := e.wr_kind b hw
    rw [f₁ b hb] at ho; cases ho
  refine comp_run (Q := fun D σ₂ => Q (.lst D) σ₂) S C K R M₁ (e.tr0 M t₁) I₁ O₁ hd sf₁ (fun D C hD => q D C hD) fun D Cc σ' s' m hD q' M' hC hn hB t' _ => ?_
  refine ⟨m, hn, fun h' hs' => ?_⟩
  obtain ⟨o, es, ep, ho, hdd, _⟩ := id hn
  obtain ⟨M'', t''⟩ := step_one (tk := s'.toks) M' ho (.inl ⟨es, ep, hdd⟩) hB hs'
  refine hQ _ _ _ _ q' M'' (.lst D) ?_
  refine t₁.since (wr' := own ++ [Cc]) (gw' := gown) ((t'.mono (fun b q => List.mem_append_left _ q) (fun _ q => q)).trans (t''.mono (fun b q => List.mem_append_right _ q) (by simp))) (fun b hb => ?_) (fun g hg => .inr (g₁ g hg))
  rcases List.mem_append.mp hb with hb | hb
  · exact .inr (f₁ b hb)
  · rw [List.mem_singleton] at hb; subst hb; exact .inr (none_of_tr t₁ hC)

theorem EX1.assignLC (S : EnvS ns gs env) {y : Str} {py spos : Pos} {cap loc gs' : List Str} (C : CompS scope env.scope.names cap loc gs') {capP : List PV} (K : CapOk ns ρ cap capP) {Q : PF → List (Option PV) → Store → Prop}
    (hsw : swapsWith (.ListComp elt [⟨target, iter, ifs, 0⟩] scope pos) (some (.Name y py)) spos.line env = pure true)
    (h : EVI X k ns env iter ρ σ fun it σ₁ => ∀ D C, σ₁ D = Option.none → CL X k (cap ++ loc) (compEnvC scope (capL scope env) C env) elt target iter ifs scope pos it D (capP.map Option.some ++ List.replicate loc.length Option.none) (Store.set σ₁ D [])
      (fun σ₂ => ST X k ns env y (.lst D) ρ σ₂ fun ρ₃ σ₃ => Q .next ρ₃ σ₃))
    (hs : ∀ x, foldedSetIterable iter env x = pure x := by intro _; rfl) : EX1 X k ns env (.Assign [.Name y py] (.ListComp elt [⟨target, iter, ifs, 0⟩] scope pos) spos) ρ σ Q := by
  intro A s Q' E R M e hQ
  show wpAny _ A (exec _ env) Q' E s
  rw [exec_Assign_Name_used _ _ _ _ hsw]
  refine wpAny_bind (wpAny_standAt (wpAny_bind ?_))
  show wpAny _ A (do let _ ← comprehension (.ListComp elt [⟨target, iter, ifs, 0⟩] scope pos) scope env _ (newList []) false (eval iter env) (some (PySem.assign (.Name y py) env))) _ _ s
  refine wpAny_bind (wpAny_mono (wpAny_comprehension_free (use := some (PySem.assign (.Name y py) env)) (Q := fun _ s' => Q' .next s') rfl hs (closureFor_eq (C.cells S e K.mem)) C.kind C.local' ?_) (fun _ s' hq => wpAny_pure (wpAny_pure hq)) fun _ _ e => e)
  refine h A s _ E R M e fun it own gown v σ₁ s₁ q M₁ I₁ O₁ f₁ g₁ t₁ sf₁ => ?_
  have hd : ∀ b ∈ own, b ∉ wrOf env := fun b hb hw => by
    obtain ⟨⟨o, ho, _⟩, _⟩ := e.wr_kind b hw
    rw [f₁ b hb] at ho; cases ho
  have e₁ := e.tr0 M t₁
  refine comp_run (Q := fun D σ₂ => ST X k ns env y (.lst D) ρ σ₂ fun ρ₃ σ₃ => Q .next ρ₃ σ₃) S C K R M₁ e₁ I₁ O₁ hd sf₁ (fun D C hD => q D C hD) fun D Cc σ' s' m hD q' M' hC hn hB t' _ => ?_
  have e' := e₁.tr M₁ t' hd O₁.nt
  show wpAny _ A (PySem.assign (.Name y py) env (.ref D)) _ _ _
  refine wpAny_assign_Name (q' A s' (.ref D) _ E R M' e' (.lst D) fun ρ₃ σ₃ s₃ q₃ M₃ e₃ t₃ => ?_)
  have hCw : Cc ∉ wrOf env := fun hw => by
    obtain ⟨⟨o, ho, _⟩, _⟩ := e₁.wr_kind Cc hw
    rw [hC] at ho; cases ho
  obtain ⟨o, es, ep, ho, hdd, hr⟩ := id hn
  have ho₃ : s₃.heap.get? Cc = some o := t₃.keep Cc o hCw (M'.not_ex ho (not_prot_dict hdd)) (M'.not_list_of_data ho (by rw [hdd]; intros; nofun)) ho
  refine ⟨m, ⟨o, es, ep, ho₃, hdd, hr⟩, fun h' hs' => ?_⟩
  obtain ⟨M₄, t₄⟩ := step_one (tk := s₃.toks) M₃ ho₃ (.inl ⟨es, ep, hdd⟩) hB hs'
  have e₄ := e₃.tr M₃ t₄ (fun b hb => by rw [List.mem_singleton] at hb; subst hb; exact hCw) (fun b hb o' i => by rw [List.mem_singleton] at hb; subst hb; rw [ho₃]; exact fun q => by cases q; exact imm_data i (.inl ⟨es, ep, hdd⟩))
  refine hQ _ _ _ _ _ q₃ M₄ e₄ .next ?_
  refine t₁.upw.since (wr' := own ++ [Cc] ++ wrOf env) (gw' := gown) (((t'.mono (fun b q => List.mem_append_left _ (List.mem_append_left _ q)) (fun _ q => q)).trans (t₃.mono (fun b q => List.mem_append_right _ q) (by simp))).trans (t₄.mono (fun b q => List.mem_append_left _ (List.mem_append_right _ q)) (by simp))) (fun b hb => ?_) (fun g hg => .inr (g₁ g hg))
  rcases List.mem_append.mp hb with hb | hb
  · rcases List.mem_append.mp hb with hb | hb
    · exact .inr (f₁ b hb)
    · rw [List.mem_singleton] at hb; subst hb; exact .inr (none_of_tr t₁ hC)
  · exact .inl hb
end


open PySem PySem.W PyProof.Rows PySem.Spec PySem.Calls
set_option maxRecDepth 100000

noncomputable def GSeg (M : Model) (A : Around) (Φ : End → Shared → Prop) (c : Code) (t : Sem Fin) (fs : List Frame) (s : Shared) : Prop :=
  ∀ Γ p, Γ.code = c → Γ.Woken A → ∃ e s', Runs M Γ p t fs s e s' ∧ Φ e s'

section
variable {M : Model} {A : Around} {Φ : End → Shared → Prop} {c : Code} {fs : List Frame} {s : Shared} {env : Env} {K : Flow → Sem Fin} {H : Value → Sem Fin} {gd : Bool → Bool} {lv : List Value → List Value}

theorem gseg_wrap {α : Type} {m : Sem α} {K : α → Sem Fin} {H : Value → Sem Fin} {gd lv}
    (h : wpAny M (A.over c fs) m (fun a s' => GSeg M A Φ c (K a) fs s') (fun x s' => GSeg M A Φ c (H x) fs s') s) : GSeg M A Φ c (m.wrap K H gd lv) fs s := by
  rintro Γ p rfl hΓ
  exact runs_wrap_of_wp K H gd lv m (h (Γ.over fs) p (hΓ.over fs)) (fun a p' s' h' => h' Γ p' rfl hΓ) (fun x p' s' h' => h' Γ p' rfl hΓ)
theorem gseg_bind_wrap {α β : Type} {m : Sem α} {K : α → Sem β} {K' : β → Sem Fin} {H' : Value → Sem Fin} {gd lv}
    (h : wpAny M (A.over c fs) m (fun a s' => GSeg M A Φ c ((K a).wrap K' H' gd lv) fs s') (fun x s' => GSeg M A Φ c (H' x) fs s') s) : GSeg M A Φ c ((m >>= K).wrap K' H' gd lv) fs s := by
  rw [Sem.bind_eq_wrap', Sem.wrap_wrap]; exact gseg_wrap h
theorem gseg_at {p' : Pos} {k : Unit → Sem Fin} (h : GSeg M A Φ c (k ()) fs s) : GSeg M A Φ c (.at p' k) fs s :=
  gseg_wrap (m := standAt p') (K := k) (H := .raise) (gd := id) (lv := id) (wpAny_standAt h)
theorem gseg_point {l : List Value} {k : Unit → Sem Fin} (h : GSeg M A Φ c (k ()) fs s) : GSeg M A Φ c (.point l k) fs s :=
  gseg_wrap (m := point) (K := k) (H := .raise) (gd := id) (lv := fun _ => l) (wpAny_point h)
theorem gseg_call {c' : Code} {h g l} {k : Result → Sem Fin} (hc : ∀ p, GSeg M A Φ c' (M.den c') (.ret k h g l c p [] :: fs) s) : GSeg M A Φ c (.call c' h g l k) fs s := by
  rintro Γ p rfl hΓ
  obtain ⟨e, s', hr, he⟩ := hc p (Γ.goto c') p rfl (hΓ.goto c')
  exact ⟨e, s', runs_call_seg hr, he⟩
theorem gseg_leaf {k h g l c₁ p₁ kp} (r : Result) (hk : GSeg M A Φ c₁ (k r) fs s) : GSeg M A Φ c (leafOf r) (.ret k h g l c₁ p₁ kp :: fs) s := by
  rintro Γ p rfl hΓ
  obtain ⟨e, s', hr, he⟩ := hk (Γ.goto c₁) p₁ rfl (hΓ.goto c₁)
  exact ⟨e, s', Runs.pop r hr, he⟩
theorem gseg_again {c' : Code} (hq : c'.quiet = true) (hc : GSeg M A Φ c' (M.den c') fs s) : GSeg M A Φ c (.pure (.again c')) fs s := by
  rintro Γ p rfl hΓ
  obtain ⟨e, s', hr, he⟩ := hc (Γ.goto c') p rfl (hΓ.goto c')
  exact ⟨e, s', Runs.head (c₁ := c') (fun _ _ x => .again hq x) hr, he⟩
theorem gseg_end (r : Result) (h : Φ (.ret r) s) : GSeg M A Φ c (leafOf r) [] s := by
  rintro Γ p rfl _
  exact ⟨.ret r, s, Runs.leaf r, h⟩
theorem gseg_yield {v g l} {k : Resume → Sem Fin} (hfs : splitAtGen fs = none) (h : ∀ p, Φ (.susp v g l k c p fs) s) : GSeg M A Φ c (.yield v g l k) fs s := by
  rintro Γ p rfl _
  exact ⟨_, s, Runs.yield' fs hfs, h p⟩

theorem gseg_execs_cons {st : Stmt} {rest : List Stmt}
    (h : GSeg M A Φ c ((exec st env).wrap (fun f => match f with | .next => (execs rest env).wrap K H gd lv | f => K f) H gd lv) fs s) : GSeg M A Φ c ((execs (st :: rest) env).wrap K H gd lv) fs s := by
  rw [execs_cons_wrap]; exact h
theorem gseg_If {test : Expr} {body orelse : List Stmt} {pos : Pos}
    (h : wpAny M (A.over c fs) (isTrue test env (eval test env)) (fun b s' => if b = true then GSeg M A Φ c ((execs body env).wrap K H gd lv) fs s' else GSeg M A Φ c ((execs orelse env).wrap K H gd lv) fs s')
      (fun x s' => GSeg M A Φ c (H x) fs s') s) : GSeg M A Φ c ((exec (.If test body orelse pos) env).wrap K H gd lv) fs s := by
  show GSeg M A Φ c (.at pos fun _ => ((isTrue test env (eval test env) >>= fun b => if b = true then execs body env else execs orelse env) : Sem Flow).wrap K H gd lv) fs s
  refine gseg_at (gseg_bind_wrap (wpAny_mono h (fun b s' hb => ?_) fun _ _ x => x))
  cases b with
  | true => rw [if_pos rfl] at hb; rw [if_pos rfl]; exact hb
  | false => rw [if_neg Bool.false_ne_true] at hb; rw [if_neg Bool.false_ne_true]; exact hb

theorem gseg_Expr_Yield {e : Expr} {ypos pos : Pos} (hfs : splitAtGen fs = none) (hgd : gd false = false)
    (h : wpAny M (A.over c fs) (eval e env) (fun v s' => ∀ (k : Resume → Sem Fin) (l : List Value) (p : Pos), (∀ (A' : Around) (Φ' : End → Shared → Prop) s'', GSeg M A' Φ' c (K .next) fs s'' → GSeg M A' Φ' c (k (.send .none)) fs s'') → Φ (.susp v false l k c p fs) s')
      (fun x s' => GSeg M A Φ c (H x) fs s') s) (hco : env.scope.isCoroutine = false) (hi : interactive env = false) :
    GSeg M A Φ c ((exec (.Expr (.Yield (some e) ypos) pos) env).wrap K H gd lv) fs s := by
  rw [exec_Expr env _ pos hi rfl]
  show GSeg M A Φ c (.at pos fun _ => ((eval e env >>= fun v => (standAt ypos >>= fun _ => yieldOut env v)) >>= fun x =>
    dropValue (.Yield (some e) ypos) pos x).wrap K H gd lv) fs s
  have hy : ∀ v, yieldOut env v = yieldValue v := fun v => by simp only [yieldOut, hco, Bool.false_eq_true, if_false]
  simp only [hy]
  refine gseg_at ?_
  rw [Sem.bind_eq_wrap', Sem.bind_eq_wrap', Sem.wrap_wrap, Sem.wrap_wrap]
  refine gseg_wrap (wpAny_mono h (fun v s' h' => ?_) fun _ _ x => x)
  refine gseg_at (gseg_yield hfs fun p => ?_)
  have e0 : (fun g => gd (id g)) false = false := hgd
  rw [e0]
  exact h' _ _ p fun A' Φ' s'' hx => hx

theorem gseg_For {target iter : Expr} {body orelse : List Stmt} {pos : Pos}
    (h : wpAny M (A.over c fs) (eval iter env) (fun x s₁ => wpAny M (A.over c fs) (pyIter x) (fun it s₂ =>
      ∀ (k : Result → Sem Fin) (l : List Value) (p : Pos), (k (.ok .next) = K .next) → GSeg M A Φ (.forLoop target it body orelse env) (M.den (.forLoop target it body orelse env)) (.ret k none (gd false) l c p [] :: fs) s₂)
      (fun x s' => GSeg M A Φ c (H x) fs s') s₁) (fun x s' => GSeg M A Φ c (H x) fs s') s)
    (hs : ∀ x, foldedSetIterable iter env x = pure x := by intro _; rfl) : GSeg M A Φ c ((exec (.For target iter body orelse pos) env).wrap K H gd lv) fs s := by
  rw [exec_For]
  refine gseg_bind_wrap (wpAny_standAt (gseg_bind_wrap (wpAny_mono h (fun x s₁ h₁ => ?_) fun _ _ x => x)))
  refine gseg_bind_wrap (wpAny_of_eq (hs x) ?_)
  refine gseg_bind_wrap (wpAny_standAt ?_)
  refine gseg_bind_wrap (wpAny_holding (wpAny_mono h₁ (fun it s₂ h₂ => ?_) fun _ _ x => x))
  exact gseg_call fun p => h₂ _ _ p rfl
end

section
variable {prog : Program} {w : World} {A : Around} {Φ : End → Shared → Prop} {fs : List Frame} {s : Shared} {env : Env}

theorem gseg_func {body : List Stmt}
    (h : ∀ H, GSeg (model prog w) A Φ (.func body env) ((execs body env).wrap (fun f => .pure (.done (.ret (match f with | .ret v => v | _ => .none)))) H id id) fs s) :
    GSeg (model prog w) A Φ (.func body env) ((model prog w).den (.func body env)) fs s := by
  show GSeg _ A Φ _ (.point [] fun _ => ((execs body env).onRaise (leaving env)) >>= _) fs s
  refine gseg_point ?_
  rw [Sem.onRaise_eq_wrap, Sem.bind_eq_wrap', Sem.wrap_wrap]
  rw [Sem.wrap_congr (execs body env) _ _ (K' := fun f => .pure (.done (.ret (match f with | .ret v => v | _ => .none))))
    (H' := fun e => (leaving env e).wrap (fun _ => .raise e) .raise id id) (fun f => by cases f <;> rfl)
    (fun e => by rw [Sem.bind_eq_wrap, Sem.wrap_wrap]; rfl)]
  exact h _

theorem gseg_forLoop {target : Expr} {it : Value} {body : List Stmt}
    (h : wpAny (model prog w) (A.over (.forLoop target it body [] env) fs) (pyNext it) (fun r s₁ => match r with
      | none => GSeg (model prog w) A Φ (.block [] env) (leafOf (.ok .next)) fs s₁
      | some v => wpAny (model prog w) (A.over (.forLoop target it body [] env) fs) (letOwnedTupleGo target it v) (fun _ s₂ => wpAny (model prog w) (A.over (.forLoop target it body [] env) fs) (assign target env v) (fun _ s₃ =>
          ∀ H : Value → Sem Fin, GSeg (model prog w) A Φ (.forLoop target it body [] env) ((execs body env).wrap (fun f => match f with
            | .next | .cont => .pure (.again (.forLoop target it body [] env))
            | .brk => .pure (.done .next)
            | .ret v => .pure (.done (.ret v))) H id id) fs s₃) (fun _ _ => False) s₂) (fun _ _ => False) s₁)
      (fun _ _ => False) s) :
    GSeg (model prog w) A Φ (.forLoop target it body [] env) ((model prog w).den (.forLoop target it body [] env)) fs s := by
  show GSeg _ A Φ _ ((forTurn target it body [] env).onRaise (fun x => do noteFrame x env; theTreesLotGoes x)) fs s
  rw [Sem.onRaise_eq_wrap]
  unfold forTurn
  refine gseg_bind_wrap (wpAny_standAt (gseg_bind_wrap (wpAny_onRaise (wpAny_mono h (fun r s₁ h₁ => ?_) fun _ _ q => q.elim))))
  cases r with
  | none => exact gseg_again rfl h₁
  | some v =>
    refine gseg_bind_wrap (wpAny_mono h₁ (fun _ s₂ h₂ => ?_) fun _ _ q => q.elim)
    refine gseg_bind_wrap (wpAny_mono h₂ (fun _ s₃ h₃ => ?_) fun _ _ q => q.elim)
    rw [Sem.bind_eq_wrap', Sem.wrap_wrap]
    rw [Sem.wrap_congr (execs body env) _ _ (K' := fun f => match f with
            | .next | .cont => .pure (.again (.forLoop target it body [] env))
            | .brk => .pure (.done .next)
            | .ret v => .pure (.done (.ret v))) (fun f => by cases f <;> rfl) (fun e => rfl)]
    exact h₃ _

noncomputable def GGo (M : Model) (A : Around) (Φ : End → Shared → Prop) (gs : GenState) (s : Shared) : Prop :=
  match gs with
  | .fresh c => GSeg M A Φ c (M.den c) [] s
  | .suspended k _ c _ fs _ => GSeg M A Φ c (k (.send .none)) fs s
  | _ => False

theorem wpAny_resumeG {M : Model} {A : Around} {E : Value → Shared → Prop} {s : Shared} {g : Nat} {gs : GenState} {Φ : End → Shared → Prop}
    {l : List Value} {α : Type} {k : GenResult → Sem α} {Q : α → Shared → Prop} (hg : s.gens[g]? = some gs)
    (hgo : GGo M A Φ gs (s.setGen g .running)) (hΦ : ∀ e s₁, Φ e s₁ → e.quiet = true ∧ wpAny M A (k e.result) Q E (s₁.setGen g e.genState)) :
    wpAny M A (.resume g (.send .none) l k) Q E s := by
  intro Γ p hΓ
  rw [Sem.wp_resume]
  have hB : ∀ c, (Γ.wake c p).Woken A := fun c => hΓ.wake c p
  cases gs with
  | fresh c =>
    obtain ⟨e₁, s₁, hr, he⟩ := hgo (Γ.wake c p) p rfl (hB c)
    exact ⟨_, _, by unfold Wakes; rw [hg]; exact ⟨e₁, s₁, hr, (hΦ e₁ s₁ he).1, rfl, rfl⟩, (hΦ e₁ s₁ he).2 Γ p hΓ⟩
  | suspended k₀ l₀ c₀ p₀ fs₀ cl =>
    obtain ⟨e₁, s₁, hr, he⟩ := hgo (Γ.wake c₀ p) p₀ rfl (hB c₀)
    exact ⟨_, _, by unfold Wakes; rw [hg]; exact ⟨e₁, s₁, hr, (hΦ e₁ s₁ he).1, rfl, rfl⟩, (hΦ e₁ s₁ he).2 Γ p hΓ⟩
  | running => exact hgo.elim
  | finished => exact hgo.elim

theorem wpAny_pyNext_genG {E : Value → Shared → Prop} {a : Addr} {g : Nat} {gs : GenState} {Φ : End → Shared → Prop} {Q : Option Value → Shared → Prop} (hh : A.handled = none)
    (hl : s.heap.NoLimit) (hroom : A.depth < recursionLimit) (hg : s.heap.IsGen a g) (hgs : s.gens[g]? = some gs) (hgo : GGo (model prog w) A.in1 Φ gs (s.setGen g .running))
    (hΦ : ∀ e s₁, Φ e s₁ → e.quiet = true ∧ match e with
      | .ret r => r = .ok (.ret .none) ∧ ∀ h', (∀ b o, s₁.heap.get? b = some o → h'.get? b = some o) → Q none { s₁.setGen g .finished with heap := h' }
      | .susp v a b c d e' f => Q (some v) (s₁.setGen g (End.susp v a b c d e' f).genState)) :
    wpAny (model prog w) A (pyNext (.ref a)) Q E s := by
  unfold pyNext
  refine wpAny_bind (wpAny_attempt (wpAny_callSpecial?_slot (name := Str.ofString "__next__") hg.typeIs slot_gen_next
    (wpAny_call_entry slot_gen_next hg.typeIs entry_gen_next ?_ (args_gen_next _))))
  show wpAny _ A.in1 (Builtin.Generator.genWake (.ref a) (.send .none)) _ _ s
  unfold Builtin.Generator.genWake
  refine wpAny_bind (wpAny_holding (wpAny_genNumber hg (wpAny_bind (wpAny_genState hgs ?_))))
  cases gs with
  | running => exact hgo.elim
  | finished => exact hgo.elim
  | _ =>
    refine wpAny_bind (wpAny_roomToWake hl hroom ?_)
    show wpAny _ A.in1 (.resume g (.send .none) [] _) _ _ s
    refine wpAny_resumeG hgs hgo (fun e s₁ he => ⟨(hΦ e s₁ he).1, ?_⟩)
    have := (hΦ e s₁ he).2
    cases e with
    | ret r =>
      obtain ⟨rfl, hp⟩ := this
      show wpAny _ A.in1 (newExc (.type "StopIteration") [] >>= _) _ _ _
      refine wpAny_bind ?_
      simp only [newExc, newTuple]
      refine wpAny_bind (wpAny_newObj_type ?_ (by size_fits))
      refine wpAny_bind (m := firstArgMember _ _) (wpAny_of_eq (a := Value.none) (by first | rfl | (simp only [firstArgMember]; rfl)) ?_)
      refine wpAny_newObj_type ?_ (by size_fits)
      simp only [raiseNew]
      refine wpAny_bind (wpAny_bind (wpAny_handled ?_))
      first | rw [show A.in1.handled = none from hh] | rw [hh]
      refine wpAny_throw ?_
      refine wpAny_bind (wpAny_isInstance (T := "StopIteration") (b := true) ⟨_, Heap.get?_push_size _ rfl, rfl⟩ isSubtype_stop ?_)
      exact wpAny_pure (hp _ fun b o hb => Heap.get?_push_of_some _ (Heap.get?_push_of_some _ hb))
    | susp v a b c d e' f => exact wpAny_pure ⟨v, rfl, wpAny_pure this⟩
end

open PySem PySem.W PyProof.Rows PySem.Spec PySem.Calls
set_option maxRecDepth 100000

noncomputable def GRest (X : Cx) : List PV → List Addr → GenState → Shared → Prop
  | [], own, gs, s => ∀ (A : Around) (σ : Store) (s' : Shared) (Φ : End → Shared → Prop), Room A 7 → Match X σ s' → Stays own [] s s' →
      (∀ s₁, Match X σ s₁ → Tr X own [] σ s' σ s₁ → Φ (.ret (.ok (.ret .none))) s₁) → GGo (model X.prog X.w) A Φ gs s'
  | x :: xs, own, gs, s => ∀ (A : Around) (σ : Store) (s' : Shared) (Φ : End → Shared → Prop), Room A 7 → Match X σ s' → Stays own [] s s' →
      (∀ v l k c p fs own' s₁, Rel s₁.heap x v → Match X σ s₁ → Tr X own [] σ s' σ s₁ → (∀ b ∈ own', b ∈ own ∨ s'.heap.get? b = none) → OwnOk X own' s₁ → fs.any Frame.guarded = false →
        (∃ a o, v = .ref a ∧ s₁.heap.get? a = some o ∧ o.cls = .type "tuple") → GRest X xs own' (End.susp v false l k c p fs).genState s₁ → Φ (.susp v false l k c p fs) s₁) → GGo (model X.prog X.w) A Φ gs s'

noncomputable def Acc (X : Cx) (items : List PV) (own : List Addr) (σ : Store) (s : Shared) (Φ : End → Shared → Prop) : Prop :=
  match items with
  | [] => ∀ s₁, Match X σ s₁ → Tr X own [] σ s σ s₁ → Φ (.ret (.ok (.ret .none))) s₁
  | x :: xs => ∀ v l k c p fs own' s₁, Rel s₁.heap x v → Match X σ s₁ → Tr X own [] σ s σ s₁ → (∀ b ∈ own', b ∈ own ∨ s.heap.get? b = none) → OwnOk X own' s₁ → fs.any Frame.guarded = false →
        (∃ a o, v = .ref a ∧ s₁.heap.get? a = some o ∧ o.cls = .type "tuple") → GRest X xs own' (End.susp v false l k c p fs).genState s₁ → Φ (.susp v false l k c p fs) s₁

theorem GRest.intro {X : Cx} {items : List PV} {own : List Addr} {gs : GenState} {s : Shared}
    (h : ∀ (A : Around) (σ : Store) (s' : Shared) (Φ : End → Shared → Prop), Room A 7 → Match X σ s' → Stays own [] s s' → Acc X items own σ s' Φ → GGo (model X.prog X.w) A Φ gs s') : GRest X items own gs s := by
  cases items with
  | nil => exact h
  | cons x xs => exact h

section
variable {X : Cx} {k : Nat} {ns gs : List Str} {env : Env} {ρ : List (Option PV)} {σ : Store}

theorem Acc.since {items : List PV} {own own' : List Addr} {s s' : Shared} {Φ : End → Shared → Prop} (a : Acc X items own σ s Φ) (t : Tr X own [] σ s σ s') (ho : ∀ b ∈ own', b ∈ own ∨ s.heap.get? b = none) (hal : ∀ b, s'.heap.get? b = none → s.heap.get? b = none ∨ b ∈ own) : Acc X items own' σ s' Φ := by
  cases items with
  | nil => exact fun s₁ M t₁ => a s₁ M (t.since t₁ ho (by simp))
  | cons x xs =>
    intro v l k c p fs own₂ s₁ r M t₁ h₂ O hfs hv hg
    refine a v l k c p fs own₂ s₁ r M (t.since t₁ ho (by simp)) (fun b hb => ?_) O hfs hv hg
    rcases h₂ b hb with q | q
    · exact ho b q
    · exact (hal b q).symm

noncomputable def Flat : PV → Bool
  | .tup _ => false
  | .rng .. => false
  | .fn _ => false
  | _ => true
theorem Rel.flat {h h' : Heap} {p : PV} {v : Value} (r : Rel h p v) (hf : Flat p = true) : Rel h' p v := by
  cases r with
  | none => exact .none
  | bool b => exact .bool b
  | int i t => exact .int i t
  | str s t => exact .str s t
  | lst a => exact .lst a
  | raw v => exact .raw v
  | rng hr => cases hf
  | fn hr hcd hc hcls hda hq => cases hf
  | tup ha hl hv => cases hf

theorem Look.flat {ns : List Str} {ρ : List (Option PV)} {x : Str} {p : PV} (l : Look ns ρ x p) (hf : (ρ.all fun o => match o with | some p => Flat p | none => true) = true) : Flat p = true := by
  induction l with
  | here => simp at hf; exact hf.1
  | there _ ih => simp at hf; exact ih (by simpa using hf.2)

theorem EnvOk.stays {own : List Addr} {s s' : Shared} (e : EnvOk X ns ρ env s.heap) (hc : env.cells = []) (hL : env.locals ∈ own) (hf : (ρ.all fun o => match o with | some p => Flat p | none => true) = true) (st : Stays own [] s s') : EnvOk X ns ρ env s'.heap := by
  refine ⟨?_, fun x c h => (by rw [hc] at h; cases h), e.has, e.apart, fun x p l hk => ?_, e.base⟩
  · obtain ⟨m, ⟨o, es, ep, e1, e2⟩, h⟩ := e.fr
    exact ⟨m, ⟨o, es, ep, st.heap _ hL o e1, e2⟩, fun x p l hk => let ⟨v, hv, r⟩ := h x p l hk; ⟨v, hv, r.flat (l.flat hf)⟩⟩
  · obtain ⟨c, _, h, _⟩ := e.cl x p l hk
    rw [hc] at h; cases h

noncomputable def EnS (h : Heap) (J I : Addr) (x : Str) (t : Tok) (i : Nat) : Prop := J ≠ I ∧ (∃ old, IsEnum h J I (i : Int) old) ∧ h.IsStrIter I (strIterType x) x t i

theorem EnS.at' {h h' : Heap} {J I : Addr} {x : Str} {t : Tok} {i : Nat} (e : EnS h J I x t i) (hk : ∀ b ∈ [J, I], ∀ o, h.get? b = some o → h'.get? b = some o) : EnS h' J I x t i :=
  let ⟨hn, ⟨old, hj⟩, o, ho, r⟩ := e; ⟨hn, ⟨old, hk J (by simp) _ hj⟩, o, hk I (by simp) _ ho, r⟩

theorem EnS.ok {s : Shared} {J I : Addr} {x : Str} {t : Tok} {i : Nat} (e : EnS s.heap J I x t i) (hJ : X.B.get? J = none) (hI : X.B.get? I = none) : OwnOk X [J, I] s := by
  obtain ⟨hn, ⟨old, hj⟩, o, ho, hc, hd⟩ := e
  refine ⟨fun b hb => ?_⟩
  simp only [List.mem_cons, List.not_mem_nil, or_false] at hb
  rcases hb with rfl | rfl
  · exact ⟨own_fields hj rfl rfl (by decide) (by decide) (by decide), hJ⟩
  · have : strIterType x = "str_ascii_iterator" ∨ strIterType x = "str_iterator" := by unfold strIterType; split <;> simp
    rcases this with q | q <;> rw [q] at hc <;> exact ⟨own_fields ho hc hd (by decide) (by decide) (by decide), hI⟩

inductive ZI where
  | no
  | at (J I : Addr) (x : Str) (t : Tok) (i : Nat)
noncomputable def ZI.own : ZI → List Addr
  | .no => []
  | .at J I .. => [J, I]
noncomputable def ZI.ok (X : Cx) (env : Env) : ZI → Shared → Prop
  | .no, s => True
  | .at J I x t i, s => EnS s.heap J I x t i ∧ X.B.get? J = none ∧ X.B.get? I = none ∧ env.locals ∉ [J, I]
theorem ZI.ok.own {z : ZI} {s : Shared} (h : z.ok X env s) : OwnOk X z.own s := by
  cases z with
  | no => exact ⟨fun b hb => by cases hb⟩
  | «at» J I x t i => exact h.1.ok h.2.1 h.2.2.1
theorem ZI.ok.stays {z : ZI} {s s' : Shared} (h : z.ok X env s) (hk : ∀ b ∈ z.own, ∀ o, s.heap.get? b = some o → s'.heap.get? b = some o) : z.ok X env s' := by
  cases z with
  | no => trivial
  | «at» J I x t i => exact ⟨h.1.at' hk, h.2⟩
theorem ZI.ok.off {z : ZI} {s : Shared} (h : z.ok X env s) : env.locals ∉ z.own := by
  cases z with
  | no => intro q; cases q
  | «at» J I x t i => exact h.2.2.2

theorem wr_nil (hc : env.cells = []) : wrOf env = [env.locals] := by unfold wrOf; rw [hc]; rfl

theorem loc_ok {s : Shared} (e : EnvOk X ns ρ env s.heap) : OwnOk X [env.locals] s := ⟨fun b hb => by
  rw [List.mem_singleton] at hb; subst hb
  obtain ⟨m, ⟨o, es, ep, e1, e2, _⟩, _⟩ := e.fr
  exact ⟨⟨o, e1, not_prot_dict e2, (fun vs n q => by rw [e2] at q; cases q), fun i => imm_data i (.inl ⟨es, ep, e2⟩)⟩, e.base⟩⟩

noncomputable def GX (X : Cx) (ns : List Str) (env : Env) (z : ZI) (c : Code) (fs : List Frame) (items : List PV) (t : Sem Fin) (ρ : List (Option PV)) : Prop :=
  ∀ (A : Around) (σ : Store) (s : Shared) (Φ : End → Shared → Prop), Room A 7 → Match X σ s → EnvOk X ns ρ env s.heap → z.ok X env s → Acc X items (env.locals :: z.own) σ s Φ → GSeg (model X.prog X.w) A Φ c t fs s

variable {z : ZI} {c : Code} {fs : List Frame} {items : List PV} {K : Flow → Sem Fin} {H : Value → Sem Fin} {gd : Bool → Bool} {lv : List Value → List Value}

noncomputable def Over (c : Code) (fs : List Frame) : Prop := ∀ A, Room A 7 → Room (A.over c fs) 4

theorem GX.stmts {st : Stmt} {rest : List Stmt} (hov : Over c fs) (hc : env.cells = [])
    (h : ∀ σ, EX1 X 4 ns env st ρ σ fun f ρ' σ' => σ' = σ ∧ f = .next ∧ GX X ns env z c fs items ((execs rest env).wrap K H gd lv) ρ') : GX X ns env z c fs items ((execs (st :: rest) env).wrap K H gd lv) ρ := by
  intro A σ s Φ R M e Z a
  refine gseg_execs_cons (gseg_wrap (h σ (A.over c fs) s _ _ (hov A R) M e fun f ρ' σ' fl s' hq M' e' r' t' => ?_))
  obtain ⟨rfl, rfl, hq⟩ := hq
  (first | (obtain ⟨_, rfl⟩ := Rel.int_inv r') | (obtain ⟨_, rfl⟩ := Rel.str_inv r') | (obtain rfl := Rel.lst_inv r') | (obtain rfl := Rel.bool_inv r') | (obtain rfl := Rel.none_inv r') | (obtain rfl := Rel.raw_inv r') | cases r')
  rw [wr_nil hc] at t'
  have st : ∀ b ∈ z.own, ∀ o, s.heap.get? b = some o → s'.heap.get? b = some o := (Tr.stays (gown := []) Z.own M t' (fun b hb q => by rw [List.mem_singleton] at q; subst q; exact Z.off hb)).heap
  refine hq A σ' s' Φ R M' e' (Z.stays st) (a.since (t'.mono (fun b q => by rw [List.mem_singleton] at q; subst q; exact List.mem_cons_self ..) (by simp)) (fun b q => .inl q) fun b q => ?_)
  cases he : s.heap.get? b with
  | none => exact .inl rfl
  | some o =>
    by_cases hb : b = env.locals
    · subst hb; exact absurd q (e'.wr_alive _ (List.mem_cons_self ..))
    · exact absurd q (t'.alive b (by simpa using hb) (ne_of_some he))

theorem GX.ite {test : Expr} {body orelse rest : List Stmt} {pos : Pos} (hov : Over c fs)
    (h : ∀ σ, EVB X 4 ns env test ρ σ fun b σ' => σ' = σ ∧ if b = true then GX X ns env z c fs items ((execs body env).wrap (fun f => match f with | .next => (execs rest env).wrap K H gd lv | f => K f) H gd lv) ρ
      else GX X ns env z c fs items ((execs orelse env).wrap (fun f => match f with | .next => (execs rest env).wrap K H gd lv | f => K f) H gd lv) ρ) :
    GX X ns env z c fs items ((execs (.If test body orelse pos :: rest) env).wrap K H gd lv) ρ := by
  intro A σ s Φ R M e Z a
  refine gseg_execs_cons (gseg_If (h σ (A.over c fs) s _ _ (hov A R) M e fun b σ' s' hq M' t' => ?_))
  obtain ⟨rfl, hq⟩ := hq
  have e' := e.tr0 M t'
  have st : ∀ b ∈ z.own, ∀ o, s.heap.get? b = some o → s'.heap.get? b = some o := (Tr.stays (gown := []) Z.own M t' (by simp)).heap
  have a' : Acc X items (env.locals :: z.own) σ' s' Φ := a.since t'.up (fun b q => .inl q) fun b q => .inl (none_of_tr t' q)
  cases b with
  | true => rw [if_pos rfl] at hq ⊢; exact hq A σ' s' Φ R M' e' (Z.stays st) a'
  | false => rw [if_neg Bool.false_ne_true] at hq ⊢; exact hq A σ' s' Φ R M' e' (Z.stays st) a'

theorem GX.nil (h : GX X ns env z c fs items (K .next) ρ) : GX X ns env z c fs items ((execs [] env).wrap K H gd lv) ρ := h

theorem GX.yield {e : Expr} {ypos pos : Pos} {rest : List Stmt} {xs : List PV} {ps : List PV} (hov : Over c fs) (hfs : splitAtGen fs = none) (hfg : fs.any Frame.guarded = false) (hgd : gd false = false) (hcell : env.cells = [])
    (hco : env.scope.isCoroutine = false) (hi : interactive env = false) (hf : (ρ.all fun o => match o with | some p => Flat p | none => true) = true)
    (h : ∀ σ, EV X 4 ns env e ρ σ fun p σ' => σ' = σ ∧ p = .tup ps)
    (hr : GX X ns env z c fs xs ((execs rest env).wrap K H gd lv) ρ) : GX X ns env z c fs (.tup ps :: xs) ((execs (.Expr (.Yield (some e) ypos) pos :: rest) env).wrap K H gd lv) ρ := by
  intro A σ s Φ R M en Z a
  refine gseg_execs_cons (gseg_Expr_Yield hfs hgd (h σ (A.over c fs) s _ _ (hov A R) M en fun p σ' v s' hq M' r' t' => ?_) hco hi)
  obtain ⟨rfl, rfl⟩ := hq
  intro kk l pp hk
  have e' := en.tr0 M t'
  have st : ∀ b ∈ z.own, ∀ o, s.heap.get? b = some o → s'.heap.get? b = some o := (Tr.stays (gown := []) Z.own M t' (by simp)).heap
  have Z' := Z.stays st
  have hv : ∃ a o, v = .ref a ∧ s'.heap.get? a = some o ∧ o.cls = .type "tuple" := by
    cases r' with
    | tup ha _ _ => exact ⟨_, _, rfl, ha, rfl⟩
  have O' : OwnOk X (env.locals :: z.own) s' := ⟨fun b hb => by
    rcases List.mem_cons.mp hb with q | q
    · exact (loc_ok e').ok b (by rw [q]; simp)
    · exact Z'.own.ok b q⟩
  refine a v l kk c pp fs (env.locals :: z.own) s' r' M' t'.up (fun b hb => .inl hb) O' hfg hv (GRest.intro fun A₂ σ₂ s₂ Φ₂ R₂ M₂ st₂ a₂ => ?_)
  show GSeg _ A₂ Φ₂ c (kk (.send .none)) fs s₂
  refine hk A₂ Φ₂ s₂ ?_
  exact hr A₂ σ₂ s₂ Φ₂ R₂ M₂ (e'.stays hcell (List.mem_cons_self ..) hf st₂) (Z'.stays fun b hb o ho => st₂.heap b (List.mem_cons_of_mem _ hb) o ho) a₂

theorem GX.done {p : Pos} (h : items = []) : GX X ns env z c [] items (.pure (.done (.ret .none))) ρ := by
  intro A σ s Φ R M e Z a
  subst h
  exact gseg_end (.ok (.ret .none)) (a s M Tr.refl)

theorem drawsS {prog : Program} {w : World} {A : Around} (hh : A.handled = none) (I : Addr) (x : Str) (t : Tok) :
    Draws prog w A I [I] x.cps.size (fun i v => ∃ c u, x.cps[i]? = some c ∧ v = .str ⟨#[c]⟩ u) (fun i h => h.IsStrIter I (strIterType x) x t i) := by
  unfold strIterType
  split
  · exact Draws.strAscii hh I x t
  · exact Draws.strWide hh I x t

theorem GX.loop_done {target : Expr} {J I : Addr} {x : Str} {t : Tok} {body : List Stmt} {kf : Result → Sem Fin} {l : List Value} {p : Pos} {c₁ : Code} {fs : List Frame} {kp : List Value} {g : Bool} (hov : Over (.forLoop target (.ref J) body [] env) (.ret kf none g l c₁ p kp :: fs))
    (h : GX X ns env .no c₁ fs items (kf (.ok .next)) ρ) :
    GX X ns env (.at J I x t x.cps.size) (.forLoop target (.ref J) body [] env) (.ret kf none g l c₁ p kp :: fs) items ((model X.prog X.w).den (.forLoop target (.ref J) body [] env)) ρ := by
  intro A σ s Φ R M e Z a
  have R' := hov A R
  obtain ⟨⟨hne, ⟨old, hj⟩, hit⟩, hJ, hI, hoff⟩ := id Z
  refine gseg_forLoop (wpAny_pyNext_enum_endD (drawsS (A := (A.over (.forLoop target (.ref J) body [] env) (.ret kf none g l c₁ p kp :: fs)).in1) R'.handled I x t) hj hit fun h' hs => ?_)
  show GSeg _ A Φ _ (leafOf (.ok .next)) _ _
  refine gseg_leaf _ ?_
  obtain ⟨M', t'⟩ := step_it (gown := []) (tk := s.toks) M Z.own (h' := h') (fun b o hb e => hs b o (fun q => hb (by rw [q]; simp [ZI.own])) e)
  refine h A σ { s with heap := h' } Φ R M' (e.tr M t' (fun b hb hw => ?_) Z.own.nt) trivial ?_
  · simp only [ZI.own, List.mem_cons, List.not_mem_nil, or_false] at hb
    obtain ⟨⟨o, ho, hd⟩, _⟩ := e.wr_kind b hw
    obtain ⟨⟨o', ho', _, _, _⟩, _⟩ := Z.own.ok b (by simpa [ZI.own] using hb)
    rw [ho] at ho'; cases ho'
    rcases hb with rfl | rfl
    · rw [hj] at ho; cases ho; rcases hd with ⟨es, n, q⟩ | ⟨v, q⟩ <;> cases q
    · obtain ⟨o₂, ho₂, _, hd₂⟩ := hit
      rw [ho₂] at ho; cases ho; rw [hd₂] at hd; rcases hd with ⟨es, n, q⟩ | ⟨v, q⟩ <;> cases q
  · refine a.since (t'.mono (fun b q => List.mem_cons_of_mem _ q) (by simp)) (fun b q => .inl ?_) fun b q => ?_
    · have : b = env.locals := by simpa [ZI.own] using q
      rw [this]; exact List.mem_cons_self ..
    · by_cases hbI : b = I
      · subst hbI; exact .inr (by simp [ZI.own])
      · cases he : s.heap.get? b with
        | none => exact .inl rfl
        | some o => have := hs b o hbI he; rw [show h'.get? b = none from q] at this; cases this

theorem GX.loop_step {elts : List Expr} {kk : Nat} {tp : Pos} {J I : Addr} {x : Str} {t : Tok} {i ch : Nat} {body : List Stmt} {fs : List Frame} (hov : Over (.forLoop (.Tuple elts kk tp) (.ref J) body [] env) fs) (hx : x.cps[i]? = some ch) (hc : env.cells = [])
    (h : ASGL X 4 ns env (.Tuple elts kk tp) (.tup [.int i, .str ⟨#[ch]⟩]) ρ fun ρ₁ => ∀ H, GX X ns env (.at J I x t (i + 1)) (.forLoop (.Tuple elts kk tp) (.ref J) body [] env) fs items ((execs body env).wrap (fun f => match f with
            | .next | .cont => .pure (.again (.forLoop (.Tuple elts kk tp) (.ref J) body [] env))
            | .brk => .pure (.done .next)
            | .ret v => .pure (.done (.ret v))) H id id) ρ₁) :
    GX X ns env (.at J I x t i) (.forLoop (.Tuple elts kk tp) (.ref J) body [] env) fs items ((model X.prog X.w).den (.forLoop (.Tuple elts kk tp) (.ref J) body [] env)) ρ := by
  intro A σ s Φ R M e Z a
  have R' := hov A R
  obtain ⟨⟨hne, ⟨old, hj⟩, hit⟩, hJ, hI, hoff⟩ := id Z
  have hlt : i < x.cps.size := (Array.getElem?_eq_some_iff.mp hx).1
  have hdis : ∀ b ∈ [J, I], b ∉ wrOf env := fun b hb hw => by rw [wr_nil hc, List.mem_singleton] at hw; subst hw; exact hoff hb
  refine gseg_forLoop (wpAny_pyNext_enum_itemD (drawsS (A := (A.over (.forLoop (.Tuple elts kk tp) (.ref J) body [] env) fs).in1) R'.handled I x t) hj hit hlt hne (by simpa using hne) fun u h₁ tk hu hj₁ hit₁ htp hsz hk => ?_)
  obtain ⟨c', u', hc', rfl⟩ := hu
  rw [hx] at hc'; cases hc'
  show wpAny _ _ (letOwnedTupleGo (.Tuple elts kk tp) (.ref J) (.ref s.heap.objs.size)) _ _ _
  refine wpAny_letOwnedTupleGo_enum (s := { s with heap := h₁, toks := tk + 1 }) hj₁ fun h₂ hj₂ hs₂ => ?_
  have hk2 : ∀ b o, b ∉ [J, I] → s.heap.get? b = some o → h₂.get? b = some o := fun b o hb e => by
    simp only [List.mem_cons, List.not_mem_nil, or_false, not_or] at hb
    exact hs₂.extBut b o hb.1 (hk b o hb.1 hb.2 e)
  obtain ⟨M₂, t₂⟩ := step_it (gown := []) (tk := tk + 1) M Z.own (h' := h₂) hk2
  have hJlt : J ≠ s.heap.objs.size := Nat.ne_of_lt (Heap.lt_size hj)
  have htup : h₂.get? s.heap.objs.size = some (tupObj #[.int i tk, .str ⟨#[ch]⟩ u']) := hs₂.extBut _ _ (Ne.symm hJlt) htp
  have hit₂ : h₂.IsStrIter I (strIterType x) x t (i + 1) := hit₁.extBut hs₂.extBut (Ne.symm hne)
  have e₂ := e.tr M t₂ hdis Z.own.nt
  have rel : Rel h₂ (.tup [.int i, .str ⟨#[ch]⟩]) (.ref s.heap.objs.size) := .tup (vs := [.int i tk, .str ⟨#[ch]⟩ u']) htup rfl fun j y w hy hw => by
    match j, hy, hw with
    | 0, hy, hw => simp at hy hw; subst hy; subst hw; exact .int _ _
    | 1, hy, hw => simp at hy hw; subst hy; subst hw; exact .str _ _
    | j + 2, hy, hw => simp at hy
  refine h (A.over (.forLoop (.Tuple elts kk tp) (.ref J) body [] env) fs) σ { s with heap := h₂, toks := tk + 1 } _ _ _ R' M₂ e₂ rel fun ρ₃ s₃ h₃ M₃ e₃ t₃ => ?_
  intro Hh
  have hje : IsEnum h₂ J I ((i + 1 : Nat) : Int) (.str ⟨#[ch]⟩ u') := by
    have : ((i + 1 : Nat) : Int) = (i : Int) + 1 := by push_cast; rfl
    rw [this]; exact hj₂
  have Z₂ : (ZI.at J I x t (i + 1)).ok X env { s with heap := h₂, toks := tk + 1 } := ⟨⟨hne, ⟨_, hje⟩, hit₂⟩, hJ, hI, hoff⟩
  have st : ∀ b ∈ [J, I], ∀ o, h₂.get? b = some o → s₃.heap.get? b = some o := (Tr.stays (gown := []) Z₂.own M₂ t₃ (fun b hb q => by rw [List.mem_singleton] at q; subst q; exact hoff hb)).heap
  refine h₃ Hh A σ s₃ Φ R M₃ e₃ (Z₂.stays st) ?_
  refine a.since ((t₂.mono (fun b q => List.mem_cons_of_mem _ q) (by simp)).trans (t₃.mono (fun b q => by rw [List.mem_singleton] at q; subst q; exact List.mem_cons_self ..) (by simp))) (fun b q => .inl q) fun b q => ?_
  by_cases hb : b ∈ env.locals :: [J, I]
  · exact .inr hb
  · have hb' : b ≠ env.locals ∧ b ∉ [J, I] := by simpa [not_or] using hb
    cases he : s.heap.get? b with
    | none => exact .inl rfl
    | some o => exact absurd q (t₃.alive b (by simpa using hb'.1) (ne_of_some (hk2 b o hb'.2 he)))

theorem GX.forEn (S : EnvS ns gs env) {target : Expr} {body rest : List Stmt} {pos np cp : Pos} {args : List Expr} {nm : Str} {x : Str} (hov : Over c fs) (hc : env.cells = [])
    (hg : nm ∈ gs) (G : X.Glob nm (.raw (.type "enumerate"))) (h0 : ∀ σ, EVS X 4 ns env cp args ρ σ fun as σ' => σ' = σ ∧ as = [.str x])
    (h : ∀ (J I : Addr) (t : Tok) (kf : Result → Sem Fin) (l : List Value) (p : Pos), kf (.ok .next) = (execs rest env).wrap K H gd lv →
      GX X ns env (.at J I x t 0) (.forLoop target (.ref J) body [] env) (.ret kf none (gd false) l c p [] :: fs) items ((model X.prog X.w).den (.forLoop target (.ref J) body [] env)) ρ)
    (hno : (backTo cp (starEach args env)).any (·.1) = false := by rfl) (hd : (nm == ("__debug__" : Str)) = false := by decide +kernel)
    (hs : ∀ y, foldedSetIterable (.Call (.Name nm np) args [] cp) env y = pure y := by intro _; rfl) :
    GX X ns env .no c fs items ((execs (.For target (.Call (.Name nm np) args [] cp) body [] pos :: rest) env).wrap K H gd lv) ρ := by
  intro A σ s Φ R M e Z a
  have R' := hov A R
  refine gseg_execs_cons (gseg_For ?_ hs)
  refine wpAny_Call_ofName (EV.glob (Q := fun p σ₁ => p = .raw (.type "enumerate") ∧ σ₁ = σ) S hg G ⟨rfl, rfl⟩ hd (A.over c fs) s _ _ R' M e fun p σ₁ v₁ s₁ h₁ M₁ r₁ t₁ => ?_)
  obtain ⟨rfl, rfl⟩ := h₁
  (first | (obtain ⟨_, rfl⟩ := Rel.int_inv r₁) | (obtain ⟨_, rfl⟩ := Rel.str_inv r₁) | (obtain rfl := Rel.lst_inv r₁) | (obtain rfl := Rel.bool_inv r₁) | (obtain rfl := Rel.none_inv r₁) | (obtain rfl := Rel.raw_inv r₁) | cases r₁)
  show wpAny _ _ (callWith cp (.type "enumerate") [] (backTo cp (starEach args env)) []) _ _ s₁
  refine callWith_machine (by intro a q; cases q) hno (h0 σ₁ (A.over c fs) s₁ _ _ R' M₁ (e.tr0 M t₁) fun as σ₂ vs s₂ h₂ M₂ r₂ t₂ => ?_)
  obtain ⟨rfl, rfl⟩ := h₂
  obtain ⟨v, vs', rfl, r1, r2⟩ := r₂.inv_cons
  rw [r2.inv_nil]
  cases r1 with
  | str _ tk =>
    refine call_enumerate_str fun h' hj hit hsz hk => ?_
    refine wpAny_pyIter_enum (i := 0) (old := .none) (it := s₂.heap.objs.size) hj ?_
    intro kf l p hkf
    obtain ⟨M₃, t₃⟩ := step_keep (X := X) (wr := []) (gw := []) (tk := s₂.toks) M₂ hk
    have t := (t₁.trans t₂).trans t₃
    have hJn : s.heap.get? (s₂.heap.objs.size + 1) = none := none_of_tr (t₁.trans t₂) (get_none_of_ge (Nat.le_succ _))
    have hIn : s.heap.get? s₂.heap.objs.size = none := none_of_tr (t₁.trans t₂) (get_size_none _)
    have hoff : env.locals ∉ [s₂.heap.objs.size + 1, s₂.heap.objs.size] := fun q => by
      have := e.wr_alive env.locals (List.mem_cons_self ..)
      simp only [List.mem_cons, List.not_mem_nil, or_false] at q
      rcases q with q | q
      · rw [q] at this; exact this hJn
      · rw [q] at this; exact this hIn
    refine h _ s₂.heap.objs.size tk kf l p hkf A σ₂ { s₂ with heap := h' } Φ R M₃ (e.tr0 M t) ⟨⟨Nat.succ_ne_self _, ⟨_, hj⟩, hit⟩, M.fresh_base hJn, M.fresh_base hIn, hoff⟩ ?_
    refine a.since t.up (fun b q => ?_) fun b q => .inl (none_of_tr t q)
    rcases List.mem_cons.mp q with q | q
    · exact .inl (q ▸ List.mem_cons_self ..)
    · simp only [ZI.own, List.mem_cons, List.not_mem_nil, or_false] at q
      rcases q with rfl | rfl
      · exact .inr hJn
      · exact .inr hIn

theorem seqP_gen {a : Addr} {g : Nat} : ∀ (items : List PV) (own : List Addr) (gs : GenState) (s : Shared), s.heap.IsGen a g → X.B.get? a = none → a ∉ own → OwnOk X own s → s.gens[g]? = some gs → GRest X items own gs s → SeqP X a (a :: own) [g] items s := by
  have gok : ∀ {s : Shared}, s.heap.IsGen a g → ∃ o, s.heap.get? a = some o ∧ ¬ Prot o ∧ (∀ vs n, o.data ≠ .seq vs n) ∧ ¬ Imm o := fun {s} ⟨o, nm, qn, ho, hc, hd, _⟩ => own_fields ho hc hd (by decide) (by decide) (by decide)
  have mset : ∀ {σ : Store} {s : Shared} {x : GenState}, Match X σ s → x.bare = true → Match X σ (s.setGen g x) := fun {σ s x} M hb => ⟨M.base, M.lists, M.newl, fun y hy => by
    have hy' : y ∈ s.gens.setIfInBounds g x := hy
    rcases Array.mem_or_eq_of_mem_setIfInBounds hy' with q | q
    · exact M.gens y q
    · rw [q]; exact hb, M.ti⟩
  have tset : ∀ {σ : Store} {s : Shared} {x : GenState} {wr : List Addr}, Tr X wr [g] σ s σ (s.setGen g x) := fun {σ s x wr} => ⟨fun _ _ h => h, fun _ _ _ _ _ e => e, fun i st hi e => by
    have hi' : g ≠ i := fun q => hi (by simp [q])
    simp [Shared.setGen, hi', e], by simp [Shared.setGen], rfl, fun _ _ h _ => h, fun _ h => h⟩
  have rset : ∀ {items : List PV} {own : List Addr} {gs x : GenState} {s : Shared}, GRest X items own gs s → GRest X items own gs (s.setGen g x) := fun {items own gs x s} h => by
    cases items with
    | nil => exact fun A σ s' Φ R M st => h A σ s' Φ R M ⟨st.heap, by simp⟩
    | cons y ys => exact fun A σ s' Φ R M st => h A σ s' Φ R M ⟨st.heap, by simp⟩
  intro items
  induction items with
  | nil =>
    intro own gs s hg hB hao O hgs hr A σ s' Q E R M st hQ
    have hg' : s'.heap.IsGen a g := let ⟨o, nm, qn, ho, r⟩ := hg; ⟨o, nm, qn, st.heap a (by simp) o ho, r⟩
    have hgs' : s'.gens[g]? = some gs := st.gens g (by simp) gs hgs
    refine wpAny_pyNext_genG (Φ := fun e s₁ => e = .ret (.ok (.ret .none)) ∧ Match X σ s₁ ∧ Tr X own [] σ (s'.setGen g .running) σ s₁) R.handled M.nolimit R.lim hg' hgs' ?_ ?_
    · exact hr A.in1 σ (s'.setGen g .running) _ (Room.in1 R) (mset M rfl) ⟨fun b hb o e => st.heap b (List.mem_cons_of_mem _ hb) o e, by simp⟩ fun s₁ M₁ t₁ => ⟨rfl, M₁, t₁⟩
    · rintro e s₁ ⟨rfl, M₁, t₁⟩
      refine ⟨rfl, rfl, fun h' hk => ?_⟩
      obtain ⟨M₂, t₂⟩ := step_keep (X := X) (wr := []) (gw := []) (tk := s₁.toks) M₁ (h' := h') hk
      have M₃ := mset (x := .finished) M₂ rfl
      refine hQ _ M₃ ?_
      exact (tset.trans (t₁.mono (fun b q => List.mem_cons_of_mem _ q) (by simp))).trans (t₂.up.trans tset)
  | cons x xs ih =>
    intro own gs s hg hB hao O hgs hr A σ s' Q E R M st hQ
    have hg' : s'.heap.IsGen a g := let ⟨o, nm, qn, ho, r⟩ := hg; ⟨o, nm, qn, st.heap a (by simp) o ho, r⟩
    have hgs' : s'.gens[g]? = some gs := st.gens g (by simp) gs hgs
    refine wpAny_pyNext_genG (Φ := fun e s₁ => ∃ v l k c p fs own', e = .susp v false l k c p fs ∧ Rel s₁.heap x v ∧ Match X σ s₁ ∧ Tr X own [] σ (s'.setGen g .running) σ s₁ ∧ (∀ b ∈ own', b ∈ own ∨ s'.heap.get? b = none) ∧ OwnOk X own' s₁ ∧
      fs.any Frame.guarded = false ∧ GRest X xs own' (End.susp v false l k c p fs).genState s₁) R.handled M.nolimit R.lim hg' hgs' ?_ ?_
    · exact hr A.in1 σ (s'.setGen g .running) _ (Room.in1 R) (mset M rfl) ⟨fun b hb o e => st.heap b (List.mem_cons_of_mem _ hb) o e, by simp⟩
        fun v l k c p fs own' s₁ r M₁ t₁ ho O₁ hfs hv hG => ⟨v, l, k, c, p, fs, own', rfl, r, M₁, t₁, ho, O₁, hfs, hG⟩
    · rintro e s₁ ⟨v, l, k, c, p, fs, own', rfl, r, M₁, t₁, ho, O₁, hfs, hG⟩
      refine ⟨by simp [End.quiet, hfs], ?_⟩
      show Q (some v) (s₁.setGen g (End.susp v false l k c p fs).genState)
      have Mr := mset (x := .running) M rfl
      obtain ⟨o, nm, qn, hao', hgc, hgd, hgsl⟩ := id hg'
      obtain ⟨og, hog, np, nl, ni⟩ := gok hg'
      have ha₁ : s₁.heap.get? a = some o := t₁.keep a o hao (Mr.not_ex (show (s'.setGen g .running).heap.get? a = some o from hao') (fun P => by rw [hao'] at hog; cases hog; exact np P)) (Mr.not_list_of_data (show (s'.setGen g .running).heap.get? a = some o from hao') (fun vs n q => by rw [hao'] at hog; cases hog; exact nl vs n q)) hao'
      have hg₁ : s₁.heap.IsGen a g := ⟨o, nm, qn, ha₁, hgc, hgd, hgsl⟩
      have hrun : s₁.gens[g]? = some .running := t₁.gens g .running (by simp) (setGen_self hgs')
      have hao₁ : a ∉ own' := fun q => (ho a q).elim hao fun q => by rw [hao'] at q; cases q
      have Og : OwnOk X (a :: own') (s₁.setGen g (End.susp v false l k c p fs).genState) := ⟨fun b hb => by
        rcases List.mem_cons.mp hb with rfl | hb
        · exact ⟨gok hg₁, hB⟩
        · exact O₁.ok b hb⟩
      refine hQ v _ (a :: own') r (mset M₁ (by simp [End.genState, GenState.bare, hfs])) ((tset.trans (t₁.mono (fun b q => List.mem_cons_of_mem _ q) (by simp))).trans tset) (fun b hb => ?_)
        (ih own' _ _ hg₁ hB hao₁ ⟨O₁.ok⟩ (setGen_self hrun) (rset hG)) Og fun target A Q E h => go_ref (s := s₁.setGen g (End.susp v false l k c p fs).genState) ha₁ hgc (by decide) h
      rcases List.mem_cons.mp hb with rfl | hb
      · exact .inl (List.mem_cons_self ..)
      · exact (ho b hb).imp (List.mem_cons_of_mem _) id

theorem Over.func {body : List Stmt} : Over (.func body env) [] := fun A R => ⟨R.1, by
  have := R.2; show A.depth + 1 + 4 ≤ 900; (first | lia | omega), by
  have := R.3; show A.units + 3 + 64 * 4 ≤ 9000; (first | lia | omega)⟩
theorem Over.loop {target : Expr} {v : Value} {body : List Stmt} {kf : Result → Sem Fin} {l kp : List Value} {p : Pos} {g : Bool} {b₂ : List Stmt} : Over (.forLoop target v body [] env) [.ret kf none g l (.func b₂ env) p kp] := fun A R => ⟨R.1, by
  have := R.2; show A.depth + 1 + 4 ≤ 900; (first | lia | omega), by
  have := R.3; show A.units + 3 + 64 * 4 ≤ 9000; (first | lia | omega)⟩
end

open PySem PySem.W PyProof.Rows PySem.Spec PySem.Calls
set_option maxRecDepth 100000

section
variable {X : Cx} {k : Nat} {ns gs : List Str} {env : Env} {ρ : List (Option PV)} {σ : Store}

theorem EVI.gen (S : EnvS ns gs env) {x : Str} {np pos : Pos} {args : List Expr} {f : Addr} {fd : FuncData} {body : List Stmt} {bn rest gs' : List Str} {Q : It → Store → Prop} (hg : x ∈ gs) (G : X.Glob x (.raw (.ref f))) (F : Fun X f fd body)
    (hgen : fd.scope.isGenerator = true) (S' : ∀ L, EnvS (bn ++ rest) gs' (callEnvC fd L f)) (hk : ∀ x ∈ bn ++ rest, fd.scope.names.lookup x = some .local ∨ fd.scope.names.lookup x = some .cell) (hcell : ∀ L, (callEnvC fd L f).cells = [])
    (h : EVS X k ns env pos args ρ σ fun as σ₁ => ∃ bp items, BINDS X σ₁ fd as [] bn bp ∧ bn.length = bp.length ∧ ((bp.map some ++ List.replicate rest.length none).all fun o => match o with | some p => Flat p | none => true) = true ∧
      (∀ L H, GX X (bn ++ rest) (callEnvC fd L f) .no (.func body (callEnvC fd L f)) [] items ((execs body (callEnvC fd L f)).wrap (fun f => .pure (.done (.ret (match f with | .ret v => v | _ => .none)))) H id id) (bp.map some ++ List.replicate rest.length none)) ∧ Q (.seq items) σ₁)
    (hno : (backTo pos (starEach args env)).any (·.1) = false := by rfl) (hd : (x == ("__debug__" : Str)) = false := by decide +kernel) : EVI X (k + 1) ns env (.Call (.Name x np) args [] pos) ρ σ Q := by
  intro A s Q' E R M e hQ
  refine wpAny_Call_ofName (EV.glob (Q := fun p σ₁ => p = .raw (.ref f) ∧ σ₁ = σ) S hg G ⟨rfl, rfl⟩ hd A s _ E R M e fun p σ₁ v₁ s₁ h₁ M₁ r₁ t₁ => ?_)
  obtain ⟨rfl, rfl⟩ := h₁
  (first | (obtain ⟨_, rfl⟩ := Rel.int_inv r₁) | (obtain ⟨_, rfl⟩ := Rel.str_inv r₁) | (obtain rfl := Rel.lst_inv r₁) | (obtain rfl := Rel.bool_inv r₁) | (obtain rfl := Rel.none_inv r₁) | (obtain rfl := Rel.raw_inv r₁) | cases r₁)
  obtain ⟨o, ho, hdt⟩ := F.obj
  show wpAny _ A (callWith pos (.ref f) [] (backTo pos (starEach args env)) []) _ E s₁
  refine callWith_def (o := o) (fd := fd) hno (h A s₁ _ E (R.less (Nat.le_succ _)) M₁ (e.tr0 M t₁) fun as σ₂ vs s₂ h₂ M₂ r₂ t₂ => ⟨⟨M₂.base _ _ ho F.nex, hdt⟩, ?_⟩)
  obtain ⟨bp, items, hb, hlen, hflat, hGX, hq⟩ := h₂
  obtain ⟨bv, hbt, rb⟩ := hb s₂ vs [] M₂ r₂ .nil
  have hlv : bn.length = bv.length := hlen.trans rb.1
  have ho' := M₂.base _ _ ho F.nex
  refine wpAny_call (codeAny_call_generator R.lim ho' hdt F.co hgen F.body (M₂.coderec F.crec F.code) ?_)
  refine hbt _ _ _ _ ?_
  rw [F.clo]
  have nd : bn.Nodup := (List.nodup_append.mp (S' 0).nd).1
  refine wpAny_newFunctionEnv_cells F.kind (fun x hx => ?_) fun env' he s₃ hin => ?_
  · have hx1 : x.1 ∈ bn := (List.of_mem_zip hx).1
    rcases hk x.1 (List.mem_append_left _ hx1) with q | q
    · exact .inl q
    · exact .inr ⟨q, cellsFrom_has _ _ _ _ (.inr q)⟩
  · have he' : env' = callEnvC fd s₂.heap.objs.size f := he
    subst he'
    obtain ⟨h', tk, rfl, hkeep⟩ := hin.done
    obtain ⟨M₃, t₃⟩ := step_keep (X := X) (wr := []) (gw := []) (tk := tk) M₂ hkeep
    refine ⟨M₃.nolimit, ?_⟩
    have hLn : s₂.heap.get? s₂.heap.objs.size = none := get_size_none _
    have e₃ : EnvOk X (bn ++ rest) (bp.map some ++ List.replicate rest.length none) (callEnvC fd s₂.heap.objs.size f) h' := by
      have hcs : ∀ x c, (callEnvC fd s₂.heap.objs.size f).cells.lookup x = some c → False := fun x c hc => by rw [hcell] at hc; cases hc
      refine ⟨⟨_, hin.toInCall.ns, fun x p l hx => ?_⟩, fun x c hc => (hcs x c hc).elim, fun x hx hx2 => ?_, hin.apart, fun x p l hx => ?_, M₂.fresh_base hLn⟩
      · obtain ⟨i, h1, h2⟩ := look_params bn bp rest _ x p hlen l
        obtain ⟨v, hv, r⟩ := rb.get h2
        exact ⟨v, (bindL_get bn bv _ nd hlv i x h1 hx).trans hv, r.tr0 M₂ t₃⟩
      · rcases hk x hx with q | q
        · exact absurd q hx2
        · exact Option.isSome_iff_exists.mp (cellsFrom_has _ _ _ _ (.inr q))
      · rcases hk x l.mem with q | q
        · exact absurd q hx
        · obtain ⟨c, hc⟩ := Option.isSome_iff_exists.mp (cellsFrom_has fd.scope.names (s₂.heap.objs.size + 1) [] x (.inr q))
          exact (hcs x c hc).elim
    generalize hgo : ({ cls := .type "generator", data := .fields #[.int (({ s₂ with heap := h', toks := tk } : Shared).gens.size : Nat) 0, .str fd.name tk, .str fd.qualname (tk + 1)] } : Obj) = go
    have hgf : go.isFreed = false := by rw [← hgo]; rfl
    have hga := Heap.get?_push_size h' (o := go) hgf
    obtain ⟨M₄, t₄⟩ := step_keep (X := X) (wr := []) (gw := []) (tk := tk + 1 + 1) M₃ (h' := h'.push go) (push_keeps h' go)
    let s₅ : Shared := { s₂ with heap := h'.push go, toks := tk + 1 + 1, gens := s₂.gens.push (.fresh (.func body (callEnvC fd s₂.heap.objs.size f))) }
    have M₅ : Match X σ₂ s₅ := ⟨M₄.base, M₄.lists, M₄.newl, AllBare.push M₂.gens rfl, M₄.ti⟩
    have t₅ : Tr X [] [] σ₂ { s₂ with heap := h'.push go, toks := tk + 1 + 1 } σ₂ s₅ := ⟨fun _ _ h => h, fun _ _ _ _ _ e => e, fun i st _ e => by
      have hlt : i < s₂.gens.size := (Array.getElem?_eq_some_iff.mp e).1
      show (s₂.gens.push _)[i]? = some st
      rw [Array.getElem?_push]; rw [if_neg (Nat.ne_of_lt hlt)]; exact e, by show s₂.gens.size ≤ (s₂.gens.push _).size; simp, rfl, fun _ _ h _ => h, fun _ h => h⟩
    have T : Tr X [] [] σ₁ s σ₂ s₅ := (((t₁.trans t₂).trans t₃).trans t₄).trans t₅
    have hIG : s₅.heap.IsGen h'.objs.size s₂.gens.size := ⟨go, .str fd.name tk, .str fd.qualname (tk + 1), hga, by rw [← hgo], by rw [← hgo], by rw [← hgo]⟩
    have han : ({ s₂ with heap := h', toks := tk } : Shared).heap.get? h'.objs.size = none := get_size_none _
    have han2 : s₂.heap.get? h'.objs.size = none := none_of_tr t₃ han
    have hLs : s.heap.get? s₂.heap.objs.size = none := none_of_tr (t₁.trans t₂) hLn
    have has : s.heap.get? h'.objs.size = none := none_of_tr (t₁.trans t₂) han2
    have hane : h'.objs.size ≠ s₂.heap.objs.size := fun q => by
      obtain ⟨m, ⟨o, es, ep, e1, _⟩, _⟩ := e₃.fr
      have : h'.get? s₂.heap.objs.size = some o := e1
      rw [← q, get_size_none] at this; cases this
    have e₅ : EnvOk X (bn ++ rest) (bp.map some ++ List.replicate rest.length none) (callEnvC fd s₂.heap.objs.size f) s₅.heap :=
      EnvOk.tr0 (s := { s₂ with heap := h', toks := tk }) (s' := s₅) e₃ M₃ (t₄.trans t₅)
    have O₅ : OwnOk X [s₂.heap.objs.size] s₅ := loc_ok e₅
    have hB := M₃.fresh_base han
    have hgn : s₅.gens[s₂.gens.size]? = some (.fresh (.func body (callEnvC fd s₂.heap.objs.size f))) := by
      show (s₂.gens.push _)[s₂.gens.size]? = _
      simp
    refine wpAny_pyIter_gen (s := s₅) hIG ?_
    refine hQ (.seq items) [h'.objs.size, s₂.heap.objs.size] [s₂.gens.size] (.ref h'.objs.size) σ₂ s₅ hq M₅ ⟨_, rfl, ?_⟩ ⟨fun b hb => ?_⟩ (fun b hb => ?_) (fun g hg => ?_) T ?_
    · refine seqP_gen items [s₂.heap.objs.size] _ s₅ hIG hB (by simpa using hane) O₅ hgn (GRest.intro fun A₂ σ₃ s₆ Φ R₂ M₆ st₆ acc => ?_)
      refine gseg_func fun H => ?_
      exact hGX _ H A₂ σ₃ s₆ Φ R₂ M₆ (e₅.stays (hcell _) (List.mem_singleton.mpr rfl) hflat st₆) trivial acc
    · rcases List.mem_cons.mp hb with q | hb
      · rw [q]; exact ⟨own_fields (s := s₅) hga (by rw [← hgo]) (by rw [← hgo]) (by decide) (by decide) (by decide), hB⟩
      · exact O₅.ok b hb
    · rcases List.mem_cons.mp hb with q | hb
      · rw [q]; exact has
      · rw [List.mem_singleton] at hb; rw [hb]; exact hLs
    · rw [List.mem_singleton] at hg; rw [hg]; exact Nat.le_trans t₁.gsize t₂.gsize
    · intro A' s' Q'' E'' st hq
      obtain ⟨o, nm, qn, ho, r⟩ := hIG
      exact wpAny_pyIter_gen (g := s₂.gens.size) ⟨o, nm, qn, st.heap _ (by simp) o ho, r⟩ hq

theorem EVI.enum (S : EnvS ns gs env) {nm : Str} {np cp : Pos} {args : List Expr} {Q : It → Store → Prop} (hg : nm ∈ gs) (G : X.Glob nm (.raw (.type "enumerate")))
    (h : EVS X k ns env cp args ρ σ fun as σ₁ => ∃ a xs, as = [.lst a] ∧ σ₁ a = some xs ∧ Q (.enl a 0) σ₁)
    (hno : (backTo cp (starEach args env)).any (·.1) = false := by rfl) (hd : (nm == ("__debug__" : Str)) = false := by decide +kernel) : EVI X k ns env (.Call (.Name nm np) args [] cp) ρ σ Q := by
  intro A s Q' E R M e hQ
  refine wpAny_Call_ofName (EV.glob (Q := fun p σ₁ => p = .raw (.type "enumerate") ∧ σ₁ = σ) S hg G ⟨rfl, rfl⟩ hd A s _ _ R M e fun p σ₁ v₁ s₁ h₁ M₁ r₁ t₁ => ?_)
  obtain ⟨rfl, rfl⟩ := h₁
  (first | (obtain ⟨_, rfl⟩ := Rel.int_inv r₁) | (obtain ⟨_, rfl⟩ := Rel.str_inv r₁) | (obtain rfl := Rel.lst_inv r₁) | (obtain rfl := Rel.bool_inv r₁) | (obtain rfl := Rel.none_inv r₁) | (obtain rfl := Rel.raw_inv r₁) | cases r₁)
  show wpAny _ _ (callWith cp (.type "enumerate") [] (backTo cp (starEach args env)) []) _ _ s₁
  refine callWith_machine (by intro a q; cases q) hno (h A s₁ _ _ R M₁ (e.tr0 M t₁) fun as σ₂ vs s₂ h₂ M₂ r₂ t₂ => ?_)
  obtain ⟨a, xs, rfl, hx, hq⟩ := h₂
  obtain ⟨v, vs', rfl, r1, r2⟩ := r₂.inv_cons
  rw [r2.inv_nil]
  (first | (obtain ⟨_, rfl⟩ := Rel.int_inv r1) | (obtain ⟨_, rfl⟩ := Rel.str_inv r1) | (obtain rfl := Rel.lst_inv r1) | (obtain rfl := Rel.bool_inv r1) | (obtain rfl := Rel.none_inv r1) | (obtain rfl := Rel.raw_inv r1) | cases r1)
  obtain ⟨us, hp, ru⟩ := M₂.lists _ _ hx
  refine call_enumerate_list hp.isList fun h' hj hit hsz hk => ?_
  refine wpAny_pyIter_enum (i := 0) (old := .none) (it := s₂.heap.objs.size) hj ?_
  obtain ⟨M₃, t₃⟩ := step_keep (X := X) (wr := []) (gw := []) (tk := s₂.toks) M₂ hk
  have hJn : s.heap.get? (s₂.heap.objs.size + 1) = none := none_of_tr (t₁.trans t₂) (get_none_of_ge (Nat.le_succ _))
  have hIn : s.heap.get? s₂.heap.objs.size = none := none_of_tr (t₁.trans t₂) (get_size_none _)
  refine hQ (.enl a 0) [s₂.heap.objs.size + 1, s₂.heap.objs.size] [] _ σ₂ { s₂ with heap := h' } hq M₃ ⟨s₂.heap.objs.size, _, .none, rfl, rfl, rfl, hj, hit, Nat.succ_ne_self _⟩ ⟨fun b hb => ?_⟩ (fun b hb => ?_) (by simp) ((t₁.trans t₂).trans t₃)
    (fun A' s' Q'' E'' st hq => wpAny_pyIter_enum (i := 0) (old := .none) (it := s₂.heap.objs.size) (st.heap _ (by simp) _ hj) hq)
  · simp only [List.mem_cons, List.not_mem_nil, or_false] at hb
    rcases hb with rfl | rfl
    · exact ⟨own_fields (s := { s₂ with heap := h' }) hj rfl rfl (by decide) (by decide) (by decide), M.fresh_base hJn⟩
    · obtain ⟨o, ho, hc, hd⟩ := hit
      exact ⟨own_fields (s := { s₂ with heap := h' }) ho hc hd (by decide) (by decide) (by decide), M.fresh_base hIn⟩
  · simp only [List.mem_cons, List.not_mem_nil, or_false] at hb
    rcases hb with rfl | rfl
    · exact hJn
    · exact hIn
end

open PySem PySem.W PyProof.Rows PySem.Spec PySem.Calls
set_option maxRecDepth 100000

noncomputable def fdOf (o : Obj) : FuncData := match o.data with
  | .func fd => fd
  | _ => ⟨default, default, default, .stmts [], default, 0, [], .none, .none, .none, .none, .none, .none, .none, 0⟩
noncomputable def bodyOf (fd : FuncData) : List Stmt := match fd.body with
  | .stmts b => b
  | _ => []

noncomputable def okNames (names : List (Str × NameKind)) (ns gs : List Str) : Bool :=
  (ns.all fun x => match names.lookup x with | some .local => true | some .cell => true | _ => false) && (gs.all fun x => names.lookup x == some .globalImplicit) && decide ns.Nodup

theorem EnvS.of {fd : FuncData} {ns gs : List Str} (h1 : fd.scope.kind = .function) (h2 : fd.scope.isCoroutine = false) (hg : fd.globals = mainGlobals) (hb : fd.builtins = builtinsNs) (hn : okNames fd.scope.names ns gs = true) (L f : Addr) : EnvS ns gs (callEnvC fd L f) := by
  unfold okNames at hn
  simp only [Bool.and_eq_true, List.all_eq_true, decide_eq_true_eq] at hn
  refine ⟨h1, hn.2, fun x hx => ?_, fun x hx => ?_, hg, hb, h2⟩
  · have := hn.1.1 x hx
    show fd.scope.names.lookup x = _ ∨ fd.scope.names.lookup x = _ ∨ fd.scope.names.lookup x = _
    revert this
    split <;> simp_all
  · have := hn.1.2 x hx
    show fd.scope.names.lookup x = _
    revert this
    cases fd.scope.names.lookup x with
    | none => decide
    | some k => cases k <;> simp
theorem okNames.kinds {names : List (Str × NameKind)} {ns gs : List Str} (hn : okNames names ns gs = true) : ∀ x ∈ ns, names.lookup x = some .local ∨ names.lookup x = some .cell := by
  unfold okNames at hn
  simp only [Bool.and_eq_true, List.all_eq_true, decide_eq_true_eq] at hn
  intro x hx
  have := hn.1.1 x hx
  revert this
  split <;> simp_all

section
variable {X : Cx} {k : Nat} {ns gs : List Str} {env : Env} {ρ : List (Option PV)} {σ : Store}

noncomputable abbrev bn5 : List Str := [Str.ofString "a", Str.ofString "x", Str.ofString "lo", Str.ofString "hi", Str.ofString "key"]
structure Dfl (X : Cx) (K : Frag) (fd : FuncData) (t : Tok) : Prop where
  inn : ∀ (σ : Store) (s : Shared), Match X σ s → K.In s.heap
  f2 : ∀ u v S, peek K S (bindArgs fd ⟨[u, v], []⟩) = some (bn5.zip [u, v, .int 0 t, .none, .none])
  f4 : ∀ u v w z S, peek K S (bindArgs fd ⟨[u, v, w, z], []⟩) = some (bn5.zip [u, v, w, z, .none])
  k2 : ∀ u v w S, peek K S (bindArgs fd ⟨[u, v], [(Str.ofString "key", w)]⟩) = some (bn5.zip [u, v, .int 0 t, .none, w])
  k4 : ∀ u v w z y S, peek K S (bindArgs fd ⟨[u, v, w, z], [(Str.ofString "key", y)]⟩) = some (bn5.zip [u, v, w, z, y])
theorem Dfl.two {K : Frag} {fd : FuncData} {t : Tok} (d : Dfl X K fd t) {p q : PV} : BINDS X σ fd [p, q] [] bn5 [p, q, .int 0, .none, .none] := by
  intro s vs us M rv ru
  obtain ⟨v, w, rfl, r1, r2⟩ := rv.two
  have := ru.inv_nil
  subst this
  exact ⟨_, kp_binds (d.inn _ _ M) (d.f2 v w), .cons r1 (.cons r2 (.cons (.int _ _) (.cons .none (.cons .none .nil))))⟩
theorem Dfl.four {K : Frag} {fd : FuncData} {t : Tok} (d : Dfl X K fd t) {p q r z : PV} : BINDS X σ fd [p, q, r, z] [] bn5 [p, q, r, z, .none] := by
  intro s vs us M rv ru
  obtain ⟨v1, v2, v3, v4, rfl, r1, r2, r3, r4⟩ := rv.four
  have := ru.inv_nil
  subst this
  exact ⟨_, kp_binds (d.inn _ _ M) (d.f4 v1 v2 v3 v4), .cons r1 (.cons r2 (.cons r3 (.cons r4 (.cons .none .nil))))⟩
theorem Dfl.twoK {K : Frag} {fd : FuncData} {t : Tok} (d : Dfl X K fd t) {p q pk : PV} : BINDS X σ fd [p, q] [(Str.ofString "key", pk)] bn5 [p, q, .int 0, .none, pk] := by
  intro s vs us M rv ru
  obtain ⟨v, w, rfl, r1, r2⟩ := rv.two
  obtain ⟨u, rfl, r5⟩ := ru.one
  exact ⟨_, kp_binds (d.inn _ _ M) (d.k2 v w u), .cons r1 (.cons r2 (.cons (.int _ _) (.cons .none (.cons r5 .nil))))⟩
theorem Dfl.fourK {K : Frag} {fd : FuncData} {t : Tok} (d : Dfl X K fd t) {p q r z pk : PV} : BINDS X σ fd [p, q, r, z] [(Str.ofString "key", pk)] bn5 [p, q, r, z, pk] := by
  intro s vs us M rv ru
  obtain ⟨v1, v2, v3, v4, rfl, r1, r2, r3, r4⟩ := rv.four
  obtain ⟨u, rfl, r5⟩ := ru.one
  exact ⟨_, kp_binds (d.inn _ _ M) (d.k4 v1 v2 v3 v4 u), .cons r1 (.cons r2 (.cons r3 (.cons r4 (.cons r5 .nil))))⟩
end

open PySem PySem.W PyProof.Rows PySem.Spec PySem.Calls
set_option maxRecDepth 100000

section
variable {X : Cx} {k : Nat} {ns gs : List Str} {env : Env}

noncomputable abbrev WQ (inv : Nat → List (Option PV) → Store → Prop) (n : Nat) (Q : PF → List (Option PV) → Store → Prop) : PF → List (Option PV) → Store → Prop := fun f ρ₂ σ₂ => match f with
  | .next | .cont => ∃ m, m < n ∧ inv m ρ₂ σ₂
  | .brk => Q .next ρ₂ σ₂
  | .ret p => Q (.ret p) ρ₂ σ₂
noncomputable abbrev LQ (inv : Nat → It → List (Option PV) → Store → Prop) (n : Nat) (it' : It) (Q : PF → List (Option PV) → Store → Prop) : PF → List (Option PV) → Store → Prop := fun f ρ₂ σ₂ => match f with
  | .next | .cont => inv n it' ρ₂ σ₂
  | .brk => Q .next ρ₂ σ₂
  | .ret p => Q (.ret p) ρ₂ σ₂
noncomputable abbrev kWH (X : Cx) (k : Nat) (ns : List Str) (env : Env) (body : List Stmt) (ρ : List (Option PV)) (K Q : PF → List (Option PV) → Store → Prop) : Bool → Store → Prop := fun c σ => if c = true then EX X k ns env body ρ σ K else Q .next ρ σ
noncomputable abbrev kBody (X : Cx) (k : Nat) (ns : List Str) (env : Env) (body : List Stmt) (K : PF → List (Option PV) → Store → Prop) : List (Option PV) → Store → Prop := fun ρ σ => EX X k ns env body ρ σ K
noncomputable abbrev kElt (D : Addr) (inv : Nat → It → Store → Prop) (n : Nat) (it' : It) : PV → Store → Prop := fun y σ => ∃ xs, σ D = some xs ∧ xs.length ≤ sizeLine ∧ inv n it' (Store.set σ D (xs ++ [y]))
noncomputable abbrev kIfs (X : Cx) (k : Nat) (ns : List Str) (env : Env) (elt : Expr) (ρ : List (Option PV)) (K : PV → Store → Prop) (inv' : Store → Prop) : Bool → Store → Prop := fun ok σ => if ok = true then EV X k ns env elt ρ σ K else inv' σ
theorem WH.loop {test : Expr} {body : List Stmt} {Q : PF → List (Option PV) → Store → Prop} (inv : Nat → List (Option PV) → Store → Prop)
    (step : ∀ n ρ σ, inv n ρ σ → EVB X k ns env test ρ σ (kWH X k ns env body ρ (WQ inv n Q) Q)) : ∀ n ρ σ, inv n ρ σ → WH X k ns env test body ρ σ Q := by
  intro n
  induction n using Nat.strongRecOn with
  | _ n ih =>
    intro ρ σ h
    refine WH.step ?_
    intro A s Q' E R M e hQ
    refine step n ρ σ h A s Q' E R M e fun c σ₁ s₁ hc M₁ t₁ => hQ c σ₁ s₁ ?_ M₁ t₁
    cases c with
    | false => exact hc
    | true =>
      rw [if_pos rfl]
      replace hc : EX X k ns env body ρ σ₁ (WQ inv n Q) := hc
      refine EX.mono hc fun f ρ₂ σ₂ hf => ?_
      cases f with
      | next => obtain ⟨m, hm, hi⟩ := hf; exact ih m hm _ _ hi
      | cont => obtain ⟨m, hm, hi⟩ := hf; exact ih m hm _ _ hi
      | brk => exact hf
      | ret p => exact hf

theorem ASG.mono {t : Expr} {p : PV} {ρ : List (Option PV)} {σ : Store} {Q Q₁ : List (Option PV) → Store → Prop} (h : ASG X k ns env t p ρ σ Q₁) (hq : ∀ ρ' σ', Q₁ ρ' σ' → Q ρ' σ') : ASG X k ns env t p ρ σ Q :=
  fun A s v Q' E R M e r hQ => h A s v Q' E R M e r fun ρ' σ' s' q => hQ ρ' σ' s' (hq _ _ q)

theorem FL.loop {target : Expr} {body : List Stmt} {Q : PF → List (Option PV) → Store → Prop} (hk : 8 ≤ k) (inv : Nat → It → List (Option PV) → Store → Prop)
    (h0 : ∀ it ρ σ, inv 0 it ρ σ → Nxt it σ none ∧ Q .next ρ σ)
    (step : ∀ n it ρ σ, inv (n + 1) it ρ σ → ∃ p it', Nxt it σ (some (p, it')) ∧ ((∀ a i, it ≠ .enl a i) ∨ isTup target = true) ∧ ASG X k ns env target p ρ σ (kBody X k ns env body (LQ inv n it' Q))) : ∀ n it ρ σ, inv n it ρ σ → FL X k ns env target body it ρ σ Q := by
  intro n
  induction n with
  | zero => intro it ρ σ h; exact FL.done hk (h0 it ρ σ h).1 (h0 it ρ σ h).2
  | succ n ih =>
    intro it ρ σ h
    obtain ⟨p, it', hn, ht, ha⟩ := step n it ρ σ h
    refine FL.step hk hn ht (ha.mono fun ρ₁ σ₁ hb => EX.mono hb fun f ρ₂ σ₂ hf => ?_)
    cases f with
    | next => exact ih _ _ _ hf
    | cont => exact ih _ _ _ hf
    | brk => exact hf
    | ret p => exact hf

theorem CL.loop {elt target iter : Expr} {ifs : List Expr} {scope : Scope} {pos : Pos} {D : Addr} {ρ : List (Option PV)} {Q : Store → Prop} (S : EnvS ns gs env) (hk : 8 ≤ k) (inv : Nat → It → Store → Prop)
    (h0 : ∀ it σ, inv 0 it σ → Nxt it σ none ∧ Q σ)
    (step : ∀ n it σ, inv (n + 1) it σ → ∃ p it', Nxt it σ (some (p, it')) ∧ ((∀ a i, it ≠ .enl a i) ∨ isTup target = true) ∧ ASGL X k ns env target p ρ fun ρ₁ => Weak ρ ρ₁ ∧ IFS X k ns env ifs ρ₁ σ (kIfs X k ns env elt ρ₁ (kElt D inv n it') (inv n it'))) : ∀ n it σ, inv n it σ → CL X k ns env elt target iter ifs scope pos it D ρ σ Q := by
  intro n
  induction n with
  | zero => intro it σ h; exact CL.done hk (h0 it σ h).1 (h0 it σ h).2
  | succ n ih =>
    intro it σ h
    obtain ⟨p, it', hn, ht, ha⟩ := step n it σ h
    refine CL.step S hk hn ht ?_
    intro A σ₀ s v Q' E R M e r hQ
    refine ha A σ₀ s v Q' E R M e r fun ρ₁ s₁ hb M₁ e₁ t₁ => hQ ρ₁ s₁ ?_ M₁ e₁ t₁
    obtain ⟨hw, hb⟩ := hb
    intro A s Q' E R M e hQ
    refine hb A s Q' E R M e fun ok σ₁ s₁ hc M₁ t₁ => hQ ok σ₁ s₁ ?_ M₁ t₁
    cases ok with
    | false => rw [if_neg Bool.false_ne_true]; exact (ih _ _ hc).weak hw
    | true =>
      rw [if_pos rfl]
      replace hc : EV X k ns env elt ρ₁ σ₁ (kElt D inv n it') := hc
      exact TV.mono hc fun y σ₂ hy => let ⟨xs, h1, h2, h3⟩ := hy; ⟨xs, h1, h2, (ih _ _ h3).weak hw⟩

section
variable {ρ : List (Option PV)} {σ : Store} {Q : PV → Store → Prop} {o : Expr} {apos pos : Pos} {args : List Expr}
theorem EV.m_append (h : EV X k ns env o ρ σ (kMeth X k ns env pos args ρ "list" "list.append" Q))
    (hbase : attributeBase o (Str.ofString "append") env (eval o env) = eval o env := by rfl)
    (hform : ((((backTo pos (starEach args env)).all fun x => !x.fst) && (backToKw pos (keywordEach [] env)).all fun x => x.fst.isSome) && decide ((args.length + ([] : List Keyword).length + if ([] : List Keyword).isEmpty = true then 0 else 1) < 30)) = true := by rfl)
    (hline : (apos.endLine == pos.line) = true := by rfl) (hno : (backTo pos (starEach args env)).any (·.1) = false := by rfl) : EV X k ns env (.Call (.Attribute o (Str.ofString "append") apos) args [] pos) ρ σ Q :=
  EV.meth F.slot_list_append rfl F.plainAttrs_list (by decide) h hbase hform hline hno
theorem EV.m_insert (h : EV X k ns env o ρ σ (kMeth X k ns env pos args ρ "list" "list.insert" Q))
    (hbase : attributeBase o (Str.ofString "insert") env (eval o env) = eval o env := by rfl)
    (hform : ((((backTo pos (starEach args env)).all fun x => !x.fst) && (backToKw pos (keywordEach [] env)).all fun x => x.fst.isSome) && decide ((args.length + ([] : List Keyword).length + if ([] : List Keyword).isEmpty = true then 0 else 1) < 30)) = true := by rfl)
    (hline : (apos.endLine == pos.line) = true := by rfl) (hno : (backTo pos (starEach args env)).any (·.1) = false := by rfl) : EV X k ns env (.Call (.Attribute o (Str.ofString "insert") apos) args [] pos) ρ σ Q :=
  EV.meth F.slot_list_insert rfl F.plainAttrs_list (by decide) h hbase hform hline hno
theorem EV.m_join (h : EV X k ns env o ρ σ (kMeth X k ns env pos args ρ "str" "str.join" Q))
    (hbase : attributeBase o (Str.ofString "join") env (eval o env) = eval o env := by rfl)
    (hform : ((((backTo pos (starEach args env)).all fun x => !x.fst) && (backToKw pos (keywordEach [] env)).all fun x => x.fst.isSome) && decide ((args.length + ([] : List Keyword).length + if ([] : List Keyword).isEmpty = true then 0 else 1) < 30)) = true := by rfl)
    (hline : (apos.endLine == pos.line) = true := by rfl) (hno : (backTo pos (starEach args env)).any (·.1) = false := by rfl) : EV X k ns env (.Call (.Attribute o (Str.ofString "join") apos) args [] pos) ρ σ Q :=
  EV.meth F.slot_str_join rfl F.plainAttrs_str (by decide) h hbase hform hline hno
theorem EV.m_lower (h : EV X k ns env o ρ σ (kMeth X k ns env pos args ρ "str" "str.lower" Q))
    (hbase : attributeBase o (Str.ofString "lower") env (eval o env) = eval o env := by rfl)
    (hform : ((((backTo pos (starEach args env)).all fun x => !x.fst) && (backToKw pos (keywordEach [] env)).all fun x => x.fst.isSome) && decide ((args.length + ([] : List Keyword).length + if ([] : List Keyword).isEmpty = true then 0 else 1) < 30)) = true := by rfl)
    (hline : (apos.endLine == pos.line) = true := by rfl) (hno : (backTo pos (starEach args env)).any (·.1) = false := by rfl) : EV X k ns env (.Call (.Attribute o (Str.ofString "lower") apos) args [] pos) ρ σ Q :=
  EV.meth F.slot_str_lower rfl F.plainAttrs_str (by decide) h hbase hform hline hno
end
theorem INP.sub {a b : Int} {σ : Store} {Q : PV → Store → Prop} (hq : Q (.int (a - b)) σ) : INP X k .Sub (.int a) (.int b) σ Q := by
  intro A s vs Q' E R M r hQ
  obtain ⟨v, w, rfl, r1, r2⟩ := r.two; (first | (obtain ⟨_, rfl⟩ := Rel.int_inv r1) | (obtain ⟨_, rfl⟩ := Rel.str_inv r1) | (obtain rfl := Rel.lst_inv r1) | (obtain rfl := Rel.bool_inv r1) | (obtain rfl := Rel.none_inv r1) | (obtain rfl := Rel.raw_inv r1) | cases r1); (first | (obtain ⟨_, rfl⟩ := Rel.int_inv r2) | (obtain ⟨_, rfl⟩ := Rel.str_inv r2) | (obtain rfl := Rel.lst_inv r2) | (obtain rfl := Rel.bool_inv r2) | (obtain rfl := Rel.none_inv r2) | (obtain rfl := Rel.raw_inv r2) | cases r2)
  exact isub_int (KV.toks hQ M hq fun _ => .int _ _)
theorem Nxt.lstE' {a : Addr} {i : Nat} {σ : Store} {xs : List PV} (h : σ a = some xs) (hi : xs.length ≤ i) : Nxt (.lst a i) σ none := .lstE h (List.getElem?_eq_none hi)

noncomputable def Ext (σ σ' : Store) : Prop := ∀ a xs, σ a = some xs → σ' a = some xs
theorem Ext.refl {σ : Store} : Ext σ σ := fun _ _ h => h
theorem Ext.trans {σ σ₁ σ₂ : Store} (a : Ext σ σ₁) (b : Ext σ₁ σ₂) : Ext σ σ₂ := fun c xs h => b c xs (a c xs h)
theorem Ext.new {σ : Store} {a : Addr} {xs : List PV} (h : σ a = none) : Ext σ (Store.set σ a xs) := fun c ys e => by
  rw [Store.set_ne (fun q => by rw [q, h] at e; cases e)]; exact e
theorem Ext.upd {σ σ₁ : Store} {a : Addr} {xs : List PV} (h : σ a = none) (x : Ext σ σ₁) : Ext σ (Store.set σ₁ a xs) := fun c ys e => by
  rw [Store.set_ne (fun q => by rw [q, h] at e; cases e)]; exact x c ys e
theorem set_set {σ : Store} {a : Addr} {xs ys : List PV} : Store.set (Store.set σ a xs) a ys = Store.set σ a ys := by
  funext b; by_cases h : b = a <;> simp [Store.set, h]
end

open PySem PySem.W PyProof.Rows PySem.Spec PySem.Calls
set_option maxRecDepth 100000

noncomputable def NoDbg (ns gs : List Str) : Prop := ∀ x, x ∈ ns ++ gs → (x == ("__debug__" : Str)) = false ∧ (x == ("__classdict__" : Str)) = false
theorem NoDbg.of {ns gs : List Str} (h : ((ns ++ gs).all fun x => (x == ("__debug__" : Str)) == false && (x == ("__classdict__" : Str)) == false) = true) : NoDbg ns gs := by
  intro x hx
  have := List.all_eq_true.mp h x hx
  simpa using this
theorem NoDbg.dn {ns gs : List Str} (h : NoDbg ns gs) {x : Str} (hx : x ∈ ns) : (x == ("__debug__" : Str)) = false := (h x (List.mem_append_left _ hx)).1
theorem NoDbg.dg {ns gs : List Str} (h : NoDbg ns gs) {x : Str} (hx : x ∈ gs) : (x == ("__debug__" : Str)) = false := (h x (List.mem_append_right _ hx)).1
theorem NoDbg.c {ns gs : List Str} (h : NoDbg ns gs) {x : Str} (hx : x ∈ ns) : (x == ("__classdict__" : Str)) = false := (h x (List.mem_append_left _ hx)).2
theorem cast_min (a b : Nat) : min (a : Int) (b : Int) = ((min a b : Nat) : Int) := by
  rcases Nat.le_total a b with h | h
  · rw [Nat.min_eq_left h, Int.min_eq_left (Int.ofNat_le.mpr h)]
  · rw [Nat.min_eq_right h, Int.min_eq_right (Int.ofNat_le.mpr h)]
theorem clip_nat (n i : Nat) : clipAt n (i : Int) = min i n := by
  unfold clipAt
  rw [if_neg (Int.not_lt.mpr (Int.natCast_nonneg i)), cast_min, Int.max_eq_right (Int.natCast_nonneg _), Int.toNat_natCast]
theorem clip_neg (n j : Nat) (h0 : 0 < j) (hj : j ≤ n) : clipAt n (-(j : Int)) = n - j := by
  unfold clipAt
  have e : -(j : Int) + n = ((n - j : Nat) : Int) := by rw [Int.natCast_sub hj, Int.add_comm]; rfl
  rw [if_pos (Int.neg_neg_of_pos (Int.natCast_pos.mpr h0)), e, cast_min, Int.max_eq_right (Int.natCast_nonneg _), Int.toNat_natCast, Nat.min_eq_left (Nat.sub_le n j)]
theorem cut_from {α : Type} (x : List α) (i : Nat) : cut x (some (i : Int)) none = x.drop i := by
  show (x.drop (clipAt x.length i)).take (x.length - clipAt x.length i) = _
  rw [clip_nat, List.take_of_length_le (by rw [List.length_drop]; exact Nat.le_refl _)]
  rcases Nat.le_total i x.length with h | h
  · rw [Nat.min_eq_left h]
  · rw [Nat.min_eq_right h, List.drop_length, List.drop_eq_nil_of_le h]
theorem cut_upto {α : Type} (x : List α) (j : Nat) (h0 : 0 < j) (hj : j ≤ x.length) : cut x none (some (-(j : Int))) = x.take (x.length - j) := by
  show (x.drop 0).take (clipAt x.length (-(j : Int)) - 0) = _
  rw [clip_neg _ _ h0 hj]; rfl
theorem cut_all {α : Type} (x : List α) : cut x none none = x := by
  show (x.drop 0).take (x.length - 0) = x
  exact List.take_length
theorem cut_mid {α : Type} (x : List α) (i j : Nat) (hj : j ≤ x.length) : cut x (some (i : Int)) (some (j : Int)) = (x.drop i).take (j - i) := by
  show (x.drop (clipAt x.length i)).take (clipAt x.length j - clipAt x.length i) = _
  rw [clip_nat, clip_nat, Nat.min_eq_left hj]
  rcases Nat.le_total i x.length with h | h
  · rw [Nat.min_eq_left h]
  · rw [Nat.min_eq_right h, List.drop_length, List.drop_eq_nil_of_le h, List.take_nil, List.take_nil]
theorem cut_to {α : Type} (x : List α) (j : Nat) (hj : j ≤ x.length) : cut x none (some (j : Int)) = x.take j := by
  show (x.drop 0).take (clipAt x.length j - 0) = _
  rw [clip_nat, Nat.min_eq_left hj]; rfl

noncomputable def compB (scope : Scope) (onames : List (Str × NameKind)) (cap loc gs : List Str) : Bool :=
  decide (scope.kind = .function ∧ scope.isCoroutine = false ∧ (scope.names.map (·.1)).Nodup ∧ (∀ x ∈ scope.names, x.2 = .free → x.1 ∈ cap) ∧ (∀ x ∈ scope.names, x.2 ≠ .cell) ∧
    (∀ x ∈ scope.names, x.2 = .local → scope.names.lookup x.1 = some .local) ∧ (∀ x ∈ cap, (x, NameKind.free) ∈ scope.names ∧ scope.names.lookup x = some .free ∧ onames.lookup x ≠ some .local) ∧
    (∀ x ∈ loc, scope.names.lookup x = some .local) ∧ (∀ x ∈ gs, scope.names.lookup x = some .globalImplicit) ∧ (cap ++ loc).Nodup)
theorem CompS.of {scope : Scope} {onames : List (Str × NameKind)} {cap loc gs : List Str} (h : compB scope onames cap loc gs = true) : CompS scope onames cap loc gs := by
  obtain ⟨h1, h2, h3, h4, h5, h6, h7, h8, h9, h10⟩ := of_decide_eq_true h
  exact ⟨h1, h2, h3, h4, h5, h6, h7, h8, h9, h10⟩

noncomputable def New (σ σ' : Store) (p : PV) (xs : List PV) : Prop := ∃ r, p = .lst r ∧ σ r = none ∧ σ' r = some xs ∧ Ext σ σ'

section
variable {X : Cx} {k : Nat} {ns gs : List Str} {env : Env} {ρ : List (Option PV)} {σ : Store}

theorem EV.nameD {x : Str} {pos : Pos} {p : PV} {Q : PV → Store → Prop} (S' : EnvS ns gs env) (D : NoDbg ns gs) (l : Look ns ρ x p) (hq : Q p σ) : EV X k ns env (.Name x pos) ρ σ Q := EV.name S' l hq (D.dn l.mem) (D.c l.mem)
theorem EV.globD {x : Str} {pos : Pos} {p : PV} {Q : PV → Store → Prop} (S' : EnvS ns gs env) (D : NoDbg ns gs) (G : X.Glob x p) (hg : x ∈ gs) (hq : Q p σ) : EV X k ns env (.Name x pos) ρ σ Q := EV.glob S' hg G hq (D.dg hg)
theorem EX1.augD {x : Str} {p' pos : Pos} {op : Operator} {value : Expr} {Q : PF → List (Option PV) → Store → Prop} (S' : EnvS ns gs env) (D : NoDbg ns gs) {p : PV} (l : Look ns ρ x p)
    (h : EV X k ns env value ρ σ (kAug X k ns env op p x ρ Q)) : EX1 X k ns env (.AugAssign (.Name x p') op value pos) ρ σ Q := EX1.aug S' l h (D.c l.mem)
theorem EV.callD {x : Str} {np pos : Pos} {args : List Expr} {f : Value} {Q : PV → Store → Prop} (S' : EnvS ns gs env) (D : NoDbg ns gs) (G : X.Glob x (.raw f)) (hf : ∀ a, f ≠ .ref a) (hg : x ∈ gs)
    (hno : (backTo pos (starEach args env)).any (·.1) = false) (h : EVS X k ns env pos args ρ σ (kCB X k f Q)) : EV X k ns env (.Call (.Name x np) args [] pos) ρ σ Q := EV.callB S' hg G hf h hno (D.dg hg)
theorem ST.mono {x : Str} {p : PV} {Q₁ Q₂ : List (Option PV) → Store → Prop} (h : ST X k ns env x p ρ σ Q₁) (hq : ∀ ρ' σ', Q₁ ρ' σ' → Q₂ ρ' σ') : ST X k ns env x p ρ σ Q₂ :=
  fun A s v Q' E R M e r hQ => h A s v Q' E R M e r fun ρ' σ' s' q => hQ ρ' σ' s' (hq _ _ q)
noncomputable abbrev kST' (X : Cx) (k : Nat) (ns : List Str) (env : Env) (x : Str) (p : PV) (K : List (Option PV) → Store → Prop) : List (Option PV) → Store → Prop := fun ρ σ => ST X k ns env x p ρ σ K
noncomputable abbrev kS2 (X : Cx) (k : Nat) (ns : List Str) (env : Env) (x y : Str) (ρ : List (Option PV)) (Q : PF → List (Option PV) → Store → Prop) : PV → Store → Prop := fun p σ => ∃ a b, p = .tup [a, b] ∧ ST X k ns env y b ρ σ (kST' X k ns env x a (kNext Q))
noncomputable abbrev kS3 (X : Cx) (k : Nat) (ns : List Str) (env : Env) (x y z : Str) (ρ : List (Option PV)) (Q : PF → List (Option PV) → Store → Prop) : PV → Store → Prop := fun p σ => ∃ a b c, p = .tup [a, b, c] ∧ ST X k ns env z c ρ σ (kST' X k ns env y b (kST' X k ns env x a (kNext Q)))
theorem EX1.assignS2 {x y : Str} {px py p' pos : Pos} {kk : Nat} {value : Expr} {Q : PF → List (Option PV) → Store → Prop} (hw : swappedStores [.Tuple [.Name x px, .Name y py] kk p'] value env = pure (some [x, y]))
    (hs : swapsWithSole [.Tuple [.Name x px, .Name y py] kk p'] value pos.line env = pure false)
    (h : EV X k ns env value ρ σ (kS2 X k ns env x y ρ Q)) : EX1 X k ns env (.Assign [.Tuple [.Name x px, .Name y py] kk p'] value pos) ρ σ Q := by
  refine EX1.assignS hw ?_ hs
  refine TV.mono h fun p σ₁ h => ?_
  obtain ⟨a, b, rfl, h⟩ := h
  refine ⟨[a, b], rfl, rfl, STS.cons (ST.mono h fun ρ₂ σ₂ h => STS.cons (ST.mono h fun ρ₃ σ₃ h => STS.nil h))⟩
theorem EX1.assignS3 {x y z : Str} {px py pz p' pos : Pos} {kk : Nat} {value : Expr} {Q : PF → List (Option PV) → Store → Prop} (hw : swappedStores [.Tuple [.Name x px, .Name y py, .Name z pz] kk p'] value env = pure (some [x, y, z]))
    (hs : swapsWithSole [.Tuple [.Name x px, .Name y py, .Name z pz] kk p'] value pos.line env = pure false)
    (h : EV X k ns env value ρ σ (kS3 X k ns env x y z ρ Q)) : EX1 X k ns env (.Assign [.Tuple [.Name x px, .Name y py, .Name z pz] kk p'] value pos) ρ σ Q := by
  refine EX1.assignS hw ?_ hs
  refine TV.mono h fun p σ₁ h => ?_
  obtain ⟨a, b, c, rfl, h⟩ := h
  refine ⟨[a, b, c], rfl, rfl, STS.cons (ST.mono h fun ρ₁ σ₁ h => STS.cons (ST.mono h fun ρ₂ σ₂ h => STS.cons (ST.mono h fun ρ₃ σ₃ h => STS.nil h)))⟩
noncomputable abbrev JQ (R : List (Option PV) → Store → Prop) : PF → List (Option PV) → Store → Prop := fun f ρ' σ' => f = .next ∧ R ρ' σ'
theorem EX1.join {st : Stmt} {Q : PF → List (Option PV) → Store → Prop} (R : List (Option PV) → Store → Prop) (h : EX1 X k ns env st ρ σ (JQ R)) (hq : ∀ ρ' σ', R ρ' σ' → Q .next ρ' σ') : EX1 X k ns env st ρ σ Q :=
  fun A s Q' E R M e hQ => h A s Q' E R M e fun f ρ' σ' fl s' q => by
    obtain ⟨rfl, hr⟩ := q
    exact hQ _ ρ' σ' fl s' (hq _ _ hr)

theorem WH.join {test : Expr} {body : List Stmt} {Q : PF → List (Option PV) → Store → Prop} (R : List (Option PV) → Store → Prop) (h : WH X k ns env test body ρ σ (JQ R)) (hq : ∀ ρ' σ', R ρ' σ' → Q .next ρ' σ') : WH X k ns env test body ρ σ Q :=
  fun A s R' RR M e hQ => h A s R' RR M e fun f ρ' σ' fl s' q => by
    obtain ⟨rfl, hr⟩ := q
    exact hQ _ ρ' σ' fl s' (hq _ _ hr)
theorem FL.join {target : Expr} {body : List Stmt} {it : It} {Q : PF → List (Option PV) → Store → Prop} (R : List (Option PV) → Store → Prop) (h : FL X k ns env target body it ρ σ (JQ R)) (hq : ∀ ρ' σ', R ρ' σ' → Q .next ρ' σ') : FL X k ns env target body it ρ σ Q :=
  fun A s v own gown R' RR M e I O hd hQ => h A s v own gown R' RR M e I O hd fun f ρ' σ' fl s' q => by
    obtain ⟨rfl, hr⟩ := q
    exact hQ _ ρ' σ' fl s' (hq _ _ hr)

noncomputable def LCI (X : Cx) (k : Nat) (env : Env) (scope : Scope) (cap loc gs' : List Str) (capP : List PV) (elt target : Expr) (ifs : List Expr) (it : It) (σ₁ : Store) (Qf : Addr → Store → Prop) : Prop :=
  ∀ D, σ₁ D = none → ∃ (inv : Nat → It → Store → Prop) (n : Nat), inv n it (Store.set σ₁ D []) ∧ (∀ it τ, inv 0 it τ → Nxt it τ none ∧ Qf D τ) ∧
    ∀ C, EnvS (cap ++ loc) gs' (compEnvC scope (capL scope env) C env) → ∀ n it τ, inv (n + 1) it τ → ∃ p it', Nxt it τ (some (p, it')) ∧ ((∀ a i, it ≠ .enl a i) ∨ isTup target = true) ∧
      ASGL X k (cap ++ loc) (compEnvC scope (capL scope env) C env) target p (capP.map some ++ List.replicate loc.length none) fun ρ₁ => Weak (capP.map some ++ List.replicate loc.length none) ρ₁ ∧
        IFS X k (cap ++ loc) (compEnvC scope (capL scope env) C env) ifs ρ₁ τ (kIfs X k (cap ++ loc) (compEnvC scope (capL scope env) C env) elt ρ₁ (kElt D inv n it') (inv n it'))
noncomputable abbrev kLst (Q : PV → Store → Prop) : Addr → Store → Prop := fun D σ => Q (.lst D) σ
noncomputable abbrev kLCI (X : Cx) (k : Nat) (env : Env) (scope : Scope) (cap loc gs' : List Str) (capP : List PV) (elt target : Expr) (ifs : List Expr) (Qf : Addr → Store → Prop) : It → Store → Prop := fun it σ => LCI X k env scope cap loc gs' capP elt target ifs it σ Qf
noncomputable abbrev kSTL (X : Cx) (k : Nat) (ns : List Str) (env : Env) (y : Str) (ρ : List (Option PV)) (Q : PF → List (Option PV) → Store → Prop) : Addr → Store → Prop := fun D σ => ST X k ns env y (.lst D) ρ σ (kNext Q)
theorem LCI.cl {scope : Scope} {cap loc gs' : List Str} {capP : List PV} {elt target iter : Expr} {ifs : List Expr} {pos : Pos} {it : It} {Qf : Addr → Store → Prop} (S' : EnvS ns gs env) (C : CompS scope env.scope.names cap loc gs') (hk : 8 ≤ k)
    (h : LCI X k env scope cap loc gs' capP elt target ifs it σ Qf) : ∀ D C, σ D = none → CL X k (cap ++ loc) (compEnvC scope (capL scope env) C env) elt target iter ifs scope pos it D (capP.map some ++ List.replicate loc.length none) (Store.set σ D []) (Qf D) := by
  intro D a hD
  obtain ⟨inv, n, hi, h0, hs⟩ := h D hD
  exact CL.loop (C.envS S' _ _) hk inv h0 (hs a (C.envS S' _ _)) n it _ hi
theorem EV.lc {scope : Scope} {cap loc gs' : List Str} {capP : List PV} {elt target iter : Expr} {ifs : List Expr} {pos : Pos} {Q : PV → Store → Prop} (S' : EnvS ns gs env) (hC : compB scope env.scope.names cap loc gs' = true) (K : CapOk ns ρ cap capP) (hk : 8 ≤ k)
    (hs : ∀ x, foldedSetIterable iter env x = pure x)
    (h : EVI X k ns env iter ρ σ (kLCI X k env scope cap loc gs' capP elt target ifs (kLst Q))) : EV X k ns env (.ListComp elt [⟨target, iter, ifs, 0⟩] scope pos) ρ σ Q := by
  refine EV.listcomp S' (CompS.of hC) K ?_ hs
  intro A s Q' E R M e hQ
  exact h A s Q' E R M e fun it own gown v σ' s' q => hQ it own gown v σ' s' (q.cl S' (CompS.of hC) hk)
theorem EX1.lc {y : Str} {py spos : Pos} {scope : Scope} {cap loc gs' : List Str} {capP : List PV} {elt target iter : Expr} {ifs : List Expr} {pos : Pos} {Q : PF → List (Option PV) → Store → Prop} (S' : EnvS ns gs env) (hC : compB scope env.scope.names cap loc gs' = true) (K : CapOk ns ρ cap capP) (hk : 8 ≤ k)
    (hsw : swapsWith (.ListComp elt [⟨target, iter, ifs, 0⟩] scope pos) (some (.Name y py)) spos.line env = pure true) (hs : ∀ x, foldedSetIterable iter env x = pure x)
    (h : EVI X k ns env iter ρ σ (kLCI X k env scope cap loc gs' capP elt target ifs (kSTL X k ns env y ρ Q))) : EX1 X k ns env (.Assign [.Name y py] (.ListComp elt [⟨target, iter, ifs, 0⟩] scope pos) spos) ρ σ Q := by
  refine EX1.assignLC S' (CompS.of hC) K hsw ?_ hs
  intro A s Q' E R M e hQ
  exact h A s Q' E R M e fun it own gown v σ' s' q => hQ it own gown v σ' s' (q.cl S' (CompS.of hC) hk)

theorem EV.from {value : Expr} {nm : Str} {np p pos : Pos} {x : List Nat} {i : Nat} {Q : PV → Store → Prop} (S' : EnvS ns gs env) (hv : EV X k ns env value ρ σ fun o σ₁ => o = .str (S x) ∧ σ₁ = σ) (l : Look ns ρ nm (.int (i : Nat)))
    (hsz : x.length ≤ sizeLine) (hd : (nm == ("__debug__" : Str)) = false) (hc : (nm == ("__classdict__" : Str)) = false) (ht : ∀ o r, letTemporaryGo value o r = pure ()) (hq : Q (.str (S (x.drop i))) σ) :
    EV X k ns env (.Subscript value (.Slice (some (.Name nm np)) Option.none Option.none p) pos) ρ σ Q := by
  refine EV.sliceS ?_ ht
  refine TV.mono hv fun o σ₁ h => ?_
  obtain ⟨rfl, rfl⟩ := h
  refine EVO.some (EV.name S' l ?_ hd hc)
  refine EVO.none (EVO.none ⟨.str, SLI.str (lo := some (i : Int)) (hi := Option.none) rfl rfl hsz ?_⟩)
  rw [cut_from]; exact hq
theorem EV.upto {value : Expr} {nm : Str} {np bp cp p pos : Pos} {kk : Nat} {x : List Nat} {j : Nat} {Q : PV → Store → Prop} (S' : EnvS ns gs env) (hv : EV X k ns env value ρ σ fun o σ₁ => o = .str (S x) ∧ σ₁ = σ) (l : Look ns ρ nm (.int (-(j : Nat))))
    (hsz : x.length ≤ sizeLine) (hj : j ≤ x.length) (hd : (nm == ("__debug__" : Str)) = false) (hc : (nm == ("__classdict__" : Str)) = false) (ht : ∀ o r, letTemporaryGo value o r = pure ()) (hq : Q (.str (S (x.take (x.length - j)))) σ) :
    EV X k ns env (.Subscript value (.Slice Option.none (some (.BoolOp .Or [.Name nm np, .Constant .none kk cp] bp)) Option.none p) pos) ρ σ Q := by
  refine EV.sliceS ?_ ht
  refine TV.mono hv fun o σ₁ h => ?_
  obtain ⟨rfl, rfl⟩ := h
  refine EVO.none (EVO.some (EV.or2 (EV.name S' l ?_ hd hc)))
  refine TRU.int ?_
  by_cases h0 : j = 0
  · subst h0
    refine (show ∀ {A B : Prop} {c : Bool}, c = false → B → (if c = true then A else B) from fun h b => by rw [h, if_neg Bool.false_ne_true]; exact b) (by simp) ?_
    refine EV.none (EVO.none ⟨.str, SLI.str (lo := Option.none) (hi := Option.none) rfl rfl hsz ?_⟩)
    rw [cut_all]; simpa using hq
  · refine (show ∀ {A B : Prop} {c : Bool}, c = true → A → (if c = true then A else B) from fun h a => by rw [h, if_pos rfl]; exact a) (by simpa using h0) ?_
    refine EVO.none ⟨.str, SLI.str (lo := Option.none) (hi := some (-(j : Int))) rfl rfl hsz ?_⟩
    rw [cut_upto x j (by (first | lia | omega)) hj]; exact hq
end

open PySem PySem.W PyProof.Rows PySem.Spec PySem.Calls
set_option maxRecDepth 100000

section
variable {X : Cx} {k : Nat} {σ : Store}
theorem all_eq_ints (xs ys : List Int) (h : xs.length = ys.length) : ((List.range xs.length).all fun j => xs.getD j 0 == ys.getD j 0) = (xs == ys) := by
  rw [Bool.eq_iff_iff]
  simp only [List.all_eq_true, List.mem_range, beq_iff_eq]
  constructor
  · intro hh
    refine List.ext_getElem h fun i h1 h2 => ?_
    have := hh i h1
    simpa [List.getD, List.getElem?_eq_getElem h1, List.getElem?_eq_getElem h2] using this
  · rintro rfl j hj; rfl
theorem CMP.eqLI {a b : Addr} {xs ys : List Int} {Q : PV → Store → Prop} (ha : σ a = some (xs.map .int)) (hb : σ b = some (ys.map .int)) (hab : a ≠ b) (hk : 2 ≤ k) (hq : Q (.bool (xs == ys)) σ) : CMP X k .Eq (.lst a) (.lst b) σ Q := by
  intro A s vs Q' E R M r hQ
  obtain ⟨v, w, rfl, r1, r2⟩ := r.two; (first | (obtain ⟨_, rfl⟩ := Rel.int_inv r1) | (obtain ⟨_, rfl⟩ := Rel.str_inv r1) | (obtain rfl := Rel.lst_inv r1) | (obtain rfl := Rel.bool_inv r1) | (obtain rfl := Rel.none_inv r1) | (obtain rfl := Rel.raw_inv r1) | cases r1); (first | (obtain ⟨_, rfl⟩ := Rel.int_inv r2) | (obtain ⟨_, rfl⟩ := Rel.str_inv r2) | (obtain rfl := Rel.lst_inv r2) | (obtain rfl := Rel.bool_inv r2) | (obtain rfl := Rel.none_inv r2) | (obtain rfl := Rel.raw_inv r2) | cases r2)
  obtain ⟨us, hp, r⟩ := M.lists _ _ ha
  obtain ⟨us2, hp2, r2⟩ := M.lists _ _ hb
  show wpAny _ A (compareOp .Eq (.ref a) (.ref b)) Q' E s
  have hu : A.units < cLine := by have := R.units; simp only [cLine]; (first | lia | omega)
  have h1 : xs.length = us.length := by simpa using r.1
  have h2 : ys.length = us2.length := by simpa using r2.1
  by_cases hl : xs.length = ys.length
  · refine SeqAt.eq_listAt (e := fun j => xs.getD j 0 == ys.getD j 0) hp.isList hp2.isList (by simp; (first | lia | omega)) hu (fun j h1' h2' => ?_) ?_
    · have hj : j < xs.length := by simp at h1'; (first | lia | omega)
      have hj2 : j < ys.length := by (first | lia | omega)
      have e1 := r.2 j (.int xs[j]) us[j] (by simp [hj]) (by simp [show j < us.length by (first | lia | omega)])
      have e2 := r2.2 j (.int ys[j]) us2[j] (by simp [hj2]) (by simp [show j < us2.length by (first | lia | omega)])
      have g1 : xs.getD j 0 = xs[j] := by simp [List.getD, List.getElem?_eq_getElem hj]
      have g2 : ys.getD j 0 = ys[j] := by simp [List.getD, List.getElem?_eq_getElem hj2]
      show SeqAt.EqAt A.in1 s us[j] us2[j] _
      rw [g1, g2]
      generalize us[j] = v at e1
      generalize us2[j] = u at e2
      cases e1; cases e2
      exact SeqAt.EqAt.int_int _ _ _ _
    · rw [show us.toArray.size = xs.length by simpa using h1.symm, all_eq_ints xs ys hl]
      exact KV.same hQ M hq (.bool _)
  · have : (xs == ys) = false := by
      rw [beq_eq_false_iff_ne]; intro q; exact hl (by rw [q])
    rw [this] at hq
    exact SeqAt.eq_list_lengthsAt hp.isList hp2.isList (by simp; (first | lia | omega)) hu (KV.same hQ M hq (.bool _))
end

open PySem PySem.W PyProof.Rows PySem.Spec PySem.Calls
set_option maxRecDepth 100000

section
variable {X : Cx} {k : Nat} {ns gs : List Str} {env : Env} {ρ : List (Option PV)} {σ : Store}
structure BL (X : Cx) (sc : Addr) (xs : List Int) : Prop where
  nex : sc ∉ X.ex
  is : ∃ vs : List Value, X.B.IsList sc vs.toArray ∧ vs.length = xs.length ∧ ∀ i, ∀ (h : i < vs.length) (h' : i < xs.length), ∃ t, vs[i] = .int xs[i] t
theorem BL.at {sc : Addr} {xs : List Int} (b : BL X sc xs) {s : Shared} (M : Match X σ s) : ∃ vs : List Value, s.heap.IsList sc vs.toArray ∧ RelL s.heap (xs.map .int) vs := by
  obtain ⟨vs, ⟨o, ho, r⟩, hl, hi⟩ := b.is
  refine ⟨vs, ⟨o, M.base _ _ ho b.nex, r⟩, by simp [hl], fun i x v hx hv => ?_⟩
  rw [List.getElem?_map] at hx
  have hv' := List.getElem?_eq_some_iff.mp hv
  obtain ⟨h1, rfl⟩ := hv'
  have h2 : i < xs.length := by (first | lia | omega)
  rw [List.getElem?_eq_getElem h2] at hx
  simp at hx; subst hx
  obtain ⟨t, e⟩ := hi i h1 h2
  rw [e]; exact .int _ _
theorem SLI.bl {sc : Addr} {xs : List Int} {l u st : PV} {lo hi sp : Option Int} {Q : PV → Store → Prop} (b : BL X sc xs) (hl : partPV l = some lo) (hu : partPV u = some hi) (hs : partPV st = some sp) (h0 : sp ≠ some 0) (hsz : xs.length ≤ sizeLine)
    (hq : ∀ c, σ c = .none → Q (.lst c) (Store.set σ c (pickL (xs.map .int) lo hi sp))) : SLI X k (.raw (.ref sc)) l u st σ Q := by
  intro A s vs Q' E R M r hQ
  obtain ⟨v, w, y, z, rfl, r1, r2, r3, r4⟩ := r.four; (first | (obtain ⟨_, rfl⟩ := Rel.int_inv r1) | (obtain ⟨_, rfl⟩ := Rel.str_inv r1) | (obtain rfl := Rel.lst_inv r1) | (obtain rfl := Rel.bool_inv r1) | (obtain rfl := Rel.none_inv r1) | (obtain rfl := Rel.raw_inv r1) | cases r1)
  obtain ⟨us, hp, ru⟩ := b.at M
  have hlen : us.length = xs.length := by simpa using ru.1.symm
  refine wpAny_bind (wpAny_newObj_type ?_ (by size_fits))
  refine wpAny_getItem_list_slice (hp.push _) (Heap.IsSliceOf.new s.heap w y z) (isPart_of hl r2) (isPart_of hu r3) (isPart_of hs r4) h0 ?_ (by simpa [hlen] using hsz)
  have e : slicePick us.toArray lo hi sp = ((pickIdx lo hi sp (xs.map PV.int).length).filterMap (us[·]?)).toArray := by
    unfold slicePick pickIdx
    simp [hlen]
  rw [e]
  obtain ⟨M', t⟩ := step_keep (X := X) (wr := []) (gw := []) (tk := s.toks) M (push_keeps s.heap { cls := .type "slice", data := .fields #[w, y, z] })
  obtain ⟨M'', t'⟩ := step_newList (X := X) (wr := []) (gw := []) (tk := s.toks) M' (push_keeps _ _) (get_size_none _) (push_plain _ _) (relL_pick (ru.tr0 M t) (pickIdx lo hi sp (xs.map PV.int).length))
  exact hQ _ _ _ _ (hq _ (M'.fresh_list (get_size_none _))) M'' (.lst _) (t.trans t')
theorem EV.sliceBL {value : Expr} {lo up : Option Expr} {p pos : Pos} {Q : PV → Store → Prop}
    (h : EV X k ns env value ρ σ fun o σ₁ => EVO X k ns env lo ρ σ₁ fun l σ₂ => EVO X k ns env up ρ σ₂ fun u σ₃ => EVO X k ns env Option.none ρ σ₃ fun z σ₄ => (∃ sc xs, BL X sc xs ∧ o = .raw (.ref sc)) ∧ SLI X k o l u z σ₄ Q)
    (ht : ∀ o r, letTemporaryGo value o r = pure () := by intro _ _; rfl) : EV X k ns env (.Subscript value (.Slice lo up Option.none p) pos) ρ σ Q := by
  intro A s Q' E R M e hQ
  refine wpAny_Subscript_Slice (T := "list") slot_list_getitem.lookup (h A s _ E R M e fun o σ₁ v₁ s₁ h₁ M₁ r₁ t₁ => ?_) ht
  refine wpAny_Slice ?_
  refine h₁ A s₁ _ E R M₁ (e.tr0 M t₁) fun l σ₂ v₂ s₂ h₂ M₂ r₂ t₂ => ?_
  refine h₂ A s₂ _ E R M₂ ((e.tr0 M t₁).tr0 M₁ t₂) fun u σ₃ v₃ s₃ h₃ M₃ r₃ t₃ => ?_
  refine h₃ A s₃ _ E R M₃ (((e.tr0 M t₁).tr0 M₁ t₂).tr0 M₂ t₃) fun z σ₄ v₄ s₄ h₄ M₄ r₄ t₄ => ?_
  obtain ⟨⟨sc, xs, b, rfl⟩, h₄⟩ := h₄
  have ro := ((r₁.tr0 M₁ t₂).tr0 M₂ t₃).tr0 M₃ t₄
  have rl := (r₂.tr0 M₂ t₃).tr0 M₃ t₄
  have ru := r₃.tr0 M₃ t₄
  refine ⟨?_, slice_use (h₄ A s₄ [v₁, v₂, v₃, v₄] Q' E R M₄ (.cons ro (.cons rl (.cons ru (.cons r₄ .nil)))) fun q σ₅ v₅ s₅ hq M₅ r₅ t₅ => hQ q σ₅ v₅ s₅ hq M₅ r₅ ((((t₁.trans t₂).trans t₃).trans t₄).trans t₅))⟩
  obtain ⟨M', t⟩ := step_keep (X := X) (wr := []) (gw := []) (tk := s₄.toks) M₄ (push_keeps s₄.heap { cls := .type "slice", data := .fields #[v₂, v₃, v₄] })
  obtain ⟨us, ⟨o, ho, hc, _⟩, _⟩ := b.at M'
  (first | (obtain ⟨_, rfl⟩ := Rel.int_inv ro) | (obtain ⟨_, rfl⟩ := Rel.str_inv ro) | (obtain rfl := Rel.lst_inv ro) | (obtain rfl := Rel.bool_inv ro) | (obtain rfl := Rel.none_inv ro) | (obtain rfl := Rel.raw_inv ro) | cases ro)
  exact ⟨o, ho, hc⟩
theorem CB.lenBL {sc : Addr} {xs : List Int} {Q : PV → Store → Prop} (b : BL X sc xs) (hfit : (xs.length : Int) < 2 ^ 62) (hq : Q (.int xs.length) σ) : CB X k (.builtin "len") [.raw (.ref sc)] σ Q := by
  intro A s vs Q' E R M r hQ
  obtain ⟨v, rfl, r1⟩ := r.one; (first | (obtain ⟨_, rfl⟩ := Rel.int_inv r1) | (obtain ⟨_, rfl⟩ := Rel.str_inv r1) | (obtain rfl := Rel.lst_inv r1) | (obtain rfl := Rel.bool_inv r1) | (obtain rfl := Rel.none_inv r1) | (obtain rfl := Rel.raw_inv r1) | cases r1)
  obtain ⟨us, hp, ru⟩ := b.at M
  have e : us.toArray.size = xs.length := by simpa using ru.1.symm
  refine PyProof.Rows.len_list hp (by rw [e]; (first | lia | omega)) ?_
  rw [e]
  exact KV.toks hQ M hq fun _ => .int _ _
end

open PySem PySem.W PyProof.Rows PySem.Spec PySem.Calls
set_option maxRecDepth 100000

noncomputable def TabTI (P : Addr) (ln cl : Int) (qual : Str) (h : Heap) : Prop :=
  ∃ ps, h.get? P = some (tabObj ps) ∧ (ps = #[] ∨ ∃ c' o vs t, ps = #[rawInt ln, rawInt cl, .ref c'] ∧ h.get? c' = some o ∧ o.cls = .type "code" ∧ o.data = .fields vs ∧ vs[1]? = some (.str qual t))
theorem TabTI.mono {P : Addr} {ln cl : Int} {qual : Str} {h h' : Heap} (hk : ∀ b o, Prot o → h.get? b = some o → h'.get? b = some o) (t : TabTI P ln cl qual h) : TabTI P ln cl qual h' := by
  obtain ⟨ps, h1, h2⟩ := t
  refine ⟨ps, hk _ _ ⟨.inl rfl, _, rfl⟩ h1, ?_⟩
  rcases h2 with h2 | ⟨c', o, vs, t, e1, e2, e3, e4, e5⟩
  · exact .inl h2
  · exact .inr ⟨c', o, vs, t, e1, hk _ _ ⟨.inr e3, _, e4⟩ e2, e3, e4, e5⟩
theorem TabTI.tab {P : Addr} {ln cl : Int} {qual : Str} {h : Heap} (t : TabTI P ln cl qual h) : ∃ o, h.get? P = some o ∧ Tab o :=
  let ⟨ps, h1, _⟩ := t; ⟨_, h1, rfl, _, rfl⟩

structure LamX (X : Cx) (c P : Addr) (ln cl : Int) (qual : Str) : Prop where
  hd : CodeHd X.B c P
  nx : c ≠ P
  ex : ∀ a, a ∈ X.ex ↔ a = P
  ti : X.TI = TabTI P ln cl qual
  bu : X.B.BuiltinsAt X.mg P

section
variable {X : Cx} {k : Nat} {ns gs : List Str} {env : Env} {ρ : List (Option PV)} {σ : Store} {Q : PV → Store → Prop}

theorem step_ex {s : Shared} {wr : List Addr} {gw : List Nat} (M : Match X σ s) {h' : Heap} {tk : Nat} (hk : ∀ b o, b ∉ X.ex → s.heap.get? b = some o → h'.get? b = some o) (ti : X.TI h') :
    Match X σ { s with heap := h', toks := tk } ∧ Tr X wr gw σ s σ { s with heap := h', toks := tk } := by
  refine ⟨⟨fun b o e hx => hk b o hx (M.base b o e hx), fun a xs e => ?_, M.newl, M.gens, ti⟩, ⟨fun b _ hb => ?_, fun b o _ hx _ e => hk b o hx e, fun _ _ _ e => e, Nat.le_refl _, rfl, fun _ _ h _ => h, fun _ h => h⟩⟩
  · obtain ⟨vs, ⟨n, hp⟩, r⟩ := M.lists a xs e
    exact ⟨vs, ⟨n, hk _ _ (M.not_ex hp (not_prot_seq rfl)) hp⟩, r.mono fun b o i eb => hk b o (M.not_ex_imm eb i) eb⟩
  · by_cases hx : b ∈ X.ex
    · obtain ⟨o, e, _⟩ := X.ex_prot _ _ hx ti
      exact ne_of_some e
    · cases e : s.heap.get? b with
      | none => exact absurd e hb
      | some o => exact ne_of_some (hk b o hx e)

theorem LamX.codeHd {c P : Addr} {ln cl : Int} {qual : Str} (L : LamX X c P ln cl qual) {s : Shared} (M : Match X σ s) : CodeHd s.heap c P := by
  obtain ⟨o, vs, file, tf, flags, tg, inF, text, tt, e, r⟩ := L.hd
  exact ⟨o, vs, file, tf, flags, tg, inF, text, tt, M.base _ _ e (fun q => L.nx ((L.ex _).mp q)), r⟩
theorem LamX.buAt {c P : Addr} {ln cl : Int} {qual : Str} (L : LamX X c P ln cl qual) {s : Shared} (M : Match X σ s) : s.heap.BuiltinsAt X.mg P := by
  obtain ⟨bm, o, h1, h2, h3, h4, h5, r⟩ := L.bu
  exact ⟨bm, o, h1, h2, h3, h4, M.base _ _ h5 (fun q => h4 ((L.ex _).mp q)), r⟩

theorem lam_tail {M : Model} {A : Around} {E : Value → Shared → Prop} {Q : Value → Shared → Prop} {s : Shared} {name qual : Str} {params : Arguments} {body : Expr} {scope : Scope} {pos : Pos} {line : Nat} (hcl : closureFor scope env = pure []) (hg : env.globals = mainGlobals)
    (h : wpAny M A (functionCode env pos line name qual params scope (.expr body)) (fun cd s₁ => wpAny M A (builtinsFor mainGlobals env.builtins) (fun bu s₂ => wpAny M A (nsGet mainGlobals "__name__") (fun pm s₃ =>
      wpAny M A (newObj (.type "function") (.func { name, qualname := qual, params, body := .expr body, scope, globals := mainGlobals, closure := [], closureTuple := .none, code := cd, builtins := bu, defaults := .none, kwdefaults := .none, annotations := none, pyModule := pm.getD .none, doc := .none })) Q E s₃) E s₂) E s₁) E s) :
    wpAny M A (makeFunction name qual params (.expr body) scope env [] [] [] pos line) Q E s := by
  rw [makeFunction_eq]
  simp only [List.zip_nil_right, List.filterMap_nil, List.isEmpty_nil, if_true, pure_bind]
  unfold makeTail
  rw [hcl, hg]
  refine wpAny_bind (wpAny_pure ?_)
  simp only [List.isEmpty_nil, if_true]
  refine wpAny_bind (wpAny_pure ?_)
  exact wpAny_bind (wpAny_mono h (fun cd s₁ h₁ => wpAny_bind (wpAny_mono h₁ (fun bu s₂ h₂ => wpAny_bind (wpAny_mono h₂ (fun pm s₃ h₃ => wpAny_bind (wpAny_pure h₃)) fun _ _ x => x)) fun _ _ x => x)) fun _ _ x => x)
theorem EV.lam {c P : Addr} {params : Arguments} {body : Expr} {scope : Scope} {pos : Pos} (L : LamX X c P pos.line pos.col (env.qual ++ ("<lambda>" : Str))) (S : EnvS ns gs env) (hcode : env.code = .ref c)
    (hdf : defaultsOf params env = ([], [])) (hfree : ∀ x ∈ scope.names, x.2 ≠ .free)
    (h : ∀ pm cd ct, Q (.fn (kla_fn ("<lambda>" : Str) (env.qual ++ ("<lambda>" : Str)) params body scope [] pm cd ct)) σ) : EV X k ns env (.Lambda params body scope pos) ρ σ Q := by
  intro A s Q' E R M e hQ
  show wpAny _ A (eval (.Lambda params body scope pos) env) Q' E s
  rw [arm_eval_Lambda, hdf]
  refine wpAny_bind (wpAny_evalAll_nil ?_)
  refine wpAny_bind (wpAny_holding (wpAny_pure ?_))
  have hcl : closureFor scope env = pure [] := by
    have := closureFor_eq (scope := scope) (env := env) (fun x hx hf => absurd hf (hfree x hx))
    rw [this]
    congr 1
    have key : ∀ (l : List (Str × NameKind)) (acc : List (Str × Addr)), (∀ x ∈ l, x.2 ≠ .free) → closL (fun n => env.cells.lookup n) l acc = acc := by
      intro l
      induction l with
      | nil => intro acc _; rfl
      | cons x l ih =>
        intro acc hl
        obtain ⟨n, kd⟩ := x
        have hb : (kd == NameKind.free) = false := by simpa using hl (n, kd) List.mem_cons_self
        show closL _ l (if (kd == NameKind.free) = true then _ else acc) = acc
        rw [if_neg (by rw [hb]; simp)]
        exact ih acc fun y hy => hl y (List.mem_cons_of_mem _ hy)
    exact key _ _ hfree
  have hG : s.heap.Ns mainGlobals X.mg := M.baseNs X.Gns X.exg
  have C := L.codeHd M
  have bu := L.buAt M
  have T := M.ti
  rw [L.ti] at T
  obtain ⟨ps, hP, hps⟩ := T
  have hgP : mainGlobals ≠ P := fun q => X.exg ((L.ex _).mpr q)
  rcases hps with rfl | ⟨c', o, vs, t, rfl, e2, e3, e4, e5⟩
  · obtain ⟨bm, ob, hbm, hne0, _, hneP, hbo, hcls, hdict, hdata⟩ := bu
    refine lam_tail hcl S.globals ?_
    refine wpAny_functionCodeX hcode (C.code hP trivial) (C.tab hP) rfl fun c' h' tk hx hge hlt _ hrec htb htn => ?_
    have hg' := hG.extBut hx hgP
    refine wpAny_builtinsFor hg' hbm hne0 (hx _ _ hneP hbo) hcls hdict hdata ?_
    refine wpAny_nsGet hg' ?_
    refine wpAny_newObj_type ?_ (by size_fits)
    obtain ⟨P', _, _, ⟨o₁, vs₁, f1, f2, f3, _⟩, _⟩ := htn
    obtain ⟨c₂, o₂, vs₂, t₂, g1, g2, g3, g4⟩ := hrec
    cases g1
    rw [f1] at g2; cases g2
    rw [f3] at g3; cases g3
    have kp : ∀ (ob : Obj) b o, h'.get? b = some o → (h'.push ob).get? b = some o := fun ob b o e => Heap.get?_push_of_some ob e
    obtain ⟨M', t'⟩ := step_ex (wr := []) (gw := []) (h' := h'.push (fnObj (kla_fn ("<lambda>" : Str) (env.qual ++ ("<lambda>" : Str)) params body scope [] ((X.mg "__name__").getD .none) (.ref c') .none))) (tk := tk) M
      (fun b o hb eb => kp _ b o (hx b o (fun q => hb ((L.ex _).mpr q)) eb)) (by
        rw [L.ti]
        exact ⟨_, kp _ _ _ htb.2, .inr ⟨c', o₁, vs₁, t₂, rfl, kp _ _ _ f1, f2, f3, g4⟩⟩)
    exact hQ _ _ _ _ (h _ _ _) M' (.fn (Heap.get?_push_size _ rfl) rfl (kp _ _ _ f1) f2 f3 g4) t'
  · refine kla_makeFunctionHit (cv := .ref c') hcl S.globals hG hcode C hP trivial ?_ bu fun ctv h' tk hk hsz => ?_
    · simp [codeAmong, rawInt]
    · have kp : ∀ (ob : Obj) b o, s.heap.get? b = some o → (h'.push ob).get? b = some o := fun ob b o e => Heap.get?_push_of_some ob (hk b o e)
      obtain ⟨M', t'⟩ := step_keep (X := X) (wr := []) (gw := []) (h' := h'.push (fnObj (kla_fn ("<lambda>" : Str) (env.qual ++ ("<lambda>" : Str)) params body scope [] ((X.mg "__name__").getD .none) (.ref c') ctv))) (tk := tk) M (fun b o eb => kp _ b o eb)
      exact hQ _ _ _ _ (h _ _ _) M' (.fn (Heap.get?_push_size _ rfl) rfl (kp _ _ _ e2) e3 e4 e5) t'

noncomputable def CALLP (X : Cx) (k : Nat) (f : PV) (args : List PV) (σ : Store) (Q : PV → Store → Prop) : Prop :=
  ∀ (A : Around) (s : Shared) (v : Value) (vs : List Value) (Q' : Value → Shared → Prop) (E : Value → Shared → Prop), Room A k → Match X σ s → Rel s.heap f v → RelL s.heap args vs →
    (∀ p σ' v s', Q p σ' → Match X σ' s' → Rel s'.heap p v → Tr X [] [] σ s σ' s' → Q' v s') → wpAny (model X.prog X.w) A (call v vs) Q' E s

noncomputable abbrev kCALLP (X : Cx) (k : Nat) (f : PV) (Q : PV → Store → Prop) : List PV → Store → Prop := fun as σ => CALLP X k f as σ Q
noncomputable abbrev kCALLK' (X : Cx) (k : Nat) (f : Addr) (kn : Str) (Q : PV → Store → Prop) (as : List PV) : PV → Store → Prop := fun kv σ => CALL X k (.ref f) as [(kn, kv)] σ Q
noncomputable abbrev kCALLK (X : Cx) (k : Nat) (ns : List Str) (env : Env) (value : Expr) (f : Addr) (kn : Str) (ρ : List (Option PV)) (Q : PV → Store → Prop) : List PV → Store → Prop := fun as σ => EV X k ns env value ρ σ (kCALLK' X k f kn Q as)
theorem CALLP.lam {fd : FuncData} {body : Expr} {args : List PV} {bn rest gs : List Str} (hbody : fd.body = .expr body) (hclo : fd.closure = []) (hco : fd.scope.isCoroutine = false) (hgen : fd.scope.isGenerator = false) (hkind : fd.scope.kind = .function)
    (hb : ∀ vs : List Value, vs.length = args.length → bindArgs fd ⟨vs, []⟩ = pure (bn.zip vs)) (hlen : bn.length = args.length)
    (S : ∀ L f, EnvS (bn ++ rest) gs (callEnvC fd L f)) (hk : ∀ x ∈ bn ++ rest, fd.scope.names.lookup x = some .local ∨ fd.scope.names.lookup x = some .cell)
    (h : ∀ L f, EV X k (bn ++ rest) (callEnvC fd L f) body (args.map some ++ List.replicate rest.length none) σ Q) : CALLP X (k + 1) (.fn fd) args σ Q := by
  intro A s v vs Q' E R M rf rv hQ
  obtain ⟨f, c, o, cvs, t, rfl, hr, hcd, hc, hcls, hda, hq⟩ := Rel.fn_inv rf
  have hlv : bn.length = vs.length := hlen.trans rv.1
  have hcr : s.heap.CodeRec fd.code fd.qualname := ⟨c, o, cvs, t, hcd, hc, hda, hq⟩
  refine wpAny_call (kla_callFunE R.lim hr rfl hco hgen hbody hcr ?_)
  refine (BindsTo.of_eq (hb vs rv.1.symm)) _ _ _ _ ?_
  rw [hclo]
  have nd : bn.Nodup := (List.nodup_append.mp (S 0 0).nd).1
  refine wpAny_newFunctionEnv_cells hkind (fun x hx => ?_) fun env he s₁ hin => ?_
  · have hx1 : x.1 ∈ bn := (List.of_mem_zip hx).1
    rcases hk x.1 (List.mem_append_left _ hx1) with q | q
    · exact .inl q
    · exact .inr ⟨q, cellsFrom_has _ _ _ _ (.inr q)⟩
  · have he' : env = callEnvC fd s.heap.objs.size f := he
    subst he'
    obtain ⟨h', tk, rfl, hkeep⟩ := hin.done
    obtain ⟨M₁, t₁⟩ := step_keep (X := X) (wr := []) (gw := []) (tk := tk) M hkeep
    refine ⟨M₁.nolimit, kla_codeExpr ?_⟩
    have hL : ∀ c, s.heap.objs.size ≤ c → s.heap.get? c = none := fun c hc => get_none_of_ge hc
    have hcs : ∀ x c, (callEnvC fd s.heap.objs.size f).cells.lookup x = some c → s.heap.get? c = none := fun x c hc => hL c (Nat.le_of_lt (hin.above x c (mem_of_lookup hc)))
    have e₁ : EnvOk X (bn ++ rest) (args.map some ++ List.replicate rest.length none) (callEnvC fd s.heap.objs.size f) h' := by
      refine ⟨⟨_, hin.toInCall.ns, fun x p l hx => ?_⟩, fun x c hc => ?_, fun x hx hx2 => ?_, hin.apart, fun x p l hx => ?_, ?_⟩
      · obtain ⟨i, h1, h2⟩ := look_params bn args rest _ x p hlen l
        obtain ⟨v, hv, r⟩ := rv.get h2
        exact ⟨v, (bindL_get bn vs _ nd hlv i x h1 hx).trans hv, r.tr0 M t₁⟩
      · exact ⟨⟨_, hin.cell x c hc⟩, M.fresh_base (hcs x c hc)⟩
      · rcases hk x hx with q | q
        · exact absurd q hx2
        · exact Option.isSome_iff_exists.mp (cellsFrom_has _ _ _ _ (.inr q))
      · obtain ⟨i, h1, h2⟩ := look_params bn args rest _ x p hlen l
        obtain ⟨v, hv, r⟩ := rv.get h2
        rcases hk x l.mem with q | q
        · exact absurd q hx
        · obtain ⟨c, hc⟩ := Option.isSome_iff_exists.mp (cellsFrom_has fd.scope.names (s.heap.objs.size + 1) [] x (.inr q))
          refine ⟨c, v, hc, ?_, r.tr0 M t₁⟩
          have := hin.cell x c hc
          rw [bindC_get bn vs _ nd hlv i x h1 hx, hv] at this
          exact this
      · exact M.fresh_base (hL _ (Nat.le_refl _))
    exact h s.heap.objs.size f (A.deeper _) _ _ _ (R.deeper _) M₁ e₁ fun p σ' v s' hq M' r' t' => hQ _ _ _ _ hq M' r' (t₁.trans t')
theorem EV.callP (S : EnvS ns gs env) (D : NoDbg ns gs) {x : Str} {np pos : Pos} {args : List Expr} {fd : FuncData} (l : Look ns ρ x (.fn fd))
    (h : EVS X k ns env pos args ρ σ (kCALLP X k (.fn fd) Q)) (hno : (backTo pos (starEach args env)).any (·.1) = false := by rfl) : EV X k ns env (.Call (.Name x np) args [] pos) ρ σ Q := by
  intro A s Q' E R M e hQ
  refine wpAny_Call_ofName (EV.nameD (Q := fun p σ₁ => p = .fn fd ∧ σ₁ = σ) S D l ⟨rfl, rfl⟩ A s _ E R M e fun p σ₁ v₁ s₁ h₁ M₁ r₁ t₁ => ?_)
  obtain ⟨rfl, rfl⟩ := h₁
  have r₁' := r₁
  obtain ⟨f, c, o, cvs, t, rfl, hr, hcd, hc, hcls, hda, hq⟩ := Rel.fn_inv r₁
  show wpAny _ A (callWith pos (.ref f) [] (backTo pos (starEach args env)) []) Q' E s₁
  refine callWith_def (o := fnObj fd) (fd := fd) hno (h A s₁ _ E R M₁ (e.tr0 M t₁) fun as σ₂ vs s₂ h₂ M₂ r₂ t₂ => ?_)
  have r₂' := r₁'.tr0 M₁ t₂
  have r₃' := r₂'
  obtain ⟨f', c, o, cvs, t, hvv, hr, hcd, hc, hcls, hda, hq⟩ := Rel.fn_inv r₂'
  cases hvv
  exact ⟨⟨hr, rfl⟩, h₂ A s₂ _ vs Q' E R M₂ r₃' r₂ fun p σ₃ v₃ s₃ q M₃ r₃ t₃ => hQ p σ₃ v₃ s₃ q M₃ r₃ ((t₁.trans t₂).trans t₃)⟩

theorem EV.callFK (S : EnvS ns gs env) {x kn : Str} {np pos kp : Pos} {a : Expr} {rest : List Expr} {value : Expr} {f : Addr} {fd : FuncData} {body : List Stmt} (hg : x ∈ gs) (G : X.Glob x (.raw (.ref f))) (F : Fun X f fd body)
    (h : EVS X k ns env pos (a :: rest) ρ σ (kCALLK X k ns env value f kn ρ Q))
    (he : starEach (a :: rest) env = (false, eval a env) :: starEach rest env := by rfl) (hd : (x == ("__debug__" : Str)) = false := by decide +kernel) : EV X k ns env (.Call (.Name x np) (a :: rest) [⟨some kn, value, kp⟩] pos) ρ σ Q := by
  intro A s Q' E R M e hQ
  refine wpAny_Call_ofName (EV.glob (Q := fun p σ₁ => p = .raw (.ref f) ∧ σ₁ = σ) S hg G ⟨rfl, rfl⟩ hd A s _ E R M e fun p σ₁ v₁ s₁ h₁ M₁ r₁ t₁ => ?_)
  obtain ⟨rfl, rfl⟩ := h₁
  (first | (obtain ⟨_, rfl⟩ := Rel.int_inv r₁) | (obtain ⟨_, rfl⟩ := Rel.str_inv r₁) | (obtain rfl := Rel.lst_inv r₁) | (obtain rfl := Rel.bool_inv r₁) | (obtain rfl := Rel.none_inv r₁) | (obtain rfl := Rel.raw_inv r₁) | cases r₁)
  obtain ⟨o, ho, hdt⟩ := F.obj
  refine callWith_function_kw (o := o) (fd := fd) (evalArgs_kw2 rfl ?_ he)
  refine h A s₁ _ E R M₁ (e.tr0 M t₁) fun as σ₂ vs s₂ h₂ M₂ r₂ t₂ => ?_
  refine kwAll_cons (h₂ A s₂ _ E R M₂ ((e.tr0 M t₁).tr0 M₁ t₂) fun kv σ₃ u s₃ h₃ M₃ r₃ t₃ => kwAll_nil ?_)
  refine ⟨⟨M₃.base _ _ ho F.nex, hdt⟩, ?_⟩
  exact h₃ A s₃ vs [u] Q' E R M₃ (r₂.tr0 M₂ t₃) (.cons r₃ .nil) fun p σ₄ v₄ s₄ q M₄ r₄ t₄ => hQ p σ₄ v₄ s₄ q M₄ r₄ (((t₁.trans t₂).trans t₃).trans t₄)
end

open PySem PySem.W PyProof.Rows PySem.Spec PySem.Calls
set_option maxRecDepth 100000
set_option maxHeartbeats 8000000

noncomputable def gFind (P : Params) (x : Str) : Option Value := match (hd.heap_39 P).lookup 3 with
  | some o => (match o.data with | .dict es _ => nsFind es x | _ => none)
  | none => none
structure LawX (X : Cx) : Prop where
  inn : (hd.heap_39 X.w.params).In X.B
  exs : ∀ a ∈ X.ex, a = 99
  mg : ∀ x, X.mg x = gFind X.w.params x
  mb : ∀ x : Str, x ≠ "__name__" → X.mb x = bootBuiltins x
  lam : LamX X 101 99 163 48 (Str.ofString "_law_laid" ++ (".<locals>." : Str) ++ ("<lambda>" : Str))
noncomputable def tokAt (K : Frag) (a : Addr) : Tok := match K.lookup a with
  | some ⟨_, _, .seq vs _, _⟩ => (match (vs[0]? : Option Value) with | some (.int _ t) => t | _ => 0)
  | _ => 0
theorem inK {X : Cx} (h : LawX X) {σ : Store} {s : Shared} (M : Match X σ s) : (hd.heap_39 X.w.params).In s.heap := fun a o e => M.base a o (h.inn a o e) fun q => by
  have e0 : (hd.heap_39 X.w.params).lookup 99 = none := by kernel_rfl
  rw [h.exs a q, e0] at e; cases e
noncomputable def isInt : Value → Option Int
  | .int i _ => some i
  | _ => none
section
variable {X : Cx}

noncomputable def fd_insort_right (P : Params) : FuncData := fdOf (hd.o_59 P)
theorem F_insort_right (h : LawX X) : Fun X 23 (fd_insort_right X.w.params) (bodyOf (fd_insort_right X.w.params)) where
  obj := ⟨hd.o_59 X.w.params, h.inn 23 _ rfl, rfl⟩
  nex := fun q => by have := h.exs _ q; revert this; decide
  code := ⟨_, rfl, fun q => by have := h.exs _ q; revert this; decide⟩
  crec := ⟨_, _, _, _, rfl, h.inn 22 _ rfl, rfl, rfl⟩
  body := rfl
  clo := rfl
  co := rfl
  kind := rfl
theorem G_insort_right (h : LawX X) : X.Glob (Str.ofString "insort_right") (.raw (.ref 23)) := ⟨.ref 23, fun _ => .raw _, .inl ((h.mg _).trans (by kernel_rfl))⟩
theorem D_insort_right (h : LawX X) : Dfl X (hd.heap_39 X.w.params) (fd_insort_right X.w.params) (tokAt (hd.heap_39 X.w.params) 15) where
  inn := fun σ s M => inK h M
  f2 := fun u v S => by kernel_rfl
  f4 := fun u v w z S => by kernel_rfl
  k2 := fun u v w S => by kernel_rfl
  k4 := fun u v w z y S => by kernel_rfl
noncomputable def fd_bisect_right (P : Params) : FuncData := fdOf (hd.o_68 P)
theorem F_bisect_right (h : LawX X) : Fun X 32 (fd_bisect_right X.w.params) (bodyOf (fd_bisect_right X.w.params)) where
  obj := ⟨hd.o_68 X.w.params, h.inn 32 _ rfl, rfl⟩
  nex := fun q => by have := h.exs _ q; revert this; decide
  code := ⟨_, rfl, fun q => by have := h.exs _ q; revert this; decide⟩
  crec := ⟨_, _, _, _, rfl, h.inn 31 _ rfl, rfl, rfl⟩
  body := rfl
  clo := rfl
  co := rfl
  kind := rfl
theorem G_bisect_right (h : LawX X) : X.Glob (Str.ofString "bisect_right") (.raw (.ref 32)) := ⟨.ref 32, fun _ => .raw _, .inl ((h.mg _).trans (by kernel_rfl))⟩
theorem D_bisect_right (h : LawX X) : Dfl X (hd.heap_39 X.w.params) (fd_bisect_right X.w.params) (tokAt (hd.heap_39 X.w.params) 24) where
  inn := fun σ s M => inK h M
  f2 := fun u v S => by kernel_rfl
  f4 := fun u v w z S => by kernel_rfl
  k2 := fun u v w S => by kernel_rfl
  k4 := fun u v w z y S => by kernel_rfl
noncomputable def fd_insort_left (P : Params) : FuncData := fdOf (hd.o_77 P)
theorem F_insort_left (h : LawX X) : Fun X 41 (fd_insort_left X.w.params) (bodyOf (fd_insort_left X.w.params)) where
  obj := ⟨hd.o_77 X.w.params, h.inn 41 _ rfl, rfl⟩
  nex := fun q => by have := h.exs _ q; revert this; decide
  code := ⟨_, rfl, fun q => by have := h.exs _ q; revert this; decide⟩
  crec := ⟨_, _, _, _, rfl, h.inn 40 _ rfl, rfl, rfl⟩
  body := rfl
  clo := rfl
  co := rfl
  kind := rfl
theorem G_insort_left (h : LawX X) : X.Glob (Str.ofString "insort_left") (.raw (.ref 41)) := ⟨.ref 41, fun _ => .raw _, .inl ((h.mg _).trans (by kernel_rfl))⟩
theorem D_insort_left (h : LawX X) : Dfl X (hd.heap_39 X.w.params) (fd_insort_left X.w.params) (tokAt (hd.heap_39 X.w.params) 33) where
  inn := fun σ s M => inK h M
  f2 := fun u v S => by kernel_rfl
  f4 := fun u v w z S => by kernel_rfl
  k2 := fun u v w S => by kernel_rfl
  k4 := fun u v w z y S => by kernel_rfl
noncomputable def fd_bisect_left (P : Params) : FuncData := fdOf (hd.o_86 P)
theorem F_bisect_left (h : LawX X) : Fun X 50 (fd_bisect_left X.w.params) (bodyOf (fd_bisect_left X.w.params)) where
  obj := ⟨hd.o_86 X.w.params, h.inn 50 _ rfl, rfl⟩
  nex := fun q => by have := h.exs _ q; revert this; decide
  code := ⟨_, rfl, fun q => by have := h.exs _ q; revert this; decide⟩
  crec := ⟨_, _, _, _, rfl, h.inn 49 _ rfl, rfl, rfl⟩
  body := rfl
  clo := rfl
  co := rfl
  kind := rfl
theorem G_bisect_left (h : LawX X) : X.Glob (Str.ofString "bisect_left") (.raw (.ref 50)) := ⟨.ref 50, fun _ => .raw _, .inl ((h.mg _).trans (by kernel_rfl))⟩
theorem D_bisect_left (h : LawX X) : Dfl X (hd.heap_39 X.w.params) (fd_bisect_left X.w.params) (tokAt (hd.heap_39 X.w.params) 42) where
  inn := fun σ s M => inK h M
  f2 := fun u v S => by kernel_rfl
  f4 := fun u v w z S => by kernel_rfl
  k2 := fun u v w S => by kernel_rfl
  k4 := fun u v w z y S => by kernel_rfl
noncomputable def fd__iter_escaped_chars (P : Params) : FuncData := fdOf (hd.o_93 P)
theorem F__iter_escaped_chars (h : LawX X) : Fun X 57 (fd__iter_escaped_chars X.w.params) (bodyOf (fd__iter_escaped_chars X.w.params)) where
  obj := ⟨hd.o_93 X.w.params, h.inn 57 _ rfl, rfl⟩
  nex := fun q => by have := h.exs _ q; revert this; decide
  code := ⟨_, rfl, fun q => by have := h.exs _ q; revert this; decide⟩
  crec := ⟨_, _, _, _, rfl, h.inn 56 _ rfl, rfl, rfl⟩
  body := rfl
  clo := rfl
  co := rfl
  kind := rfl
theorem G__iter_escaped_chars (h : LawX X) : X.Glob (Str.ofString "_iter_escaped_chars") (.raw (.ref 57)) := ⟨.ref 57, fun _ => .raw _, .inl ((h.mg _).trans (by kernel_rfl))⟩
noncomputable def fd__strip_quoted_realnames (P : Params) : FuncData := fdOf (hd.o_100 P)
theorem F__strip_quoted_realnames (h : LawX X) : Fun X 64 (fd__strip_quoted_realnames X.w.params) (bodyOf (fd__strip_quoted_realnames X.w.params)) where
  obj := ⟨hd.o_100 X.w.params, h.inn 64 _ rfl, rfl⟩
  nex := fun q => by have := h.exs _ q; revert this; decide
  code := ⟨_, rfl, fun q => by have := h.exs _ q; revert this; decide⟩
  crec := ⟨_, _, _, _, rfl, h.inn 63 _ rfl, rfl, rfl⟩
  body := rfl
  clo := rfl
  co := rfl
  kind := rfl
theorem G__strip_quoted_realnames (h : LawX X) : X.Glob (Str.ofString "_strip_quoted_realnames") (.raw (.ref 64)) := ⟨.ref 64, fun _ => .raw _, .inl ((h.mg _).trans (by kernel_rfl))⟩
noncomputable def fd__check_parenthesis (P : Params) : FuncData := fdOf (hd.o_107 P)
theorem F__check_parenthesis (h : LawX X) : Fun X 71 (fd__check_parenthesis X.w.params) (bodyOf (fd__check_parenthesis X.w.params)) where
  obj := ⟨hd.o_107 X.w.params, h.inn 71 _ rfl, rfl⟩
  nex := fun q => by have := h.exs _ q; revert this; decide
  code := ⟨_, rfl, fun q => by have := h.exs _ q; revert this; decide⟩
  crec := ⟨_, _, _, _, rfl, h.inn 70 _ rfl, rfl, rfl⟩
  body := rfl
  clo := rfl
  co := rfl
  kind := rfl
theorem G__check_parenthesis (h : LawX X) : X.Glob (Str.ofString "_check_parenthesis") (.raw (.ref 71)) := ⟨.ref 71, fun _ => .raw _, .inl ((h.mg _).trans (by kernel_rfl))⟩
noncomputable def fd__substitution_cost (P : Params) : FuncData := fdOf (hd.o_114 P)
theorem F__substitution_cost (h : LawX X) : Fun X 78 (fd__substitution_cost X.w.params) (bodyOf (fd__substitution_cost X.w.params)) where
  obj := ⟨hd.o_114 X.w.params, h.inn 78 _ rfl, rfl⟩
  nex := fun q => by have := h.exs _ q; revert this; decide
  code := ⟨_, rfl, fun q => by have := h.exs _ q; revert this; decide⟩
  crec := ⟨_, _, _, _, rfl, h.inn 77 _ rfl, rfl, rfl⟩
  body := rfl
  clo := rfl
  co := rfl
  kind := rfl
theorem G__substitution_cost (h : LawX X) : X.Glob (Str.ofString "_substitution_cost") (.raw (.ref 78)) := ⟨.ref 78, fun _ => .raw _, .inl ((h.mg _).trans (by kernel_rfl))⟩
noncomputable def fd__levenshtein_distance (P : Params) : FuncData := fdOf (hd.o_121 P)
theorem F__levenshtein_distance (h : LawX X) : Fun X 85 (fd__levenshtein_distance X.w.params) (bodyOf (fd__levenshtein_distance X.w.params)) where
  obj := ⟨hd.o_121 X.w.params, h.inn 85 _ rfl, rfl⟩
  nex := fun q => by have := h.exs _ q; revert this; decide
  code := ⟨_, rfl, fun q => by have := h.exs _ q; revert this; decide⟩
  crec := ⟨_, _, _, _, rfl, h.inn 84 _ rfl, rfl, rfl⟩
  body := rfl
  clo := rfl
  co := rfl
  kind := rfl
theorem G__levenshtein_distance (h : LawX X) : X.Glob (Str.ofString "_levenshtein_distance") (.raw (.ref 85)) := ⟨.ref 85, fun _ => .raw _, .inl ((h.mg _).trans (by kernel_rfl))⟩
noncomputable def fd__law_pieces (P : Params) : FuncData := fdOf (hd.o_130 P)
theorem F__law_pieces (h : LawX X) : Fun X 92 (fd__law_pieces X.w.params) (bodyOf (fd__law_pieces X.w.params)) where
  obj := ⟨hd.o_130 X.w.params, h.inn 92 _ rfl, rfl⟩
  nex := fun q => by have := h.exs _ q; revert this; decide
  code := ⟨_, rfl, fun q => by have := h.exs _ q; revert this; decide⟩
  crec := ⟨_, _, _, _, rfl, h.inn 91 _ rfl, rfl, rfl⟩
  body := rfl
  clo := rfl
  co := rfl
  kind := rfl
theorem G__law_pieces (h : LawX X) : X.Glob (Str.ofString "_law_pieces") (.raw (.ref 92)) := ⟨.ref 92, fun _ => .raw _, .inl ((h.mg _).trans (by kernel_rfl))⟩
noncomputable def fd__law_read (P : Params) : FuncData := fdOf (hd.o_135 P)
theorem F__law_read (h : LawX X) : Fun X 97 (fd__law_read X.w.params) (bodyOf (fd__law_read X.w.params)) where
  obj := ⟨hd.o_135 X.w.params, h.inn 97 _ rfl, rfl⟩
  nex := fun q => by have := h.exs _ q; revert this; decide
  code := ⟨_, rfl, fun q => by have := h.exs _ q; revert this; decide⟩
  crec := ⟨_, _, _, _, rfl, h.inn 96 _ rfl, rfl, rfl⟩
  body := rfl
  clo := rfl
  co := rfl
  kind := rfl
theorem G__law_read (h : LawX X) : X.Glob (Str.ofString "_law_read") (.raw (.ref 97)) := ⟨.ref 97, fun _ => .raw _, .inl ((h.mg _).trans (by kernel_rfl))⟩
noncomputable def fd__law_laid (P : Params) : FuncData := fdOf (hd.o_140 P)
theorem F__law_laid (h : LawX X) : Fun X 102 (fd__law_laid X.w.params) (bodyOf (fd__law_laid X.w.params)) where
  obj := ⟨hd.o_140 X.w.params, h.inn 102 _ rfl, rfl⟩
  nex := fun q => by have := h.exs _ q; revert this; decide
  code := ⟨_, rfl, fun q => by have := h.exs _ q; revert this; decide⟩
  crec := ⟨_, _, _, _, rfl, h.inn 101 _ rfl, rfl, rfl⟩
  body := rfl
  clo := rfl
  co := rfl
  kind := rfl
theorem G__law_laid (h : LawX X) : X.Glob (Str.ofString "_law_laid") (.raw (.ref 102)) := ⟨.ref 102, fun _ => .raw _, .inl ((h.mg _).trans (by kernel_rfl))⟩
noncomputable def fd__law_heights (P : Params) : FuncData := fdOf (hd.o_147 P)
theorem F__law_heights (h : LawX X) : Fun X 109 (fd__law_heights X.w.params) (bodyOf (fd__law_heights X.w.params)) where
  obj := ⟨hd.o_147 X.w.params, h.inn 109 _ rfl, rfl⟩
  nex := fun q => by have := h.exs _ q; revert this; decide
  code := ⟨_, rfl, fun q => by have := h.exs _ q; revert this; decide⟩
  crec := ⟨_, _, _, _, rfl, h.inn 108 _ rfl, rfl, rfl⟩
  body := rfl
  clo := rfl
  co := rfl
  kind := rfl
theorem G__law_heights (h : LawX X) : X.Glob (Str.ofString "_law_heights") (.raw (.ref 109)) := ⟨.ref 109, fun _ => .raw _, .inl ((h.mg _).trans (by kernel_rfl))⟩
noncomputable def fd__law_counted (P : Params) : FuncData := fdOf (hd.o_154 P)
theorem F__law_counted (h : LawX X) : Fun X 116 (fd__law_counted X.w.params) (bodyOf (fd__law_counted X.w.params)) where
  obj := ⟨hd.o_154 X.w.params, h.inn 116 _ rfl, rfl⟩
  nex := fun q => by have := h.exs _ q; revert this; decide
  code := ⟨_, rfl, fun q => by have := h.exs _ q; revert this; decide⟩
  crec := ⟨_, _, _, _, rfl, h.inn 115 _ rfl, rfl, rfl⟩
  body := rfl
  clo := rfl
  co := rfl
  kind := rfl
theorem G__law_counted (h : LawX X) : X.Glob (Str.ofString "_law_counted") (.raw (.ref 116)) := ⟨.ref 116, fun _ => .raw _, .inl ((h.mg _).trans (by kernel_rfl))⟩
noncomputable def fd__law_ball (P : Params) : FuncData := fdOf (hd.o_159 P)
theorem F__law_ball (h : LawX X) : Fun X 121 (fd__law_ball X.w.params) (bodyOf (fd__law_ball X.w.params)) where
  obj := ⟨hd.o_159 X.w.params, h.inn 121 _ rfl, rfl⟩
  nex := fun q => by have := h.exs _ q; revert this; decide
  code := ⟨_, rfl, fun q => by have := h.exs _ q; revert this; decide⟩
  crec := ⟨_, _, _, _, rfl, h.inn 120 _ rfl, rfl, rfl⟩
  body := rfl
  clo := rfl
  co := rfl
  kind := rfl
theorem G__law_ball (h : LawX X) : X.Glob (Str.ofString "_law_ball") (.raw (.ref 121)) := ⟨.ref 121, fun _ => .raw _, .inl ((h.mg _).trans (by kernel_rfl))⟩
noncomputable def fd__law_back (P : Params) : FuncData := fdOf (hd.o_166 P)
theorem F__law_back (h : LawX X) : Fun X 128 (fd__law_back X.w.params) (bodyOf (fd__law_back X.w.params)) where
  obj := ⟨hd.o_166 X.w.params, h.inn 128 _ rfl, rfl⟩
  nex := fun q => by have := h.exs _ q; revert this; decide
  code := ⟨_, rfl, fun q => by have := h.exs _ q; revert this; decide⟩
  crec := ⟨_, _, _, _, rfl, h.inn 127 _ rfl, rfl, rfl⟩
  body := rfl
  clo := rfl
  co := rfl
  kind := rfl
theorem G__law_back (h : LawX X) : X.Glob (Str.ofString "_law_back") (.raw (.ref 128)) := ⟨.ref 128, fun _ => .raw _, .inl ((h.mg _).trans (by kernel_rfl))⟩
noncomputable def fd__law_word (P : Params) : FuncData := fdOf (hd.o_173 P)
theorem F__law_word (h : LawX X) : Fun X 135 (fd__law_word X.w.params) (bodyOf (fd__law_word X.w.params)) where
  obj := ⟨hd.o_173 X.w.params, h.inn 135 _ rfl, rfl⟩
  nex := fun q => by have := h.exs _ q; revert this; decide
  code := ⟨_, rfl, fun q => by have := h.exs _ q; revert this; decide⟩
  crec := ⟨_, _, _, _, rfl, h.inn 134 _ rfl, rfl, rfl⟩
  body := rfl
  clo := rfl
  co := rfl
  kind := rfl
theorem G__law_word (h : LawX X) : X.Glob (Str.ofString "_law_word") (.raw (.ref 135)) := ⟨.ref 135, fun _ => .raw _, .inl ((h.mg _).trans (by kernel_rfl))⟩
noncomputable def fd__law_swept (P : Params) : FuncData := fdOf (hd.o_178 P)
theorem F__law_swept (h : LawX X) : Fun X 140 (fd__law_swept X.w.params) (bodyOf (fd__law_swept X.w.params)) where
  obj := ⟨hd.o_178 X.w.params, h.inn 140 _ rfl, rfl⟩
  nex := fun q => by have := h.exs _ q; revert this; decide
  code := ⟨_, rfl, fun q => by have := h.exs _ q; revert this; decide⟩
  crec := ⟨_, _, _, _, rfl, h.inn 139 _ rfl, rfl, rfl⟩
  body := rfl
  clo := rfl
  co := rfl
  kind := rfl
theorem G__law_swept (h : LawX X) : X.Glob (Str.ofString "_law_swept") (.raw (.ref 140)) := ⟨.ref 140, fun _ => .raw _, .inl ((h.mg _).trans (by kernel_rfl))⟩
noncomputable def fd_law (P : Params) : FuncData := fdOf (hd.o_183 P)
theorem F_law (h : LawX X) : Fun X 145 (fd_law X.w.params) (bodyOf (fd_law X.w.params)) where
  obj := ⟨hd.o_183 X.w.params, h.inn 145 _ rfl, rfl⟩
  nex := fun q => by have := h.exs _ q; revert this; decide
  code := ⟨_, rfl, fun q => by have := h.exs _ q; revert this; decide⟩
  crec := ⟨_, _, _, _, rfl, h.inn 144 _ rfl, rfl, rfl⟩
  body := rfl
  clo := rfl
  co := rfl
  kind := rfl
theorem G_len (h : LawX X) : X.Glob (Str.ofString "len") (.raw (.builtin "len")) := ⟨_, fun _ => .raw _, .inr ⟨(h.mg _).trans (by kernel_rfl), (h.mb _ (by decide +kernel)).trans (by kernel_rfl)⟩⟩
theorem G_range (h : LawX X) : X.Glob (Str.ofString "range") (.raw (.type "range")) := ⟨_, fun _ => .raw _, .inr ⟨(h.mg _).trans (by kernel_rfl), (h.mb _ (by decide +kernel)).trans (by kernel_rfl)⟩⟩
theorem G_min (h : LawX X) : X.Glob (Str.ofString "min") (.raw (.builtin "min")) := ⟨_, fun _ => .raw _, .inr ⟨(h.mg _).trans (by kernel_rfl), (h.mb _ (by decide +kernel)).trans (by kernel_rfl)⟩⟩
theorem G_sum (h : LawX X) : X.Glob (Str.ofString "sum") (.raw (.builtin "sum")) := ⟨_, fun _ => .raw _, .inr ⟨(h.mg _).trans (by kernel_rfl), (h.mb _ (by decide +kernel)).trans (by kernel_rfl)⟩⟩
theorem G_list (h : LawX X) : X.Glob (Str.ofString "list") (.raw (.type "list")) := ⟨_, fun _ => .raw _, .inr ⟨(h.mg _).trans (by kernel_rfl), (h.mb _ (by decide +kernel)).trans (by kernel_rfl)⟩⟩
theorem G_int (h : LawX X) : X.Glob (Str.ofString "int") (.raw (.type "int")) := ⟨_, fun _ => .raw _, .inr ⟨(h.mg _).trans (by kernel_rfl), (h.mb _ (by decide +kernel)).trans (by kernel_rfl)⟩⟩
theorem G_enumerate (h : LawX X) : X.Glob (Str.ofString "enumerate") (.raw (.type "enumerate")) := ⟨_, fun _ => .raw _, .inr ⟨(h.mg _).trans (by kernel_rfl), (h.mb _ (by decide +kernel)).trans (by kernel_rfl)⟩⟩
theorem G__MAX_STRING_SIZE (h : LawX X) : X.Glob (Str.ofString "_MAX_STRING_SIZE") (.int 40) := by
  have e : (gFind X.w.params (Str.ofString "_MAX_STRING_SIZE")).bind isInt = some 40 := by kernel_rfl
  have e' := h.mg (Str.ofString "_MAX_STRING_SIZE")
  cases hv : gFind X.w.params (Str.ofString "_MAX_STRING_SIZE") with
  | none => rw [hv] at e; cases e
  | some u =>
    rw [hv] at e e'
    cases u <;> cases e
    rename_i t
    exact ⟨.int _ t, fun _ => .int _ _, .inl e'⟩
theorem G__MOVE_COST (h : LawX X) : X.Glob (Str.ofString "_MOVE_COST") (.int 2) := by
  have e : (gFind X.w.params (Str.ofString "_MOVE_COST")).bind isInt = some 2 := by kernel_rfl
  have e' := h.mg (Str.ofString "_MOVE_COST")
  cases hv : gFind X.w.params (Str.ofString "_MOVE_COST") with
  | none => rw [hv] at e; cases e
  | some u =>
    rw [hv] at e e'
    cases u <;> cases e
    rename_i t
    exact ⟨.int _ t, fun _ => .int _ _, .inl e'⟩
theorem G__CASE_COST (h : LawX X) : X.Glob (Str.ofString "_CASE_COST") (.int 1) := by
  have e : (gFind X.w.params (Str.ofString "_CASE_COST")).bind isInt = some 1 := by kernel_rfl
  have e' := h.mg (Str.ofString "_CASE_COST")
  cases hv : gFind X.w.params (Str.ofString "_CASE_COST") with
  | none => rw [hv] at e; cases e
  | some u =>
    rw [hv] at e e'
    cases u <;> cases e
    rename_i t
    exact ⟨.int _ t, fun _ => .int _ _, .inl e'⟩
end

open PySem PySem.W PyProof.Rows PySem.Spec PySem.Calls
set_option maxRecDepth 100000
set_option maxHeartbeats 8000000

theorem iteT {c : Bool} {A B : Prop} (h : c = true) (a : A) : if c = true then A else B := by rw [if_pos h]; exact a
theorem iteF {c : Bool} {A B : Prop} (h : c = false) (b : B) : if c = true then A else B := by rw [if_neg (by rw [h]; simp)]; exact b
theorem Look.t2 {x y1 y2 : Str} {ns : List Str} {o1 o2 : Option PV} {p : PV} {ρ : List (Option PV)} (h : Look ns ρ x p) : Look (y1 :: y2 :: ns) (o1 :: o2 :: ρ) x p := .there (.there h)
theorem Look.t4 {x y1 y2 y3 y4 : Str} {ns : List Str} {o1 o2 o3 o4 : Option PV} {p : PV} {ρ : List (Option PV)} (h : Look ns ρ x p) : Look (y1 :: y2 :: y3 :: y4 :: ns) (o1 :: o2 :: o3 :: o4 :: ρ) x p := .t2 (.t2 h)
theorem Look.t8 {x y1 y2 y3 y4 y5 y6 y7 y8 : Str} {ns : List Str} {o1 o2 o3 o4 o5 o6 o7 o8 : Option PV} {p : PV} {ρ : List (Option PV)} (h : Look ns ρ x p) : Look (y1 :: y2 :: y3 :: y4 :: y5 :: y6 :: y7 :: y8 :: ns) (o1 :: o2 :: o3 :: o4 :: o5 :: o6 :: o7 :: o8 :: ρ) x p := .t4 (.t4 h)
theorem Put.t2 {x y1 y2 : Str} {ns : List Str} {o1 o2 : Option PV} {p : PV} {ρ ρ' : List (Option PV)} (h : Put ns ρ x p ρ') : Put (y1 :: y2 :: ns) (o1 :: o2 :: ρ) x p (o1 :: o2 :: ρ') := .there (.there h)
theorem Put.t4 {x y1 y2 y3 y4 : Str} {ns : List Str} {o1 o2 o3 o4 : Option PV} {p : PV} {ρ ρ' : List (Option PV)} (h : Put ns ρ x p ρ') : Put (y1 :: y2 :: y3 :: y4 :: ns) (o1 :: o2 :: o3 :: o4 :: ρ) x p (o1 :: o2 :: o3 :: o4 :: ρ') := .t2 (.t2 h)
theorem Put.t8 {x y1 y2 y3 y4 y5 y6 y7 y8 : Str} {ns : List Str} {o1 o2 o3 o4 o5 o6 o7 o8 : Option PV} {p : PV} {ρ ρ' : List (Option PV)} (h : Put ns ρ x p ρ') : Put (y1 :: y2 :: y3 :: y4 :: y5 :: y6 :: y7 :: y8 :: ns) (o1 :: o2 :: o3 :: o4 :: o5 :: o6 :: o7 :: o8 :: ρ) x p (o1 :: o2 :: o3 :: o4 :: o5 :: o6 :: o7 :: o8 :: ρ') := .t4 (.t4 h)
noncomputable abbrev QS (p : PV) (τ : Store) : PF → List (Option PV) → Store → Prop := fun f _ σ' => retOf f = p ∧ σ' = τ
noncomputable abbrev QE (p : PV) (σ : Store) : PF → List (Option PV) → Store → Prop := fun f _ σ' => retOf f = p ∧ Ext σ σ'
noncomputable abbrev QN (σ : Store) (xs : List PV) : PF → List (Option PV) → Store → Prop := fun f _ σ' => New σ σ' (retOf f) xs
noncomputable abbrev QT (σ : Store) (a : Int) (xs ys : List Int) : PF → List (Option PV) → Store → Prop := fun f _ σ' => ∃ r1 r2, retOf f = .tup [.lst r1, .lst r2, .int a] ∧ r1 ≠ r2 ∧ σ r1 = none ∧ σ r2 = none ∧ σ' r1 = some (xs.map .int) ∧ σ' r2 = some (ys.map .int) ∧ Ext σ σ'
noncomputable abbrev QB (p : PV) : PF → List (Option PV) → Store → Prop := fun f _ _ => retOf f = p
theorem m_words : True := by
  k_with "m_look" => ((first | with_reducible exact Look.here | with_reducible exact Look.there Look.here | with_reducible exact Look.t2 Look.here | with_reducible exact Look.t2 (Look.there Look.here) | with_reducible exact Look.t4 Look.here | with_reducible exact Look.t4 (Look.there Look.here) | with_reducible exact Look.t4 (Look.t2 Look.here) | with_reducible exact Look.t4 (Look.t2 (Look.there Look.here)) | with_reducible exact Look.t8 Look.here | with_reducible exact Look.t8 (Look.there Look.here) | with_reducible exact Look.t8 (Look.t2 Look.here) | with_reducible exact Look.t8 (Look.t2 (Look.there Look.here)) | with_reducible exact Look.t8 (Look.t4 Look.here) | with_reducible exact Look.t8 (Look.t4 (Look.there Look.here)) | with_reducible exact Look.t8 (Look.t4 (Look.t2 Look.here)) | with_reducible exact Look.t8 (Look.t4 (Look.t2 (Look.there Look.here))) | (repeat (first | with_reducible exact Look.here | with_reducible apply Look.there))))
  k_with "m_put" => ((first | with_reducible exact Put.here | with_reducible exact Put.there Put.here | with_reducible exact Put.t2 Put.here | with_reducible exact Put.t2 (Put.there Put.here) | with_reducible exact Put.t4 Put.here | with_reducible exact Put.t4 (Put.there Put.here) | with_reducible exact Put.t4 (Put.t2 Put.here) | with_reducible exact Put.t4 (Put.t2 (Put.there Put.here)) | with_reducible exact Put.t8 Put.here | with_reducible exact Put.t8 (Put.there Put.here) | with_reducible exact Put.t8 (Put.t2 Put.here) | with_reducible exact Put.t8 (Put.t2 (Put.there Put.here)) | with_reducible exact Put.t8 (Put.t4 Put.here) | with_reducible exact Put.t8 (Put.t4 (Put.there Put.here)) | with_reducible exact Put.t8 (Put.t4 (Put.t2 Put.here)) | with_reducible exact Put.t8 (Put.t4 (Put.t2 (Put.there Put.here))) | (repeat (first | with_reducible exact Put.here | with_reducible apply Put.there))))
  k_with "m_mem" => ((repeat (first | with_reducible exact List.mem_cons_self | with_reducible apply List.mem_cons_of_mem)))
  k_with "m_weak" => ((repeat (first | with_reducible exact Weak.nil | with_reducible apply Weak.same | with_reducible apply Weak.drop)))
  k_with "m_dbg" => (decide +kernel)
  k_with "m_nm" => (first
  | with_reducible refine EV.int ?_
  | with_reducible refine EV.str ?_
  | with_reducible refine EV.none ?_
  | with_reducible refine EV.bool ?_
  | ((with_reducible refine' EV.nameD ?m_S ?m_D ?m_l ?_); (case m_S => assumption); (case m_D => assumption); (case m_l => k_extra "m_look"))
  | ((with_reducible refine' EV.globD ?m_S ?m_D (G__MOVE_COST ?m_X) ?m_g ?_); (case m_S => assumption); (case m_D => assumption); (case m_X => assumption); (case m_g => k_extra "m_mem"))
  | ((with_reducible refine' EV.globD ?m_S ?m_D (G__CASE_COST ?m_X) ?m_g ?_); (case m_S => assumption); (case m_D => assumption); (case m_X => assumption); (case m_g => k_extra "m_mem"))
  | ((with_reducible refine' EV.globD ?m_S ?m_D (G__MAX_STRING_SIZE ?m_X) ?m_g ?_); (case m_S => assumption); (case m_D => assumption); (case m_X => assumption); (case m_g => k_extra "m_mem")))
  k_with "m_st0" => (first
  | with_reducible refine EX.nil ?_
  | with_reducible refine EX1.ite ?_
  | with_reducible refine EX1.ret ?_
  | with_reducible refine EX1.while ?_
  | ((with_reducible refine EX1.for ?_ ?m_s); (case m_s => intro _; rfl))
  | ((with_reducible refine EX1.expr ?_ ?m_i ?m_s); (case m_i => rfl); (case m_s => rfl))
  | ((with_reducible refine EX1.assign ?_ ?m_s); (case m_s => rfl))
  | ((with_reducible refine' EX1.augD ?m_S ?m_D ?m_l ?_); (case m_S => assumption); (case m_D => assumption); (case m_l => k_extra "m_look"))
  | ((with_reducible refine EX1.assignT ?_ ?m_s ?m_w); (case m_s => rfl); (case m_w => rfl))
  | ((with_reducible refine EX1.assignS2 ?m_w ?m_s ?_); (case m_w => rfl); (case m_s => rfl))
  | ((with_reducible refine EX1.assignS3 ?m_w ?m_s ?_); (case m_w => rfl); (case m_s => rfl))
  | ((with_reducible refine EX1.assignI ?_ ?m_s); (case m_s => rfl))
  | ((with_reducible refine EX1.augI ?_ ?m_s); (case m_s => intro _ _ _; rfl))
  | ((with_reducible refine EX1.assign2 ?_ ?m_s ?m_w); (case m_s => rfl); (case m_w => rfl))
  | ((with_reducible refine' ST.name ?m_S ?m_l ?_); (case m_S => assumption); (case m_l => k_extra "m_put"))
  | with_reducible refine ASG.name ?_
  | ((with_reducible refine ASG.tuple ?_ ?m_s ?m_w); (case m_s => rfl); (case m_w => rfl))
  | with_reducible refine ASGS.nil ?_
  | ((with_reducible refine ASGS.cons ?_ ?m_s); (case m_s => rfl))
  | ((with_reducible refine' ASGL.name ?m_S ?m_k ?m_l ?_); (case m_S => assumption); (case m_k => rfl); (case m_l => k_extra "m_put"))
  | ((with_reducible refine ASGL.tuple ?_ ?m_s ?m_w); (case m_s => rfl); (case m_w => rfl))
  | with_reducible refine ASGLS.nil ?_
  | ((with_reducible refine ASGLS.cons ?_ ?m_s); (case m_s => rfl))
  | with_reducible refine STS.nil ?_
  | with_reducible refine STS.cons ?_)
  k_with "m_st" => (first
  | with_reducible refine EX.cons ?_
  | k_extra "m_st0")
  k_with "m_ex" => (first
  | with_reducible refine EV.binop ?_
  | with_reducible refine EV.unop ?_
  | ((with_reducible refine EV.cmp ?_ ?m_s); (case m_s => with_unfolding_all rfl))
  | ((with_reducible refine EVB.cmp ?_ ?m_s); (case m_s => with_unfolding_all rfl))
  | with_reducible refine EVB.not ?_
  | with_reducible refine EVB.boolop ?_
  | with_reducible refine EVA.and_nil ?_
  | with_reducible refine EVA.or_nil ?_
  | with_reducible refine EVA.and ?_
  | with_reducible refine EVA.or ?_
  | with_reducible refine EV.ifexp ?_
  | with_reducible refine EVB.ifexp ?_
  | ((with_reducible refine EVB.val ?_ ?m_s); (case m_s => (intro _; rfl)))
  | with_reducible refine EV.and2 ?_
  | with_reducible refine EV.or2 ?_
  | with_reducible refine EVS.nil ?_
  | ((with_reducible refine EVS.cons ?_ ?m_s); (case m_s => rfl))
  | with_reducible refine EV.list ?_
  | with_reducible refine EV.tuple ?_
  | ((with_reducible refine EV.sliceL3 ?_ ?m_w); (case m_w => (intro _ _; rfl)))
  | ((with_reducible refine EV.subC ?_ ?m_s); (case m_s => (intro _ _; rfl)))
  | ((with_reducible refine EV.subI ?_ ?m_s ?m_w); (case m_s => (intro _ _; rfl)); (case m_w => (intro _ _; rfl)))
  | ((with_reducible refine EV.m_append ?_ ?m_b ?m_f ?m_l ?m_n); (case m_b => rfl); (case m_f => rfl); (case m_l => rfl); (case m_n => rfl))
  | ((with_reducible refine EV.m_insert ?_ ?m_b ?m_f ?m_l ?m_n); (case m_b => rfl); (case m_f => rfl); (case m_l => rfl); (case m_n => rfl))
  | ((with_reducible refine EV.m_join ?_ ?m_b ?m_f ?m_l ?m_n); (case m_b => rfl); (case m_f => rfl); (case m_l => rfl); (case m_n => rfl))
  | ((with_reducible refine EV.m_lower ?_ ?m_b ?m_f ?m_l ?m_n); (case m_b => rfl); (case m_f => rfl); (case m_l => rfl); (case m_n => rfl))
  | with_reducible refine EVO.none ?_
  | with_reducible refine EVO.some ?_
  | ((with_reducible refine' EV.callD ?m_S ?m_D (G_len ?m_X) ?m_f ?m_g ?m_n ?_); (case m_S => assumption); (case m_D => assumption); (case m_X => assumption); (case m_f => (intro _ q; cases q)); (case m_g => k_extra "m_mem"); (case m_n => rfl))
  | ((with_reducible refine' EV.callD ?m_S ?m_D (G_range ?m_X) ?m_f ?m_g ?m_n ?_); (case m_S => assumption); (case m_D => assumption); (case m_X => assumption); (case m_f => (intro _ q; cases q)); (case m_g => k_extra "m_mem"); (case m_n => rfl))
  | ((with_reducible refine' EV.callD ?m_S ?m_D (G_min ?m_X) ?m_f ?m_g ?m_n ?_); (case m_S => assumption); (case m_D => assumption); (case m_X => assumption); (case m_f => (intro _ q; cases q)); (case m_g => k_extra "m_mem"); (case m_n => rfl))
  | ((with_reducible refine' EV.callD ?m_S ?m_D (G_sum ?m_X) ?m_f ?m_g ?m_n ?_); (case m_S => assumption); (case m_D => assumption); (case m_X => assumption); (case m_f => (intro _ q; cases q)); (case m_g => k_extra "m_mem"); (case m_n => rfl))
  | ((with_reducible refine' EV.callD ?m_S ?m_D (G_list ?m_X) ?m_f ?m_g ?m_n ?_); (case m_S => assumption); (case m_D => assumption); (case m_X => assumption); (case m_f => (intro _ q; cases q)); (case m_g => k_extra "m_mem"); (case m_n => rfl))
  | ((with_reducible refine' EV.callD ?m_S ?m_D (G_int ?m_X) ?m_f ?m_g ?m_n ?_); (case m_S => assumption); (case m_D => assumption); (case m_X => assumption); (case m_f => (intro _ q; cases q)); (case m_g => k_extra "m_mem"); (case m_n => rfl)))
  k_with "m_op" => (first
  | with_reducible refine BIN.add ?_
  | with_reducible refine BIN.sub ?_
  | with_reducible refine INP.add ?_
  | with_reducible refine INP.sub ?_
  | with_reducible refine UN.neg ?_
  | with_reducible refine UN.not ?_
  | with_reducible refine CMP.lt ?_
  | with_reducible refine CMP.gt ?_
  | with_reducible refine CMP.le ?_
  | with_reducible refine CMP.ge ?_
  | with_reducible refine CMP.eq ?_
  | with_reducible refine CMP.ne ?_
  | with_reducible refine CMP.eqS ?_
  | with_reducible refine CMP.neS ?_
  | with_reducible refine CMP.inS ?_
  | with_reducible refine CMP.notInS ?_
  | with_reducible refine CMP.isNotBool ?_
  | ((with_reducible refine CMP.isNone ?m_s ?_); (case m_s => first | assumption | (intro _ q; cases q; done) | fail))
  | ((with_reducible refine CMP.isNotNone ?m_s ?_); (case m_s => first | assumption | (intro _ q; cases q; done) | fail))
  | with_reducible refine TRU.bool ?_
  | with_reducible refine TRU.int ?_
  | with_reducible refine CB.int ?_
  | with_reducible refine CB.min2 ?_
  | with_reducible refine CB.range1 ?_
  | with_reducible refine CB.range2 ?_)
  k_with "m_slL" => (((with_reducible refine EV.sliceL ?_ ?m_w); (case m_w => (intro _ _; rfl))))
  k_with "m_slL3" => (((with_reducible refine EV.sliceL3 ?_ ?m_w); (case m_w => (intro _ _; rfl))))
  k_with "m_slS" => (((with_reducible refine EV.sliceS ?_ ?m_w); (case m_w => (intro _ _; rfl))))
  k_with "m_go" => (repeat (first | k_extra "m_st" | k_extra "m_nm" | k_extra "m_ex" | k_extra "m_op" | fail))
  k_with "m_gs" => (repeat (first | k_extra "m_st0" | k_extra "m_nm" | k_extra "m_ex" | k_extra "m_op" | fail))
  trivial


open PySem PySem.W PyProof.Rows PySem.Spec PySem.Calls
set_option maxRecDepth 100000
set_option maxHeartbeats 8000000

section
variable {X : Cx} {k : Nat} {σ : Store}
noncomputable def bisL (xs : List Int) (x : Int) : Nat → Nat → Nat → Nat
  | 0, lo, hi => lo
  | f + 1, lo, hi => if lo < hi then (if xs.getD ((lo + hi) / 2) 0 < x then bisL xs x f ((lo + hi) / 2 + 1) hi else bisL xs x f lo ((lo + hi) / 2)) else lo
theorem bisL_1 (xs : List Int) (x : Int) : ∀ lo hi, bisL xs x 0 lo hi = (lo) := by intros; rfl
theorem bisL_2 (xs : List Int) (x : Int) : ∀ f lo hi, bisL xs x (f + 1) lo hi = (if lo < hi then (if xs.getD ((lo + hi) / 2) 0 < x then bisL xs x f ((lo + hi) / 2 + 1) hi else bisL xs x f lo ((lo + hi) / 2)) else lo) := by intros; rfl
noncomputable def bisR (xs : List Int) (x : Int) : Nat → Nat → Nat → Nat
  | 0, lo, hi => lo
  | f + 1, lo, hi => if lo < hi then (if x < xs.getD ((lo + hi) / 2) 0 then bisR xs x f lo ((lo + hi) / 2) else bisR xs x f ((lo + hi) / 2 + 1) hi) else lo
theorem bisR_1 (xs : List Int) (x : Int) : ∀ lo hi, bisR xs x 0 lo hi = (lo) := by intros; rfl
theorem bisR_2 (xs : List Int) (x : Int) : ∀ f lo hi, bisR xs x (f + 1) lo hi = (if lo < hi then (if x < xs.getD ((lo + hi) / 2) 0 then bisR xs x f lo ((lo + hi) / 2) else bisR xs x f ((lo + hi) / 2 + 1) hi) else lo) := by intros; rfl
noncomputable def blI (xs : List Int) (x : Int) : Nat := bisL xs x xs.length 0 xs.length
noncomputable def brI (xs : List Int) (x : Int) : Nat := bisR xs x xs.length 0 xs.length
theorem half_eq (lo hi : Nat) : ((lo : Int) + hi).fdiv 2 = (((lo + hi) / 2 : Nat) : Int) := by
  rw [Int.fdiv_eq_ediv_of_nonneg _ (by decide)]; rfl
theorem getD_at {xs : List Int} {i : Nat} (h : i < xs.length) : (xs.map PV.int)[i]? = some (.int (xs.getD i 0)) := by
  rw [List.getElem?_map, List.getElem?_eq_getElem h]; simp [List.getD, h]

theorem GETI.ints {a : Addr} {xs : List Int} {i : Nat} {Q : PV → Store → Prop} (ha : σ a = some (xs.map .int)) (hi : i < xs.length) (hsz : xs.length ≤ 20000) (hq : Q (.int (xs.getD i 0)) σ) : GETI X k (.lst a) (.int (i : Int)) σ Q :=
  GETI.lst ha (Int.natCast_nonneg i) (by (first | lia | omega)) (by rw [Int.toNat_natCast]; exact getD_at hi) hq
theorem mid_ge {lo hi : Nat} (h : lo < hi) : lo ≤ (lo + hi) / 2 :=
  (Nat.le_div_iff_mul_le (by decide)).mpr (by rw [Nat.mul_two]; exact Nat.add_le_add_left (Nat.le_of_lt h) lo)
theorem mid_lt2 {lo hi : Nat} (h : lo < hi) : (lo + hi) / 2 < hi :=
  (Nat.div_lt_iff_lt_mul (by decide)).mpr (by rw [Nat.mul_two]; exact Nat.add_lt_add_right h hi)
theorem mid_up {lo hi n : Nat} (h : lo < hi) (h4 : hi - lo ≤ n + 1) : hi - ((lo + hi) / 2 + 1) ≤ n :=
  Nat.sub_le_iff_le_add.mpr (Nat.le_trans (Nat.sub_le_iff_le_add.mp h4) (by rw [Nat.add_right_comm]; exact Nat.add_le_add_left (Nat.succ_le_succ (mid_ge h)) n))
theorem mid_dn {lo hi n : Nat} (h : lo < hi) (h4 : hi - lo ≤ n + 1) : (lo + hi) / 2 - lo ≤ n :=
  Nat.sub_le_iff_le_add.mpr (Nat.le_of_succ_le_succ (Nat.le_trans (mid_lt2 h) (by have h5 := Nat.sub_le_iff_le_add.mp h4; rw [Nat.add_right_comm] at h5; exact h5)))
theorem succ_of {n d : Nat} (h : 0 < d) (h4 : d ≤ n) : ∃ m, n = m + 1 := ⟨n - 1, (Nat.sub_add_cancel (Nat.le_trans h h4)).symm⟩
theorem bisL_le (xs : List Int) (x : Int) : ∀ f lo hi, lo ≤ hi → lo ≤ bisL xs x f lo hi ∧ bisL xs x f lo hi ≤ hi
  | 0, lo, hi, h => ⟨Nat.le_refl _, h⟩
  | f + 1, lo, hi, h => by
    simp only [bisL_2]
    split
    · rename_i hlt
      split
      · have q := bisL_le xs x f ((lo + hi) / 2 + 1) hi (mid_lt2 hlt)
        exact ⟨Nat.le_trans (Nat.le_succ_of_le (mid_ge hlt)) q.1, q.2⟩
      · have q := bisL_le xs x f lo ((lo + hi) / 2) (mid_ge hlt)
        exact ⟨q.1, Nat.le_trans q.2 (Nat.le_of_lt (mid_lt2 hlt))⟩
    · exact ⟨Nat.le_refl _, h⟩
theorem bisR_le (xs : List Int) (x : Int) : ∀ f lo hi, lo ≤ hi → lo ≤ bisR xs x f lo hi ∧ bisR xs x f lo hi ≤ hi
  | 0, lo, hi, h => ⟨Nat.le_refl _, h⟩
  | f + 1, lo, hi, h => by
    simp only [bisR_2]
    split
    · rename_i hlt
      split
      · have q := bisR_le xs x f lo ((lo + hi) / 2) (mid_ge hlt)
        exact ⟨q.1, Nat.le_trans q.2 (Nat.le_of_lt (mid_lt2 hlt))⟩
      · have q := bisR_le xs x f ((lo + hi) / 2 + 1) hi (mid_lt2 hlt)
        exact ⟨Nat.le_trans (Nat.le_succ_of_le (mid_ge hlt)) q.1, q.2⟩
    · exact ⟨Nat.le_refl _, h⟩

inductive BisI (σ : Store) (a : Addr) (xs : List Int) (x : Int) (n : Nat) (ρ : List (Option PV)) (τ : Store) : Prop
  | mk (_ : τ = σ) (lo : _) (hi : _) (o : _) (_ : ρ = [some (.lst a), some (.int x), some (.int ((lo : Nat) : Int)), some (.int ((hi : Nat) : Int)), some .none, o]) (_ : lo ≤ hi) (_ : hi ≤ xs.length) (_ : bisL xs x n lo hi = blI xs x) (_ : hi - lo ≤ n) : BisI σ a xs x n ρ τ
theorem W_bisect_left (hX : LawX X) {a : Addr} {xs : List Int} {x : Int} (ha : σ a = some (xs.map .int)) (hsz : xs.length ≤ 1000) : ∀ L, EX X k (bn5 ++ [Str.ofString "mid"]) (callEnvC (fd_bisect_left X.w.params) L 50) (bodyOf (fd_bisect_left X.w.params)) ([.lst a, .int x, .int 0, .none, .none].map some ++ List.replicate 1 none) σ
   (QS (.int (blI xs x)) (σ)) := by
  intro L
  have hS := EnvS.of (ns := bn5 ++ [Str.ofString "mid"]) (gs := [Str.ofString "len"]) (fd := fd_bisect_left X.w.params) rfl rfl rfl rfl (by kernel_rfl) L 50
  have hD : NoDbg (bn5 ++ [Str.ofString "mid"]) ([Str.ofString "len"]) := NoDbg.of (by kernel_rfl)
  simp only [bn5, List.cons_append, List.nil_append, List.map_cons, List.map_nil, List.replicate] at hS hD ⊢
  refine EX.cons ?_
  k_extra "m_go"
  refine iteF (by decide) ?_
  k_extra "m_go"
  refine iteT rfl ?_
  k_extra "m_go"
  refine CB.lenL ha (by simp; (first | lia | omega)) ?_
  k_extra "m_go"
  refine iteT rfl ?_
  k_extra "m_go"
  refine WH.loop (BisI σ a xs x) ?_ xs.length _ _ ⟨rfl, 0, xs.length, none, by simp, Nat.zero_le _, Nat.le_refl _, rfl, Nat.le_refl _⟩
  rintro n ρ τ ⟨rfl, lo, hi, o, rfl, h1, h2, h3, h4⟩
  k_extra "m_go"
  by_cases hlt : lo < hi
  · refine iteT (by simpa using hlt) ?_
    k_extra "m_go"
    refine BIN.fdiv (by decide) (PyProof.noPylong_small (by decide)) ?_
    rw [half_eq]
    k_extra "m_go"
    have hm : (lo + hi) / 2 < xs.length := Nat.le_trans (mid_lt2 hlt) h2
    refine ⟨⟨_, .lst ha⟩, GETI.ints ha hm (by (first | lia | omega)) ?_⟩
    k_extra "m_go"
    obtain ⟨m, rfl⟩ := succ_of (Nat.sub_pos_of_lt hlt) h4
    simp only [bisL_2] at h3
    rw [if_pos hlt] at h3
    by_cases hc : xs.getD ((lo + hi) / 2) 0 < x
    · rw [if_pos hc] at h3
      refine iteT (by simpa using hc) ?_
      k_extra "m_go"
      exact ⟨m, Nat.lt_succ_self _, rfl, (lo + hi) / 2 + 1, hi, _, rfl, mid_lt2 hlt, h2, h3, mid_up hlt h4⟩
    · rw [if_neg hc] at h3
      refine iteF (by simpa using hc) ?_
      k_extra "m_go"
      exact ⟨m, Nat.lt_succ_self _, rfl, lo, (lo + hi) / 2, _, rfl, mid_ge hlt, Nat.le_trans (Nat.le_of_lt (mid_lt2 hlt)) h2, h3, mid_dn hlt h4⟩
  · refine iteF (by simpa using hlt) ?_
    have : bisL xs x n lo hi = lo := by cases n <;> simp [bisL_1, bisL_2, hlt]
    rw [this] at h3
    subst h3
    k_extra "m_go"
    exact ⟨rfl, rfl⟩
inductive BisJ (σ : Store) (a : Addr) (xs : List Int) (x : Int) (n : Nat) (ρ : List (Option PV)) (τ : Store) : Prop
  | mk (_ : τ = σ) (lo : _) (hi : _) (o : _) (_ : ρ = [some (.lst a), some (.int x), some (.int ((lo : Nat) : Int)), some (.int ((hi : Nat) : Int)), some .none, o]) (_ : lo ≤ hi) (_ : hi ≤ xs.length) (_ : bisR xs x n lo hi = brI xs x) (_ : hi - lo ≤ n) : BisJ σ a xs x n ρ τ
theorem W_bisect_right (hX : LawX X) {a : Addr} {xs : List Int} {x : Int} (ha : σ a = some (xs.map .int)) (hsz : xs.length ≤ 1000) : ∀ L, EX X k (bn5 ++ [Str.ofString "mid"]) (callEnvC (fd_bisect_right X.w.params) L 32) (bodyOf (fd_bisect_right X.w.params)) ([.lst a, .int x, .int 0, .none, .none].map some ++ List.replicate 1 none) σ
   (QS (.int (brI xs x)) (σ)) := by
  intro L
  have hS := EnvS.of (ns := bn5 ++ [Str.ofString "mid"]) (gs := [Str.ofString "len"]) (fd := fd_bisect_right X.w.params) rfl rfl rfl rfl (by kernel_rfl) L 32
  have hD : NoDbg (bn5 ++ [Str.ofString "mid"]) ([Str.ofString "len"]) := NoDbg.of (by kernel_rfl)
  simp only [bn5, List.cons_append, List.nil_append, List.map_cons, List.map_nil, List.replicate] at hS hD ⊢
  refine EX.cons ?_
  k_extra "m_go"
  refine iteF (by decide) ?_
  k_extra "m_go"
  refine iteT rfl ?_
  k_extra "m_go"
  refine CB.lenL ha (by simp; (first | lia | omega)) ?_
  k_extra "m_go"
  refine iteT rfl ?_
  k_extra "m_go"
  refine WH.loop (BisJ σ a xs x) ?_ xs.length _ _ ⟨rfl, 0, xs.length, none, by simp, Nat.zero_le _, Nat.le_refl _, rfl, Nat.le_refl _⟩
  rintro n ρ τ ⟨rfl, lo, hi, o, rfl, h1, h2, h3, h4⟩
  k_extra "m_go"
  by_cases hlt : lo < hi
  · refine iteT (by simpa using hlt) ?_
    k_extra "m_go"
    refine BIN.fdiv (by decide) (PyProof.noPylong_small (by decide)) ?_
    rw [half_eq]
    k_extra "m_go"
    have hm : (lo + hi) / 2 < xs.length := Nat.le_trans (mid_lt2 hlt) h2
    refine ⟨⟨_, .lst ha⟩, GETI.ints ha hm (by (first | lia | omega)) ?_⟩
    k_extra "m_go"
    obtain ⟨m, rfl⟩ := succ_of (Nat.sub_pos_of_lt hlt) h4
    simp only [bisR_2] at h3
    rw [if_pos hlt] at h3
    by_cases hc : x < xs.getD ((lo + hi) / 2) 0
    · rw [if_pos hc] at h3
      refine iteT (by simpa using hc) ?_
      k_extra "m_go"
      exact ⟨m, Nat.lt_succ_self _, rfl, lo, (lo + hi) / 2, _, rfl, mid_ge hlt, Nat.le_trans (Nat.le_of_lt (mid_lt2 hlt)) h2, h3, mid_dn hlt h4⟩
    · rw [if_neg hc] at h3
      refine iteF (by simpa using hc) ?_
      k_extra "m_go"
      exact ⟨m, Nat.lt_succ_self _, rfl, (lo + hi) / 2 + 1, hi, _, rfl, mid_lt2 hlt, h2, h3, mid_up hlt h4⟩
  · refine iteF (by simpa using hlt) ?_
    have : bisR xs x n lo hi = lo := by cases n <;> simp [bisR_1, bisR_2, hlt]
    rw [this] at h3
    subst h3
    k_extra "m_go"
    exact ⟨rfl, rfl⟩
theorem C_bisect_left2 (hX : LawX X) {a : Addr} {xs : List Int} {x : Int} (ha : σ a = some (xs.map .int)) (hsz : xs.length ≤ 1000) : CALL X (k + 1) (.ref 50) [.lst a, .int x] [] σ fun p σ' => p = .int (blI xs x) ∧ σ' = σ :=
  CALL.def (rest := [Str.ofString "mid"]) (gs := [Str.ofString "len"]) (F_bisect_left hX) rfl (D_bisect_left hX).two rfl (EnvS.of rfl rfl rfl rfl (by kernel_rfl) · 50) (okNames.kinds (gs := []) (by kernel_rfl)) (W_bisect_left hX ha hsz)
theorem C_bisect_right2 (hX : LawX X) {a : Addr} {xs : List Int} {x : Int} (ha : σ a = some (xs.map .int)) (hsz : xs.length ≤ 1000) : CALL X (k + 1) (.ref 32) [.lst a, .int x] [] σ fun p σ' => p = .int (brI xs x) ∧ σ' = σ :=
  CALL.def (rest := [Str.ofString "mid"]) (gs := [Str.ofString "len"]) (F_bisect_right hX) rfl (D_bisect_right hX).two rfl (EnvS.of rfl rfl rfl rfl (by kernel_rfl) · 32) (okNames.kinds (gs := []) (by kernel_rfl)) (W_bisect_right hX ha hsz)
theorem C_bisect_right4 (hX : LawX X) {a : Addr} {xs : List Int} {x : Int} (ha : σ a = some (xs.map .int)) (hsz : xs.length ≤ 1000) : CALL X (k + 1) (.ref 32) [.lst a, .int x, .int 0, .none] [] σ fun p σ' => p = .int (brI xs x) ∧ σ' = σ :=
  CALL.def (rest := [Str.ofString "mid"]) (gs := [Str.ofString "len"]) (F_bisect_right hX) rfl (D_bisect_right hX).four rfl (EnvS.of rfl rfl rfl rfl (by kernel_rfl) · 32) (okNames.kinds (gs := []) (by kernel_rfl)) (W_bisect_right hX ha hsz)
noncomputable def insI (xs : List Int) (x : Int) (i : Nat) : List Int := xs.take i ++ [x] ++ xs.drop i
theorem insI_map (xs : List Int) (x : Int) (i : Nat) : (insI xs x i).map PV.int = (xs.map PV.int).take i ++ [.int x] ++ (xs.map PV.int).drop i := by
  simp [insI, List.map_take, List.map_drop]
theorem insI_len (xs : List Int) (x : Int) (i : Nat) : (insI xs x i).length = xs.length + 1 := by
  exact ins_len xs x i
theorem W_insort_right (hX : LawX X) {a : Addr} {xs : List Int} {x : Int} (ha : σ a = some (xs.map .int)) (hsz : xs.length ≤ 1000) : ∀ L, EX X (k + 1) (bn5 ++ []) (callEnvC (fd_insort_right X.w.params) L 23) (bodyOf (fd_insort_right X.w.params)) ([.lst a, .int x, .int 0, .none, .none].map some ++ List.replicate 0 none) σ
   (QS (.none) (Store.set σ a ((insI xs x (brI xs x)).map .int))) := by
  intro L
  have hS := EnvS.of (ns := bn5 ++ []) (gs := [Str.ofString "bisect_right"]) (fd := fd_insort_right X.w.params) rfl rfl rfl rfl (by kernel_rfl) L 23
  have hD : NoDbg (bn5 ++ []) ([Str.ofString "bisect_right"]) := NoDbg.of (by kernel_rfl)
  simp only [bn5, List.cons_append, List.nil_append, List.map_cons, List.map_nil, List.replicate, List.append_nil] at hS hD ⊢
  refine EX.cons ?_
  k_extra "m_go"
  refine iteT rfl ?_
  k_extra "m_go"
  refine EV.callF hS (by k_extra "m_mem") (G_bisect_right hX) (F_bisect_right hX) ?_ rfl (by k_extra "m_dbg")
  k_extra "m_go"
  refine CALL.mono (C_bisect_right4 hX ha hsz) ?_
  rintro p σ' ⟨rfl, rfl⟩
  k_extra "m_go"
  refine ⟨.lst ha, ?_⟩
  k_extra "m_go"
  have hle : brI xs x ≤ xs.length := (bisR_le xs x xs.length 0 xs.length (Nat.zero_le _)).2
  refine CB.insert ha (Int.natCast_nonneg _) (by (first | lia | omega)) (by simp [sizeLine]; (first | lia | omega)) ?_
  k_extra "m_go"
  exact ⟨rfl, by rw [insI_map, Int.toNat_natCast]⟩
theorem C_insort_right (hX : LawX X) {a : Addr} {xs : List Int} {x : Int} (ha : σ a = some (xs.map .int)) (hsz : xs.length ≤ 1000) : CALL X (k + 2) (.ref 23) [.lst a, .int x] [] σ fun p σ' => p = .none ∧ σ' = Store.set σ a ((insI xs x (brI xs x)).map .int) :=
  CALL.def (rest := []) (gs := [Str.ofString "bisect_right"]) (F_insort_right hX) rfl (D_insort_right hX).two rfl (EnvS.of rfl rfl rfl rfl (by kernel_rfl) · 23) (okNames.kinds (gs := []) (by kernel_rfl)) (W_insort_right hX ha hsz)
end


open PySem PySem.W PyProof.Rows PySem.Spec PySem.Calls
set_option maxRecDepth 100000
set_option maxHeartbeats 8000000

section
variable {X : Cx} {k : Nat} {σ : Store}
noncomputable def escIt : Nat → Bool → List Nat → List (Nat × List Nat)
  | p, e, [] => if e = true then [(p - 1, [92])] else []
  | p, true, c :: cs => (p, [92, c]) :: escIt (p + 1) false cs
  | p, false, c :: cs => if c = 92 then escIt (p + 1) true cs else (p, [c]) :: escIt (p + 1) false cs
noncomputable def escPV (q : Nat × List Nat) : PV := .tup [.int (q.1 : Nat), .str (S q.2)]

theorem GX_esc (hX : LawX X) (cs : List Nat) (hsz : cs.length ≤ 10000) : ∀ L H, GX X ([Str.ofString "addr"] ++ [Str.ofString "pos", Str.ofString "escape", Str.ofString "ch"]) (callEnvC (fd__iter_escaped_chars X.w.params) L 57) .no (.func (bodyOf (fd__iter_escaped_chars X.w.params)) (callEnvC (fd__iter_escaped_chars X.w.params) L 57)) []
    ((escIt 0 false cs).map escPV) ((execs (bodyOf (fd__iter_escaped_chars X.w.params)) (callEnvC (fd__iter_escaped_chars X.w.params) L 57)).wrap (fun f => .pure (.done (.ret (match f with | .ret v => v | _ => .none)))) H id id) ([PV.str (S cs)].map some ++ List.replicate 3 none) := by
  intro L H
  have hS := EnvS.of (ns := [Str.ofString "addr"] ++ [Str.ofString "pos", Str.ofString "escape", Str.ofString "ch"]) (gs := [Str.ofString "enumerate"]) (fd := fd__iter_escaped_chars X.w.params) rfl rfl rfl rfl (by kernel_rfl) L 57
  have hD : NoDbg ([Str.ofString "addr"] ++ [Str.ofString "pos", Str.ofString "escape", Str.ofString "ch"]) ([Str.ofString "enumerate"]) := NoDbg.of (by kernel_rfl)
  simp only [List.cons_append, List.nil_append, List.map_cons, List.map_nil, List.replicate] at hS hD ⊢
  have hcell : (callEnvC (fd__iter_escaped_chars X.w.params) L 57).cells = [] := rfl
  refine GX.stmts (st := ?_) (rest := ?_) Over.func hcell fun σ => ?_
  rotate_left 2
  k_extra "m_go"
  refine ⟨rfl, rfl, ?_⟩
  refine GX.stmts Over.func hcell fun σ => ?_
  k_extra "m_go"
  refine ⟨rfl, rfl, ?_⟩
  refine GX.forEn (x := S cs) hS Over.func hcell (by k_extra "m_mem") (G_enumerate hX) (fun σ => ?_) (fun J I t kf l p hkf => ?_) (by rfl) (by k_extra "m_dbg") (by intro _; rfl)
  · k_extra "m_go"
    exact ⟨rfl, rfl⟩
  · suffices loop : ∀ (rest : List Nat) (i : Nat) (e : Bool) (o : Option PV), cs.drop i = rest → i ≤ cs.length → (i = 0 → e = false) → (∀ q, o = some q → Flat q = true) →
        GX X [Str.ofString "addr", Str.ofString "pos", Str.ofString "escape", Str.ofString "ch"] _ (.at J I (S cs) t i) _ _ ((escIt i e rest).map escPV) _
          [some (.str (S cs)), some (.int ((i - 1 : Nat) : Int)), some (.bool e), o] from loop cs 0 false none rfl (Nat.zero_le _) (fun _ => rfl) (by intro q h; cases h)
    intro rest
    induction rest with
    | nil =>
      intro i e o hd hi h0 hfl
      have hi' : i = (S cs).cps.size := by
        have := congrArg List.length hd
        simp [S] at this ⊢; (first | lia | omega)
      subst hi'
      refine GX.loop_done Over.loop ?_
      rw [hkf]
      refine GX.ite Over.func fun σ => ?_
      k_extra "m_go"
      refine ⟨rfl, ?_⟩
      cases e with
      | true =>
        refine iteT rfl ?_
        refine GX.yield (xs := []) Over.func rfl rfl rfl hcell rfl rfl ?_ (fun σ => ?_) ?_
        · cases o with
          | none => rfl
          | some q =>
            have hq := hfl q rfl
            show (true && (true && (true && (Flat q && true)))) = true
            rw [hq]; rfl
        · k_extra "m_go"
          exact ⟨by simp [sizeLine], rfl, rfl⟩
        · exact GX.done (p := ⟨0, 0, 0, 0⟩) rfl
      | false =>
        refine iteF rfl ?_
        exact GX.done (p := ⟨0, 0, 0, 0⟩) rfl
    | cons c rest ih =>
      intro i e o hd hi h0 hfl
      have hlt : i < cs.length := by
        rcases Nat.lt_or_ge i cs.length with h | h
        · exact h
        · rw [List.drop_eq_nil_of_le h] at hd; cases hd
      have hc : (S cs).cps[i]? = some c := by
        have : cs[i]? = some c := by
          have := congrArg (·[0]?) hd
          simpa using this
        simpa [S] using this
      have hd' : cs.drop (i + 1) = rest := by
        have := congrArg List.tail hd
        simpa using this
      have ih' := fun e' o' => ih (i + 1) e' o' hd' hlt (by simp)
      refine GX.loop_step Over.loop hc hcell ?_
      k_extra "m_go"
      intro H
      refine GX.ite Over.loop fun σ => ?_
      k_extra "m_go"
      refine ⟨rfl, ?_⟩
      have hSc : (⟨#[c]⟩ : Str) = S [c] := rfl
      have bs : Str.ofString "\\" = S [92] := by decide +kernel
      have pred : ((i + 1 - 1 : Nat) : Int) = (i : Nat) := by simp
      cases e with
      | true =>
        refine iteT rfl ?_
        refine GX.yield Over.loop rfl rfl rfl hcell rfl rfl rfl (fun σ => ?_) ?_
        · k_extra "m_go"
          rw [bs, hSc]
          refine BIN.addS (by simp [S_len, sizeLine]) ?_
          k_extra "m_go"
          exact ⟨by simp [sizeLine], rfl, by rw [S_append]; rfl⟩
        · refine GX.stmts Over.loop hcell fun σ => ?_
          k_extra "m_go"
          refine ⟨rfl, rfl, ?_⟩
          refine GX.nil (GX.nil ?_)
          intro A σ s Φ R M e Z a
          refine gseg_again rfl ?_
          have := ih' false (some (.str ⟨#[c]⟩)) (by intro q h; cases h; rfl)
          rw [pred] at this
          exact this A σ s Φ R M e Z a
      | false =>
        refine iteF rfl ?_
        refine GX.ite Over.loop fun σ => ?_
        k_extra "m_go"
        refine ⟨rfl, ?_⟩
        rw [bs, hSc, S_beq]
        by_cases h92 : c = 92
        · subst h92
          refine iteT (by simp) ?_
          refine GX.stmts Over.loop hcell fun σ => ?_
          k_extra "m_go"
          refine ⟨rfl, rfl, ?_⟩
          refine GX.nil (GX.nil (GX.nil ?_))
          intro A σ s Φ R M e Z a
          refine gseg_again rfl ?_
          have := ih' true (some (.str ⟨#[92]⟩)) (by intro q h; cases h; rfl)
          rw [pred] at this
          exact this A σ s Φ R M e Z a
        · refine iteF (by simpa using h92) ?_
          have e2 : escIt i false (c :: rest) = (i, [c]) :: escIt (i + 1) false rest := by simp [escIt, h92]
          rw [e2]
          refine GX.yield Over.loop rfl rfl rfl hcell rfl rfl rfl (fun σ => ?_) ?_
          · k_extra "m_go"
            exact ⟨by simp [sizeLine], rfl, rfl⟩
          · refine GX.nil (GX.nil (GX.nil ?_))
            intro A σ s Φ R M e Z a
            refine gseg_again rfl ?_
            have := ih' false (some (.str ⟨#[c]⟩)) (by intro q h; cases h; rfl)
            rw [pred] at this
            exact this A σ s Φ R M e Z a
end


open PySem PySem.W PyProof.Rows PySem.Spec PySem.Calls
set_option maxRecDepth 100000
set_option maxHeartbeats 8000000

section
variable {X : Cx} {k : Nat} {σ : Store}
theorem EVI_esc (hX : LawX X) {ns gs : List Str} {env : Env} {ρ : List (Option PV)} {np pos : Pos} {args : List Expr} {Q : It → Store → Prop} (hS : EnvS ns gs env) (hg : Str.ofString "_iter_escaped_chars" ∈ gs)
    (h : EVS X k ns env pos args ρ σ fun as σ₁ => ∃ cs : List Nat, as = [.str (S cs)] ∧ cs.length ≤ 10000 ∧ Q (.seq ((escIt 0 false cs).map escPV)) σ₁) (hno : (backTo pos (starEach args env)).any (·.1) = false) :
    EVI X (k + 1) ns env (.Call (.Name (Str.ofString "_iter_escaped_chars") np) args [] pos) ρ σ Q := by
  refine EVI.gen (bn := [Str.ofString "addr"]) (rest := [Str.ofString "pos", Str.ofString "escape", Str.ofString "ch"]) (gs' := [Str.ofString "enumerate"]) hS hg (G__iter_escaped_chars hX) (F__iter_escaped_chars hX) rfl
    (EnvS.of rfl rfl rfl rfl (by kernel_rfl) · 57) (okNames.kinds (gs := []) (by kernel_rfl)) (fun _ => rfl) ?_ hno (by k_extra "m_dbg")
  intro A s Q' E R M e hQ
  refine h A s Q' E R M e fun as σ₁ vs s₁ ha M₁ r₁ t₁ => hQ as σ₁ vs s₁ ?_ M₁ r₁ t₁
  obtain ⟨cs, rfl, hsz, hq⟩ := ha
  refine ⟨[.str (S cs)], (escIt 0 false cs).map escPV, BINDS.pos1 fun v => ?_, rfl, rfl, fun L H => GX_esc hX cs hsz L H, hq⟩
  kernel_rfl

theorem escIt_len : ∀ (cs : List Nat) (p : Nat) (e : Bool), (escIt p e cs).length ≤ cs.length + 1
  | [], p, e => by unfold escIt; cases e <;> simp
  | c :: cs, p, true => by have := escIt_len cs (p + 1) false; simp [escIt]; (first | lia | omega)
  | c :: cs, p, false => by
    have h1 := escIt_len cs (p + 1) true
    have h2 := escIt_len cs (p + 1) false
    unfold escIt
    split
    · simp; (first | lia | omega)
    · simp; (first | lia | omega)

noncomputable def opPV : Option Nat → PV
  | none => .none
  | some p => .int (p : Nat)
noncomputable def strPV (x : List Nat) : PV := .str (S x)
noncomputable def stripSt (cs : List Nat) : List (Nat × List Nat) → Nat → Option Nat → List (List Nat) → List (List Nat)
  | [], st, op, res => if st < cs.length then res ++ [cut cs (some (st : Nat)) none] else res
  | (p, u) :: r, st, op, res => if u = [34] then (match op with
      | none => stripSt cs r st (some p) res
      | some o => stripSt cs r (p + 1) none (if st = o then res else res ++ [cut cs (some (st : Nat)) (some (o : Nat))])) else stripSt cs r st op res
theorem stripSt_1 (cs : List Nat) : ∀ st op res, stripSt cs [] st op res = (if st < cs.length then res ++ [cut cs (some (st : Nat)) none] else res) := by intros; rfl
theorem stripSt_2 (cs : List Nat) : ∀ p u r st op res, stripSt cs ((p, u) :: r) st op res = (if u = [34] then (match op with
      | none => stripSt cs r st (some p) res
      | some o => stripSt cs r (p + 1) none (if st = o then res else res ++ [cut cs (some (st : Nat)) (some (o : Nat))])) else stripSt cs r st op res) := by intros; rfl
noncomputable def stripF (cs : List Nat) : List Nat := if 34 ∈ cs then (stripSt cs (escIt 0 false cs) 0 none []).flatten else cs

inductive StripI (σ : Store) (r : Addr) (cs : List Nat) (n : Nat) (it : It) (ρ : List (Option PV)) (τ : Store) : Prop
  | mk (items : _) (st : _) (op : _) (res : _) (o1 : _) (o2 : _) (_ : it = .seq (items.map escPV)) (_ : n = items.length) (_ : ρ = [some (.str (S cs)), some (.int ((st : Nat) : Int)), some (opPV op), some (.lst r), o1, o2]) (_ : τ = Store.set σ r (res.map strPV)) (_ : stripSt cs items st op res = stripSt cs (escIt 0 false cs) 0 none []) (_ : res.length + items.length ≤ 20000) : StripI σ r cs n it ρ τ
theorem W_strip (hX : LawX X) {cs : List Nat} (hsz : cs.length ≤ 10000) (hfl : (stripF cs).length ≤ 10000) : ∀ L, EX X (k + 9) ([Str.ofString "addr"] ++ [Str.ofString "start", Str.ofString "open_pos", Str.ofString "result", Str.ofString "pos", Str.ofString "ch"]) (callEnvC (fd__strip_quoted_realnames X.w.params) L 64) (bodyOf (fd__strip_quoted_realnames X.w.params)) ([PV.str (S cs)].map some ++ List.replicate 5 none) σ
   (QE (.str (S (stripF cs))) σ) := by
  intro L
  have hS := EnvS.of (ns := [Str.ofString "addr"] ++ [Str.ofString "start", Str.ofString "open_pos", Str.ofString "result", Str.ofString "pos", Str.ofString "ch"]) (gs := [Str.ofString "_iter_escaped_chars", Str.ofString "len"]) (fd := fd__strip_quoted_realnames X.w.params) rfl rfl rfl rfl (by kernel_rfl) L 64
  have hD : NoDbg ([Str.ofString "addr"] ++ [Str.ofString "start", Str.ofString "open_pos", Str.ofString "result", Str.ofString "pos", Str.ofString "ch"]) ([Str.ofString "_iter_escaped_chars", Str.ofString "len"]) := NoDbg.of (by kernel_rfl)
  simp only [List.cons_append, List.nil_append, List.map_cons, List.map_nil, List.replicate] at hS hD ⊢
  have qs : Str.ofString "\"" = S [34] := by decide +kernel
  have es : Str.ofString "" = S [] := by decide +kernel
  have fo : (!(Builtin.Str.occurrences (S cs) (S [34]) 0 (S cs).length 1).isEmpty) = decide (34 ∈ cs) := by
    refine (PySem.StrLaws.found_one (S cs) 34).trans (decide_eq_decide.mpr ?_)
    simp [S]
  refine EX.cons ?_
  k_extra "m_go"
  rw [qs, fo]
  by_cases hq : 34 ∈ cs
  · refine iteF (by simpa using hq) ?_
    k_extra "m_go"
    refine ⟨by simp [sizeLine], fun r hr => ?_⟩
    k_extra "m_go"
    refine EVI_esc hX hS (by k_extra "m_mem") ?_ rfl
    k_extra "m_go"
    refine ⟨cs, rfl, hsz, ?_⟩
    have hfin : stripF cs = (stripSt cs (escIt 0 false cs) 0 none []).flatten := if_pos hq
    refine FL.loop (by (first | lia | omega)) (StripI σ r cs) ?_ ?_ (escIt 0 false cs).length _ _ _ ⟨_, 0, none, [], none, none, rfl, rfl, rfl, rfl, rfl, ?_⟩
    · rintro it ρ τ ⟨items, st, op, res, o1, o2, rfl, hn, rfl, rfl, hst, hlen⟩
      have : items = [] := List.length_eq_zero_iff.mp hn.symm
      subst this
      refine ⟨.seqE, ?_⟩
      k_extra "m_go"
      refine CB.lenS (by rw [S_len]; (first | lia | omega)) ?_
      k_extra "m_go"
      rw [S_len]
      simp only [stripSt_1, stripSt_2] at hst
      by_cases hlt : st < cs.length
      · rw [if_pos hlt] at hst
        refine iteT (by simpa using hlt) ?_
        k_extra "m_go"
        refine ⟨.lst Store.set_same, ?_⟩
        k_extra "m_go"
        k_extra "m_slS"
        k_extra "m_go"
        refine ⟨.str, SLI.str rfl rfl (by simp [sizeLine]; (first | lia | omega)) ?_⟩
        k_extra "m_go"
        refine CB.append Store.set_same (by simp at hlen; simp [sizeLine]; (first | lia | omega)) ?_
        k_extra "m_go"
        refine ⟨.str, ?_⟩
        k_extra "m_go"
        have e1 : List.map strPV res ++ [PV.str (S (cut cs (some (st : Nat)) none))] = List.map strPV (res ++ [cut cs (some (st : Nat)) none]) := by simp [strPV]
        rw [es, set_set, e1, hst]
        refine CB.join (l := stripSt cs (escIt 0 false cs) 0 none []) Store.set_same (by rw [← hfin]; simp [sizeLine]; (first | lia | omega)) ?_
        k_extra "m_go"
        rw [hfin]
        exact ⟨rfl, Ext.new hr⟩
      · rw [if_neg hlt] at hst
        refine iteF (by simpa using hlt) ?_
        k_extra "m_go"
        refine ⟨.str, ?_⟩
        k_extra "m_go"
        rw [es, hst]
        refine CB.join (l := stripSt cs (escIt 0 false cs) 0 none []) Store.set_same (by rw [← hfin]; simp [sizeLine]; (first | lia | omega)) ?_
        k_extra "m_go"
        rw [hfin]
        exact ⟨rfl, Ext.new hr⟩
    · rintro n it ρ τ ⟨items, st, op, res, o1, o2, rfl, hn, rfl, rfl, hst, hlen⟩
      cases items with
      | nil => simp at hn
      | cons q items =>
      obtain ⟨p, u⟩ := q
      have hn' : n = items.length := by simpa using hn
      simp only [List.length_cons] at hlen
      have hop : ∀ v, opPV op ≠ .raw v := by cases op <;> (intro v q; cases q)
      refine ⟨.tup [.int (p : Nat), .str (S u)], _, .seq, .inl (by simp), ?_⟩
      k_extra "m_go"
      rw [S_beq]
      by_cases hu : u = [34]
      · subst hu
        refine iteT (by simp) ?_
        k_extra "m_go"
        cases op with
        | none =>
          refine iteT rfl ?_
          k_extra "m_go"
          exact ⟨items, st, some p, res, _, _, rfl, hn', rfl, rfl, by rw [← hst]; simp [stripSt_1, stripSt_2], by (first | lia | omega)⟩
        | some o =>
          refine iteF rfl ?_
          k_extra "m_go"
          refine CMP.ne (b := ((o : Nat) : Int)) ?_
          k_extra "m_go"
          by_cases hso : st = o
          · subst hso
            refine iteF (by simp) ?_
            k_extra "m_go"
            exact ⟨items, p + 1, none, res, _, _, rfl, hn', by push_cast; rfl, rfl, by rw [← hst]; simp [stripSt_1, stripSt_2], by (first | lia | omega)⟩
          · refine iteT (by simp; (first | lia | omega)) ?_
            k_extra "m_go"
            refine ⟨.lst Store.set_same, ?_⟩
            k_extra "m_go"
            k_extra "m_slS"
            k_extra "m_go"
            refine ⟨.str, SLI.str (u := .int (o : Nat)) rfl rfl (by simp [sizeLine]; (first | lia | omega)) ?_⟩
            k_extra "m_go"
            refine CB.append Store.set_same (by simp [sizeLine]; (first | lia | omega)) ?_
            k_extra "m_go"
            exact ⟨items, p + 1, none, res ++ [cut cs (some (st : Nat)) (some (o : Nat))], _, _, rfl, hn', by push_cast; rfl, by rw [set_set, List.map_append]; rfl, by rw [← hst]; simp [stripSt_1, stripSt_2, hso], by simp; (first | lia | omega)⟩
      · refine iteF (by simpa using hu) ?_
        k_extra "m_go"
        exact ⟨items, st, op, res, _, _, rfl, hn', rfl, rfl, by rw [← hst]; simp [stripSt_1, stripSt_2, hu], by (first | lia | omega)⟩
    · have := escIt_len cs 0 false
      simp; (first | lia | omega)
  · refine iteT (by simpa using hq) ?_
    k_extra "m_go"
    have : stripF cs = cs := if_neg hq
    rw [this]
    exact ⟨rfl, Ext.refl⟩
theorem C_strip (hX : LawX X) {cs : List Nat} (hsz : cs.length ≤ 10000) (hfl : (stripF cs).length ≤ 10000) : CALL X (k + 10) (.ref 64) [.str (S cs)] [] σ fun p σ' => p = .str (S (stripF cs)) ∧ Ext σ σ' :=
  CALL.def (bn := [Str.ofString "addr"]) (rest := [Str.ofString "start", Str.ofString "open_pos", Str.ofString "result", Str.ofString "pos", Str.ofString "ch"]) (gs := [Str.ofString "_iter_escaped_chars", Str.ofString "len"]) (F__strip_quoted_realnames hX) rfl
    (BINDS.pos1 fun v => by kernel_rfl) rfl (EnvS.of rfl rfl rfl rfl (by kernel_rfl) · 64) (okNames.kinds (gs := []) (by kernel_rfl)) (W_strip hX hsz hfl)
end


open PySem PySem.W PyProof.Rows PySem.Spec PySem.Calls
set_option maxRecDepth 100000
set_option maxHeartbeats 8000000

section
variable {X : Cx} {k : Nat} {σ : Store}
noncomputable def chkSt : List (Nat × List Nat) → Int → Bool
  | [], o => o == 0
  | (p, u) :: r, o => if u = [40] then chkSt r (o + 1) else if u = [41] then (if o - 1 < 0 then false else chkSt r (o - 1)) else chkSt r o
theorem chkSt_1 : ∀ o, chkSt [] o = (o == 0) := by intros; rfl
theorem chkSt_2 : ∀ p u r o, chkSt ((p, u) :: r) o = (if u = [40] then chkSt r (o + 1) else if u = [41] then (if o - 1 < 0 then false else chkSt r (o - 1)) else chkSt r o) := by intros; rfl
noncomputable def checkF (cs : List Nat) : Bool := chkSt (escIt 0 false (stripF cs)) 0

inductive CheckI (σ₁ : Store) (cs : List Nat) (n : Nat) (it : It) (ρ : List (Option PV)) (τ : Store) : Prop
  | mk (items : _) (o : _) (o1 : _) (o2 : _) (_ : it = .seq (items.map escPV)) (_ : n = items.length) (_ : ρ = [some (.str (S (stripF cs))), some (.int o), o1, o2]) (_ : τ = σ₁) (_ : chkSt items o = checkF cs) : CheckI σ₁ cs n it ρ τ
theorem W_check (hX : LawX X) {cs : List Nat} (hsz : cs.length ≤ 10000) (hfl : (stripF cs).length ≤ 10000) : ∀ L, EX X (k + 10) ([Str.ofString "addr"] ++ [Str.ofString "opens", Str.ofString "pos", Str.ofString "ch"]) (callEnvC (fd__check_parenthesis X.w.params) L 71) (bodyOf (fd__check_parenthesis X.w.params)) ([PV.str (S cs)].map some ++ List.replicate 3 none) σ
   (QE (.bool (checkF cs)) σ) := by
  intro L
  have hS := EnvS.of (ns := [Str.ofString "addr"] ++ [Str.ofString "opens", Str.ofString "pos", Str.ofString "ch"]) (gs := [Str.ofString "_iter_escaped_chars", Str.ofString "_strip_quoted_realnames"]) (fd := fd__check_parenthesis X.w.params) rfl rfl rfl rfl (by kernel_rfl) L 71
  have hD : NoDbg ([Str.ofString "addr"] ++ [Str.ofString "opens", Str.ofString "pos", Str.ofString "ch"]) ([Str.ofString "_iter_escaped_chars", Str.ofString "_strip_quoted_realnames"]) := NoDbg.of (by kernel_rfl)
  simp only [List.cons_append, List.nil_append, List.map_cons, List.map_nil, List.replicate] at hS hD ⊢
  have q1 : Str.ofString "(" = S [40] := by decide +kernel
  have q2 : Str.ofString ")" = S [41] := by decide +kernel
  refine EX.cons ?_
  k_extra "m_go"
  refine EV.callF hS (by k_extra "m_mem") (G__strip_quoted_realnames hX) (F__strip_quoted_realnames hX) ?_ rfl (by k_extra "m_dbg")
  k_extra "m_go"
  refine CALL.mono (C_strip hX hsz hfl) ?_
  rintro p σ₁ ⟨rfl, hE⟩
  k_extra "m_go"
  refine EVI_esc hX hS (by k_extra "m_mem") ?_ rfl
  k_extra "m_go"
  refine ⟨stripF cs, rfl, hfl, ?_⟩
  refine FL.loop (by (first | lia | omega)) (CheckI σ₁ cs) ?_ ?_ (escIt 0 false (stripF cs)).length _ _ _ ⟨_, 0, none, none, rfl, rfl, rfl, rfl, rfl⟩
  · rintro it ρ τ ⟨items, o, o1, o2, rfl, hn, rfl, rfl, hst⟩
    have : items = [] := List.length_eq_zero_iff.mp hn.symm
    subst this
    refine ⟨.seqE, ?_⟩
    k_extra "m_go"
    exact ⟨by rw [← hst]; rfl, hE⟩
  · rintro n it ρ τ ⟨items, o, o1, o2, rfl, hn, rfl, rfl, hst⟩
    cases items with
    | nil => simp at hn
    | cons q items =>
    obtain ⟨p, u⟩ := q
    have hn' : n = items.length := by simpa using hn
    refine ⟨.tup [.int (p : Nat), .str (S u)], _, .seq, .inl (by simp), ?_⟩
    k_extra "m_go"
    rw [q1, S_beq]
    simp only [chkSt_1, chkSt_2] at hst
    by_cases h1 : u = [40]
    · rw [if_pos h1] at hst
      refine iteT (by simpa using h1) ?_
      k_extra "m_go"
      exact ⟨items, o + 1, _, _, rfl, hn', rfl, rfl, hst⟩
    · rw [if_neg h1] at hst
      refine iteF (by simpa using h1) ?_
      k_extra "m_go"
      rw [q2, S_beq]
      by_cases h2 : u = [41]
      · rw [if_pos h2] at hst
        refine iteT (by simpa using h2) ?_
        k_extra "m_go"
        by_cases h3 : o - 1 < 0
        · rw [if_pos h3] at hst
          refine iteT (by simpa using h3) ?_
          k_extra "m_go"
          exact ⟨by rw [← hst]; rfl, hE⟩
        · rw [if_neg h3] at hst
          refine iteF (by simpa using h3) ?_
          k_extra "m_go"
          exact ⟨items, o - 1, _, _, rfl, hn', rfl, rfl, hst⟩
      · rw [if_neg h2] at hst
        refine iteF (by simpa using h2) ?_
        k_extra "m_go"
        exact ⟨items, o, _, _, rfl, hn', rfl, rfl, hst⟩
theorem C_check (hX : LawX X) {cs : List Nat} (hsz : cs.length ≤ 10000) (hfl : (stripF cs).length ≤ 10000) : CALL X (k + 11) (.ref 71) [.str (S cs)] [] σ fun p σ' => p = .bool (checkF cs) ∧ Ext σ σ' :=
  CALL.def (bn := [Str.ofString "addr"]) (rest := [Str.ofString "opens", Str.ofString "pos", Str.ofString "ch"]) (gs := [Str.ofString "_iter_escaped_chars", Str.ofString "_strip_quoted_realnames"]) (F__check_parenthesis hX) rfl
    (BINDS.pos1 fun v => by kernel_rfl) rfl (EnvS.of rfl rfl rfl rfl (by kernel_rfl) · 71) (okNames.kinds (gs := []) (by kernel_rfl)) (W_check hX hsz hfl)
end


open PySem PySem.W PyProof.Rows PySem.Spec PySem.Calls
set_option maxRecDepth 100000
set_option maxHeartbeats 8000000

section
variable {X : Cx} {k : Nat} {σ : Store}
noncomputable def lowC (c : Nat) : Nat := if 65 ≤ c ∧ c ≤ 90 then c + 32 else c
noncomputable def letters : List Nat := [65, 66, 67, 68, 69, 97, 98, 99, 100, 101]
theorem low_ok : ∀ c ∈ letters, Txt.lower (S [c]) = S [lowC c] := by decide +kernel
noncomputable def costT (a b : Nat) : Int := if a = b then 0 else if lowC a = lowC b then 1 else 2

theorem W_cost (hX : LawX X) {a b : Nat} (ha : a ∈ letters) (hb : b ∈ letters) : ∀ L, EX X k ([Str.ofString "ch_a", Str.ofString "ch_b"] ++ []) (callEnvC (fd__substitution_cost X.w.params) L 78) (bodyOf (fd__substitution_cost X.w.params)) ([PV.str (S [a]), PV.str (S [b])].map some ++ List.replicate 0 none) σ
   (QS (.int (costT a b)) (σ)) := by
  intro L
  have hS := EnvS.of (ns := [Str.ofString "ch_a", Str.ofString "ch_b"] ++ []) (gs := [Str.ofString "_CASE_COST", Str.ofString "_MOVE_COST"]) (fd := fd__substitution_cost X.w.params) rfl rfl rfl rfl (by kernel_rfl) L 78
  have hD : NoDbg ([Str.ofString "ch_a", Str.ofString "ch_b"] ++ []) ([Str.ofString "_CASE_COST", Str.ofString "_MOVE_COST"]) := NoDbg.of (by kernel_rfl)
  simp only [List.cons_append, List.nil_append, List.map_cons, List.map_nil, List.replicate, List.append_nil] at hS hD ⊢
  refine EX.cons ?_
  k_extra "m_go"
  rw [S_beq]
  by_cases h1 : a = b
  · refine iteT (by simpa using h1) ?_
    k_extra "m_go"
    exact ⟨by simp [retOf, costT, h1], rfl⟩
  · refine iteF (by simpa using h1) ?_
    k_extra "m_go"
    refine ⟨.str, ?_⟩
    k_extra "m_go"
    refine CB.lower (low_ok a ha) (by simp [sizeLine]) ?_
    k_extra "m_go"
    refine ⟨.str, ?_⟩
    k_extra "m_go"
    refine CB.lower (low_ok b hb) (by simp [sizeLine]) ?_
    k_extra "m_go"
    rw [S_beq]
    by_cases h2 : lowC a = lowC b
    · refine iteT (by simpa using h2) ?_
      k_extra "m_go"
      exact ⟨by simp [retOf, costT, h1, h2], rfl⟩
    · refine iteF (by simpa using h2) ?_
      k_extra "m_go"
      exact ⟨by simp [retOf, costT, h1, h2], rfl⟩
theorem C_cost (hX : LawX X) {a b : Nat} (ha : a ∈ letters) (hb : b ∈ letters) : CALL X (k + 1) (.ref 78) [.str (S [a]), .str (S [b])] [] σ fun p σ' => p = .int (costT a b) ∧ σ' = σ :=
  CALL.def (bn := [Str.ofString "ch_a", Str.ofString "ch_b"]) (rest := []) (gs := [Str.ofString "_CASE_COST", Str.ofString "_MOVE_COST"]) (F__substitution_cost hX) rfl
    (BINDS.pos2 fun v w => by kernel_rfl) rfl (EnvS.of rfl rfl rfl rfl (by kernel_rfl) · 78) (okNames.kinds (gs := []) (by kernel_rfl)) (W_cost hX ha hb)

noncomputable def preN (a b : List Nat) : Nat → Nat → Nat
  | 0, i => i
  | f + 1, i => if i < a.length ∧ i < b.length ∧ a.getD i 0 = b.getD i 0 then preN a b f (i + 1) else i
theorem preN_1 (a b : List Nat) : ∀ i, preN a b 0 i = (i) := by intros; rfl
theorem preN_2 (a b : List Nat) : ∀ f i, preN a b (f + 1) i = (if i < a.length ∧ i < b.length ∧ a.getD i 0 = b.getD i 0 then preN a b f (i + 1) else i) := by intros; rfl
noncomputable def sufN (a b : List Nat) : Nat → Nat → Nat
  | 0, j => j
  | f + 1, j => if j < a.length ∧ j < b.length ∧ a.getD (a.length - 1 - j) 0 = b.getD (b.length - 1 - j) 0 then sufN a b f (j + 1) else j
theorem sufN_1 (a b : List Nat) : ∀ j, sufN a b 0 j = (j) := by intros; rfl
theorem sufN_2 (a b : List Nat) : ∀ f j, sufN a b (f + 1) j = (if j < a.length ∧ j < b.length ∧ a.getD (a.length - 1 - j) 0 = b.getD (b.length - 1 - j) 0 then sufN a b f (j + 1) else j) := by intros; rfl
noncomputable def rowStep (c : Nat) : List Nat → List Int → Int → Int → Int → List Int × Int × Int
  | x :: as, d :: ds, dist, res, mn =>
    let sub := dist + costT c x
    let ins := (if d < res then d else res) + 2
    let r := if sub < ins then sub else ins
    let z := rowStep c as ds d r (if r < mn then r else mn)
    (r :: z.1, z.2)
  | _, _, _, res, mn => ([], res, mn)
theorem rowStep_1 (c : Nat) : ∀ x as d ds dist res mn, rowStep c (x :: as) (d :: ds) dist res mn = (let sub := dist + costT c x
    let ins := (if d < res then d else res) + 2
    let r := if sub < ins then sub else ins
    let z := rowStep c as ds d r (if r < mn then r else mn)
    (r :: z.1, z.2)) := by intros; rfl
theorem rowStep_2 (c : Nat) : ∀ ds d res mn, rowStep c [] ds d res mn = (([], res, mn)) := by intros; rfl
noncomputable def rowsStep (a : List Nat) (mc : Int) : List Nat → Nat → List Int → Int → Int
  | [], _, _, res => res
  | c :: bs, i, row, res =>
    let z := rowStep c a row ((i : Int) * 2) ((i : Int) * 2) 9223372036854775807
    if mc < z.2.2 then mc + 1 else rowsStep a mc bs (i + 1) z.1 z.2.1
theorem rowsStep_1 (a : List Nat) (mc : Int) : ∀ w1 w2 res, rowsStep a mc [] w1 w2 res = (res) := by intros; rfl
theorem rowsStep_2 (a : List Nat) (mc : Int) : ∀ c bs i row res, rowsStep a mc (c :: bs) i row res = (let z := rowStep c a row ((i : Int) * 2) ((i : Int) * 2) 9223372036854775807
    if mc < z.2.2 then mc + 1 else rowsStep a mc bs (i + 1) z.1 z.2.1) := by intros; rfl
noncomputable def row0 (n : Nat) : List Int := (List.range n).map fun (i : Nat) => 2 + (i : Int) * 2
noncomputable def levMain (a b : List Nat) (mc : Int) : Int :=
  if mc < ((b.length : Int) - a.length) * 2 then mc + 1 else rowsStep a mc b 0 (row0 a.length) 0
noncomputable def levT (a b : List Nat) (mc : Int) : Int :=
  if a = [] ∨ b = [] then 2 * ((a.length : Int) + b.length)
  else if b.length < a.length then levMain b a mc else levMain a b mc
noncomputable def levF (a b : List Nat) (mc : Int) : Int :=
  if a = b then 0 else
    let i := preN a b a.length 0
    let a1 := a.drop i
    let b1 := b.drop i
    let j := sufN a1 b1 a1.length 0
    levT (a1.take (a1.length - j)) (b1.take (b1.length - j)) mc

theorem range_ok : ∀ n : Nat, n < 65 → Builtin.Range.small 0 n 1 = true ∧ Builtin.Range.rangeSize 0 n 1 = n := by decide +kernel
theorem range2_ok : ∀ n : Nat, n < 65 → Builtin.Range.small 2 (2 * ((n : Int) + 1)) 2 = true ∧ Builtin.Range.rangeSize 2 (2 * ((n : Int) + 1)) 2 = n := by decide +kernel
end


open PySem PySem.W PyProof.Rows PySem.Spec PySem.Calls
set_option maxRecDepth 100000
set_option maxHeartbeats 8000000

section
variable {X : Cx} {k : Nat} {σ : Store}
theorem neg_idx {x : List Nat} {j : Nat} (hj : j < x.length) : (seqIndex? (-(j : Int) - 1) x.length).bind (x[·]?) = some (x.getD (x.length - 1 - j) 0) := by
  have e : seqIndex? (-(j : Int) - 1) x.length = some (x.length - 1 - j) := by
    obtain ⟨n, hn⟩ := Nat.le.dest hj
    have h3 : -(j : Int) - 1 + (x.length : Nat) = ((n : Nat) : Int) := by rw [← hn]; (first | lia | omega)
    have h4 : x.length - 1 - j = n := by rw [Nat.sub_sub, Nat.add_comm 1 j, ← hn]; exact Nat.add_sub_cancel_left ..
    have h5 : n < x.length := by rw [← hn]; exact Nat.lt_add_of_pos_left (Nat.succ_pos j)
    simp only [seqIndex?]
    rw [if_pos (show -(j : Int) - 1 < 0 by (first | lia | omega)), h3, if_pos (by rw [Bool.and_eq_true]; exact ⟨decide_eq_true (Int.natCast_nonneg n), decide_eq_true (Int.ofNat_lt.mpr h5)⟩), h4]; rfl
  rw [e]
  simp only [Option.bind_some]
  rw [List.getElem?_eq_getElem (by (first | lia | omega))]
  simp [List.getD, List.getElem?_eq_getElem (show x.length - 1 - j < x.length by (first | lia | omega))]
theorem pos_idx {x : List Nat} {i : Nat} (hi : i < x.length) : (seqIndex? (i : Int) x.length).bind (x[·]?) = some (x.getD i 0) := by
  have e : seqIndex? (i : Int) x.length = some i := by
    simp only [seqIndex?]
    rw [if_neg (show ¬ ((i : Int) < 0) by (first | lia | omega)), if_pos (by rw [Bool.and_eq_true]; exact ⟨decide_eq_true (by (first | lia | omega)), decide_eq_true (by (first | lia | omega))⟩)]
    congr 1
  rw [e]
  simp only [Option.bind_some]
  rw [List.getElem?_eq_getElem hi]
  simp [List.getD, List.getElem?_eq_getElem hi]
theorem preN_le (a b : List Nat) : ∀ f i, i ≤ a.length → preN a b f i ≤ a.length
  | 0, i, h => h
  | f + 1, i, h => by
    simp only [preN_2]
    split
    · exact preN_le a b f (i + 1) (by (first | lia | omega))
    · exact h
theorem sufN_le (a b : List Nat) : ∀ f i, i ≤ a.length → i ≤ b.length → sufN a b f i ≤ a.length ∧ sufN a b f i ≤ b.length
  | 0, i, h, h' => ⟨h, h'⟩
  | f + 1, i, h, h' => by
    simp only [sufN_2]
    split
    · exact sufN_le a b f (i + 1) (by (first | lia | omega)) (by (first | lia | omega))
    · exact ⟨h, h'⟩

noncomputable abbrev levNs : List Str := [Str.ofString "a", Str.ofString "b", Str.ofString "max_cost", Str.ofString "pre", Str.ofString "post", Str.ofString "row", Str.ofString "result", Str.ofString "bindex", Str.ofString "bchar", Str.ofString "distance", Str.ofString "minimum", Str.ofString "index", Str.ofString "substitute", Str.ofString "insert_delete"]
noncomputable abbrev levGs : List Str := [Str.ofString "_MOVE_COST", Str.ofString "len", Str.ofString "_MAX_STRING_SIZE", Str.ofString "list", Str.ofString "range", Str.ofString "_substitution_cost", Str.ofString "min"]

theorem rowStep_len (c : Nat) : ∀ (as : List Nat) (ds : List Int) (d r m : Int), as.length = ds.length → (rowStep c as ds d r m).1.length = as.length
  | [], [], d, r, m, _ => rfl
  | x :: as, y :: ds, d, r, m, h => by
    simp only [rowStep_1, rowStep_2, List.length_cons]
    rw [rowStep_len c as ds _ _ _ (by simpa using h)]
  | [], _ :: _, _, _, _, h => by simp at h
  | _ :: _, [], _, _, _, h => by simp at h
inductive LevI (p q : List Nat) (mc i0 j0 : Int) (σ : Store) (r : Addr) (n : Nat) (it : It) (ρ : List (Option PV)) (τ : Store) : Prop
  | mk (bs : _) (i : _) (row : _) (res : _) (o1 : _) (o2 : _) (o3 : _) (o4 : _) (o5 : _) (o6 : _) (o7 : _) (_ : q.drop i = bs) (_ : n = bs.length) (_ : it = .seq ((rngInts ((i : Nat) : Int) 1 n).map .int)) (_ : ρ = [some (.str (S p)), some (.str (S q)), some (.int mc), some (.int i0), some (.int j0), some (.lst r), some (.int res), o1, o2, o3, o4, o5, o6, o7]) (_ : τ = Store.set σ r (row.map .int)) (_ : row.length = p.length) (_ : rowsStep p mc bs i row res = rowsStep p mc q 0 (row0 p.length) 0) : LevI p q mc i0 j0 σ r n it ρ τ
inductive LevR (p q : List Nat) (mc i0 j0 : Int) (σ : Store) (r : Addr) (i c : Nat) (z : List Int × Int × Int) (ρ' : List (Option PV)) (τ' : Store) : Prop
  | mk (_ : τ' = Store.set σ r (z.1.map .int)) (o4 : _) (o5 : _) (o6 : _) (o7 : _) (_ : ρ' = [some (.str (S p)), some (.str (S q)), some (.int mc), some (.int i0), some (.int j0), some (.lst r), some (.int z.2.1), some (.int ((i : Nat) : Int)), some (.str (S [c])), o4, some (.int z.2.2), o5, o6, o7]) : LevR p q mc i0 j0 σ r i c z ρ' τ'
inductive LevJ (p q : List Nat) (mc i0 j0 : Int) (σ : Store) (r : Addr) (i c : Nat) (z : List Int × Int × Int) (n : Nat) (it : It) (ρ : List (Option PV)) (τ : Store) : Prop
  | mk (as : _) (ds : _) (dn : _) (dist : _) (res : _) (mn : _) (o5 : _) (o6 : _) (o7 : _) (_ : p.drop (dn : List Int).length = as) (_ : n = as.length) (_ : as.length = ds.length) (_ : it = .seq ((rngInts ((dn.length : Nat) : Int) 1 n).map .int)) (_ : ρ = [some (.str (S p)), some (.str (S q)), some (.int mc), some (.int i0), some (.int j0), some (.lst r), some (.int res), some (.int ((i : Nat) : Int)), some (.str (S [c])), some (.int dist), some (.int mn), o5, o6, o7]) (_ : τ = Store.set σ r ((dn ++ ds).map .int)) (_ : (dn ++ (rowStep c as ds dist res mn).1, (rowStep c as ds dist res mn).2) = z) : LevJ p q mc i0 j0 σ r i c z n it ρ τ
theorem drop_at {q : List Nat} {i c : Nat} {bs : List Nat} (hd : q.drop i = c :: bs) : i < q.length ∧ q.getD i 0 = c ∧ c ∈ q ∧ q.drop (i + 1) = bs := by
  have hi : i < q.length := by
    rcases Nat.lt_or_ge i q.length with h | h
    · exact h
    · rw [List.drop_eq_nil_of_le h] at hd; cases hd
  rw [List.drop_eq_getElem_cons hi] at hd
  injection hd with h1 h2
  exact ⟨hi, by rw [List.getD, List.getElem?_eq_getElem hi]; exact h1, h1 ▸ List.getElem_mem hi, h2⟩
theorem W_levMain (hX : LawX X) {p q : List Nat} {mc i0 j0 : Int} (hp : ∀ c ∈ p, c ∈ letters) (hq : ∀ c ∈ q, c ∈ letters) (hlp : p.length ≤ 40) (hlq : q.length ≤ 40) : ∀ L, EX X (k + 9) levNs (callEnvC (fd__levenshtein_distance X.w.params) L 85) ((bodyOf (fd__levenshtein_distance X.w.params)).drop 12)
    [some (.str (S p)), some (.str (S q)), some (.int mc), some (.int i0), some (.int j0), none, none, none, none, none, none, none, none, none] σ
   (QE (.int (levMain p q mc)) σ) := by
  intro L
  have hS := EnvS.of (ns := levNs) (gs := levGs) (fd := fd__levenshtein_distance X.w.params) rfl rfl rfl rfl (by kernel_rfl) L 85
  have hD : NoDbg (levNs) (levGs) := NoDbg.of (by kernel_rfl)
  simp only [levNs, levGs] at hS hD ⊢
  refine EX.cons ?_
  k_extra "m_go"
  refine CB.lenS (by rw [S_len]; (first | lia | omega)) ?_
  k_extra "m_go"
  refine CB.lenS (by rw [S_len]; (first | lia | omega)) ?_
  k_extra "m_go"
  refine BIN.mul (IntMulOk.of_right (by decide)) ?_
  k_extra "m_go"
  rw [S_len, S_len]
  by_cases hbig : mc < ((q.length : Int) - p.length) * 2
  · refine iteT (by simpa using hbig) ?_
    k_extra "m_go"
    exact ⟨by simp [retOf, levMain, hbig], Ext.refl⟩
  refine iteF (by simpa using hbig) ?_
  have hR : levMain p q mc = rowsStep p mc q 0 (row0 p.length) 0 := if_neg hbig
  rw [hR]
  k_extra "m_go"
  refine CB.lenS (by rw [S_len]; (first | lia | omega)) ?_
  k_extra "m_go"
  rw [S_len]
  refine BIN.mul (IntMulOk.of_left (by decide)) ?_
  k_extra "m_go"
  refine CB.range3 (by decide) (PyProof.noPylong_small (by decide)) ?_
  k_extra "m_go"
  refine CB.listRange (n := p.length) (range2_ok p.length (by (first | lia | omega))).1 (range2_ok p.length (by (first | lia | omega))).2 (by (first | lia | omega)) fun r hr => ?_
  k_extra "m_go"
  refine EVI.of ?_
  k_extra "m_go"
  refine CB.lenS (by rw [S_len]; (first | lia | omega)) ?_
  k_extra "m_go"
  rw [S_len]
  refine ITER.rng (n := q.length) (range_ok q.length (by (first | lia | omega))).1 (range_ok q.length (by (first | lia | omega))).2 ?_
  refine FL.loop (by (first | lia | omega)) (LevI p q mc i0 j0 σ r) ?_ ?_ q.length _ _ _ ⟨q, 0, row0 p.length, 0, none, none, none, none, none, none, none, rfl, rfl, rfl, rfl, by simp [row0, Function.comp_def], by simp [row0], rfl⟩
  · rintro it ρ τ ⟨bs, i, row, res, o1, o2, o3, o4, o5, o6, o7, hd, hn, rfl, rfl, rfl, hrow, hst⟩
    have : bs = [] := List.length_eq_zero_iff.mp hn.symm
    subst this
    refine ⟨.seqE, ?_⟩
    k_extra "m_go"
    exact ⟨by rw [← hst]; rfl, Ext.new hr⟩
  · rintro n it ρ τ ⟨bs, i, row, res, o1, o2, o3, o4, o5, o6, o7, hd, hn, rfl, rfl, rfl, hrow, hst⟩
    cases bs with
    | nil => simp at hn
    | cons c bs =>
    have hn' : n = bs.length := by simpa using hn
    have hiq := (drop_at hd).1
    have hc := (drop_at hd).2.1
    have hcl : c ∈ letters := hq c (drop_at hd).2.2.1
    have hd' := (drop_at hd).2.2.2
    refine ⟨.int ((i : Nat) : Int), .seq ((rngInts ((i : Nat) + 1 : Int) 1 n).map .int), .seq, .inl (by simp), ?_⟩
    k_extra "m_go"
    refine ⟨⟨_, .str⟩, GETI.str (by (first | lia | omega)) (pos_idx hiq) ?_⟩
    rw [hc]
    k_extra "m_go"
    refine BIN.mul (IntMulOk.of_right (by decide)) ?_
    k_extra "m_go"
    refine EVI.of ?_
    k_extra "m_go"
    refine CB.lenS (by rw [S_len]; (first | lia | omega)) ?_
    k_extra "m_go"
    rw [S_len]
    refine ITER.rng (n := p.length) (range_ok p.length (by (first | lia | omega))).1 (range_ok p.length (by (first | lia | omega))).2 ?_
    simp only [rowsStep_1, rowsStep_2] at hst
    generalize hz : rowStep c p row ((i : Int) * 2) ((i : Int) * 2) 9223372036854775807 = z at hst
    refine FL.join (LevR p q mc i0 j0 σ r i c z) ?_ ?_
    · refine FL.loop (by (first | lia | omega)) (LevJ p q mc i0 j0 σ r i c z) ?_ ?_ p.length _ _ _ ⟨p, row, [], _, _, _, _, _, _, rfl, rfl, hrow.symm, rfl, rfl, rfl, hz⟩
      · rintro it ρ τ ⟨as, ds, dn, dist, res, mn, o5, o6, o7, hd, hn, hl, rfl, rfl, rfl, hst'⟩
        have : as = [] := List.length_eq_zero_iff.mp hn.symm
        subst this
        have : ds = [] := List.length_eq_zero_iff.mp (by simpa using hl.symm)
        subst this
        refine ⟨.seqE, rfl, ?_⟩
        subst hst'
        exact ⟨by simp [rowStep_1, rowStep_2], _, _, _, _, rfl⟩
      · rintro n it ρ τ ⟨as, ds, dn, dist, res, mn, o5, o6, o7, hd, hn, hl, rfl, rfl, rfl, hst'⟩
        cases as with
        | nil => simp at hn
        | cons x as =>
        cases ds with
        | nil => simp at hl
        | cons d ds =>
        have hn' : n = as.length := by simpa using hn
        have hl' : as.length = ds.length := by simpa using hl
        have hip := (drop_at hd).1
        have hx := (drop_at hd).2.1
        have hxl : x ∈ letters := hp x (drop_at hd).2.2.1
        have hd' := (drop_at hd).2.2.2
        have hrow : ((dn ++ d :: ds).map PV.int)[((dn.length : Nat) : Int).toNat]? = some (.int d) := by
          rw [Int.toNat_natCast]; simp
        refine ⟨.int ((dn.length : Nat) : Int), .seq ((rngInts ((dn.length : Nat) + 1 : Int) 1 n).map .int), .seq, .inl (by simp), ?_⟩
        k_extra "m_go"
        refine EV.callF hS (by k_extra "m_mem") (G__substitution_cost hX) (F__substitution_cost hX) ?_ rfl (by k_extra "m_dbg")
        k_extra "m_go"
        refine ⟨⟨_, .str⟩, GETI.str (by (first | lia | omega)) (pos_idx hip) ?_⟩
        rw [hx]
        k_extra "m_go"
        refine CALL.mono (C_cost hX hcl hxl) ?_
        rintro p₁ τ₁ ⟨rfl, rfl⟩
        k_extra "m_go"
        refine ⟨⟨_, .lst Store.set_same⟩, GETI.lst Store.set_same (Int.natCast_nonneg _) (by (first | lia | omega)) hrow ?_⟩
        k_extra "m_go"
        refine SETI.lst Store.set_same (Int.natCast_nonneg _) (by (first | lia | omega)) (by simp; (first | lia | omega)) ?_
        k_extra "m_go"
        generalize hv : (if dist + costT c x < (if d < res then d else res) + 2 then dist + costT c x else (if d < res then d else res) + 2) = v
        have hset : ((dn ++ d :: ds).map PV.int).set ((dn.length : Nat) : Int).toNat (.int v) = ((dn ++ [v]) ++ ds).map PV.int := by
          rw [Int.toNat_natCast]; simp [List.set_append]
        have hit : It.seq ((rngInts ((dn.length : Nat) + 1 : Int) 1 n).map .int) = .seq ((rngInts (((dn ++ [v]).length : Nat) : Int) 1 n).map .int) := by simp
        have hfin : ((dn ++ [v]) ++ (rowStep c as ds d v (if v < mn then v else mn)).1, (rowStep c as ds d v (if v < mn then v else mn)).2) = z := by
          rw [← hst']; simp only [rowStep_1, rowStep_2, hv]; simp
        by_cases hm : v < mn
        · rw [if_pos hm] at hfin
          refine iteT (by simpa using hm) ?_
          k_extra "m_go"
          exact ⟨as, ds, dn ++ [v], d, v, v, _, _, _, by simpa using hd', hn', hl', hit, rfl, by rw [set_set, hset], hfin⟩
        · rw [if_neg hm] at hfin
          refine iteF (by simpa using hm) ?_
          k_extra "m_go"
          exact ⟨as, ds, dn ++ [v], d, v, mn, _, _, _, by simpa using hd', hn', hl', hit, rfl, by rw [set_set, hset], hfin⟩
    · rintro ρ' τ' ⟨rfl, o4, o5, o6, o7, rfl⟩
      k_extra "m_go"
      by_cases hmx : mc < z.2.2
      · rw [if_pos hmx] at hst
        refine iteT (by simpa using hmx) ?_
        k_extra "m_go"
        exact ⟨by rw [← hst]; rfl, Ext.new hr⟩
      · rw [if_neg hmx] at hst
        refine iteF (by simpa using hmx) ?_
        k_extra "m_go"
        exact ⟨bs, i + 1, z.1, z.2.1, _, _, _, _, _, _, _, hd', hn', by push_cast; rfl, rfl, rfl, by rw [← hz, rowStep_len _ _ _ _ _ _ hrow.symm], hst⟩
end


open PySem PySem.W PyProof.Rows PySem.Spec PySem.Calls
set_option maxRecDepth 100000
set_option maxHeartbeats 8000000

section
variable {X : Cx} {k : Nat} {σ : Store}
inductive LevA (σ : Store) (a b : List Nat) (mc : Int) (ρ' : List (Option PV)) (τ : Store) : Prop
  | mk (_ : τ = σ) (_ : ρ' = [some (.str (S a)), some (.str (S b)), some (.int mc), some (.int ((preN a b a.length 0 : Nat) : Int)), none, none, none, none, none, none, none, none, none, none]) : LevA σ a b mc ρ' τ
inductive LevB (σ : Store) (a b : List Nat) (mc : Int) (n : Nat) (ρ : List (Option PV)) (τ : Store) : Prop
  | mk (_ : τ = σ) (i : _) (_ : ρ = [some (.str (S a)), some (.str (S b)), some (.int mc), some (.int ((i : Nat) : Int)), none, none, none, none, none, none, none, none, none, none]) (_ : preN a b n i = preN a b a.length 0) (_ : i ≤ a.length) (_ : a.length ≤ n + i) : LevB σ a b mc n ρ τ
inductive LevC (τ : Store) (x y : List Nat) (mc : Int) (i : Nat) (ρ' : List (Option PV)) (τ' : Store) : Prop
  | mk (_ : τ' = τ) (_ : ρ' = [some (.str (S x)), some (.str (S y)), some (.int mc), some (.int ((i : Nat) : Int)), some (.int (-((sufN x y x.length 0 : Nat) : Int))), none, none, none, none, none, none, none, none, none]) : LevC τ x y mc i ρ' τ'
inductive LevD (τ : Store) (x y : List Nat) (mc : Int) (i : Nat) (n : Nat) (ρ : List (Option PV)) (τ' : Store) : Prop
  | mk (_ : τ' = τ) (j : _) (_ : ρ = [some (.str (S x)), some (.str (S y)), some (.int mc), some (.int ((i : Nat) : Int)), some (.int (-((j : Nat) : Int))), none, none, none, none, none, none, none, none, none]) (_ : sufN x y n j = sufN x y x.length 0) (_ : j ≤ x.length) (_ : j ≤ y.length) (_ : x.length ≤ n + j) : LevD τ x y mc i n ρ τ'
theorem W_lev (hX : LawX X) {a b : List Nat} {mc : Int} (ha : ∀ c ∈ a, c ∈ letters) (hb : ∀ c ∈ b, c ∈ letters) (hla : a.length ≤ 40) (hlb : b.length ≤ 40) : ∀ L, EX X (k + 9) ([Str.ofString "a", Str.ofString "b", Str.ofString "max_cost"] ++ levNs.drop 3) (callEnvC (fd__levenshtein_distance X.w.params) L 85) (bodyOf (fd__levenshtein_distance X.w.params)) ([PV.str (S a), PV.str (S b), .int mc].map some ++ List.replicate 11 none) σ
   (QE (.int (levF a b mc)) σ) := by
  intro L
  have hS := EnvS.of (ns := levNs) (gs := levGs) (fd := fd__levenshtein_distance X.w.params) rfl rfl rfl rfl (by kernel_rfl) L 85
  have hD : NoDbg (levNs) (levGs) := NoDbg.of (by kernel_rfl)
  simp only [levNs, levGs, List.drop, List.cons_append, List.nil_append, List.map_cons, List.map_nil, List.replicate] at hS hD ⊢
  refine EX.cons ?_
  k_extra "m_go"
  rw [S_beq]
  by_cases hab : a = b
  · refine iteT (by simpa using hab) ?_
    k_extra "m_go"
    exact ⟨by simp [retOf, levF, hab], Ext.refl⟩
  refine iteF (by simpa using hab) ?_
  k_extra "m_go"
  -- the common beginning
  refine WH.join (LevA σ a b mc) ?_ ?_
  · refine WH.loop (LevB σ a b mc) ?_ a.length _ _ ⟨rfl, 0, rfl, rfl, Nat.zero_le _, Nat.le_refl _⟩
    rintro n ρ τ ⟨rfl, i, rfl, hp, hi, hn⟩
    have stop : ¬ (i < a.length ∧ i < b.length ∧ a.getD i 0 = b.getD i 0) → i = preN a b a.length 0 := fun hc => by
      rw [← hp]
      cases n with
      | zero => rfl
      | succ m => simp only [preN_1, preN_2]; rw [if_neg hc]
    k_extra "m_go"
    refine EV.from (i := i) hS (by k_extra "m_go"; exact ⟨rfl, rfl⟩) (by k_extra "m_look") (by simp [sizeLine]; (first | lia | omega)) (by k_extra "m_dbg") (by k_extra "m_dbg") (by intro _ _; rfl) ?_
    refine TRU.str (by rw [S_len]; simp; (first | lia | omega)) ?_
    rw [S_len, List.length_drop]
    by_cases h1 : i < a.length
    · refine iteT (by simp; (first | lia | omega)) ?_
      k_extra "m_go"
      refine EV.from (i := i) hS (by k_extra "m_go"; exact ⟨rfl, rfl⟩) (by k_extra "m_look") (by simp [sizeLine]; (first | lia | omega)) (by k_extra "m_dbg") (by k_extra "m_dbg") (by intro _ _; rfl) ?_
      refine TRU.str (by rw [S_len]; simp; (first | lia | omega)) ?_
      rw [S_len, List.length_drop]
      by_cases h2 : i < b.length
      · refine iteT (by simp; (first | lia | omega)) ?_
        k_extra "m_go"
        refine ⟨⟨_, .str⟩, GETI.str (by (first | lia | omega)) (pos_idx h1) ?_⟩
        k_extra "m_go"
        refine ⟨⟨_, .str⟩, GETI.str (by (first | lia | omega)) (pos_idx h2) ?_⟩
        k_extra "m_go"
        rw [S_beq]
        by_cases h3 : a.getD i 0 = b.getD i 0
        · refine iteT (by simpa using h3) ?_
          k_extra "m_go"
          refine iteT rfl ?_
          k_extra "m_go"
          obtain ⟨m, rfl⟩ : ∃ m, n = m + 1 := ⟨n - 1, by (first | lia | omega)⟩
          simp only [preN_1, preN_2] at hp
          rw [if_pos ⟨h1, h2, h3⟩] at hp
          exact ⟨m, by (first | lia | omega), rfl, i + 1, by push_cast; rfl, hp, by (first | lia | omega), by (first | lia | omega)⟩
        · refine iteF (by simpa using h3) ?_
          refine iteF rfl ?_
          exact ⟨rfl, rfl, by rw [← stop (fun q => h3 q.2.2)]⟩
      · refine iteF (by simp; (first | lia | omega)) ?_
        refine iteF rfl ?_
        exact ⟨rfl, rfl, by rw [← stop (fun q => h2 q.2.1)]⟩
    · refine iteF (by simp; (first | lia | omega)) ?_
      refine iteF rfl ?_
      exact ⟨rfl, rfl, by rw [← stop (fun q => h1 q.1)]⟩
  rintro ρ' τ ⟨rfl, rfl⟩
  generalize hi : preN a b a.length 0 = i
  have hia : i ≤ a.length := hi ▸ preN_le a b a.length 0 (Nat.zero_le _)
  k_extra "m_go"
  refine EV.from (i := i) hS (by k_extra "m_go"; exact ⟨rfl, rfl⟩) (by k_extra "m_look") (by simp [sizeLine]; (first | lia | omega)) (by k_extra "m_dbg") (by k_extra "m_dbg") (by intro _ _; rfl) ?_
  k_extra "m_go"
  refine EV.from (i := i) hS (by k_extra "m_go"; exact ⟨rfl, rfl⟩) (by k_extra "m_look") (by simp [sizeLine]; (first | lia | omega)) (by k_extra "m_dbg") (by k_extra "m_dbg") (by intro _ _; rfl) ?_
  k_extra "m_go"
  have hlev : levF a b mc = levT ((a.drop i).take ((a.drop i).length - sufN (a.drop i) (b.drop i) (a.drop i).length 0)) ((b.drop i).take ((b.drop i).length - sufN (a.drop i) (b.drop i) (a.drop i).length 0)) mc := by
    rw [← hi]; exact if_neg hab
  rw [hlev]
  have ha1 : ∀ c ∈ a.drop i, c ∈ letters := fun c h => ha c (List.mem_of_mem_drop h)
  have hb1 : ∀ c ∈ b.drop i, c ∈ letters := fun c h => hb c (List.mem_of_mem_drop h)
  have hla1 : (a.drop i).length ≤ 40 := by simp; (first | lia | omega)
  have hlb1 : (b.drop i).length ≤ 40 := by simp; (first | lia | omega)
  generalize a.drop i = x at ha1 hla1 ⊢
  generalize b.drop i = y at hb1 hlb1 ⊢
  -- the common end
  refine WH.join (LevC τ x y mc i) ?_ ?_
  · refine WH.loop (LevD τ x y mc i) ?_ x.length _ _ ⟨rfl, 0, rfl, rfl, Nat.zero_le _, Nat.zero_le _, Nat.le_refl _⟩
    rintro n ρ τ' ⟨rfl, j, rfl, hp, hj, hj', hn⟩
    have stop : ¬ (j < x.length ∧ j < y.length ∧ x.getD (x.length - 1 - j) 0 = y.getD (y.length - 1 - j) 0) → j = sufN x y x.length 0 := fun hc => by
      rw [← hp]
      cases n with
      | zero => rfl
      | succ m => simp only [sufN_1, sufN_2]; rw [if_neg hc]
    k_extra "m_go"
    refine EV.upto (j := j) hS (by k_extra "m_go"; exact ⟨rfl, rfl⟩) (by k_extra "m_look") (by simp [sizeLine]; (first | lia | omega)) hj (by k_extra "m_dbg") (by k_extra "m_dbg") (by intro _ _; rfl) ?_
    refine TRU.str (by rw [S_len]; simp; (first | lia | omega)) ?_
    rw [S_len, List.length_take]
    by_cases h1 : j < x.length
    · refine iteT (by simp; (first | lia | omega)) ?_
      k_extra "m_go"
      refine EV.upto (j := j) hS (by k_extra "m_go"; exact ⟨rfl, rfl⟩) (by k_extra "m_look") (by simp [sizeLine]; (first | lia | omega)) hj' (by k_extra "m_dbg") (by k_extra "m_dbg") (by intro _ _; rfl) ?_
      refine TRU.str (by rw [S_len]; simp; (first | lia | omega)) ?_
      rw [S_len, List.length_take]
      by_cases h2 : j < y.length
      · refine iteT (by simp; (first | lia | omega)) ?_
        k_extra "m_go"
        refine ⟨⟨_, .str⟩, GETI.str (by (first | lia | omega)) (neg_idx h1) ?_⟩
        k_extra "m_go"
        refine ⟨⟨_, .str⟩, GETI.str (by (first | lia | omega)) (neg_idx h2) ?_⟩
        k_extra "m_go"
        rw [S_beq]
        by_cases h3 : x.getD (x.length - 1 - j) 0 = y.getD (y.length - 1 - j) 0
        · refine iteT (by simpa using h3) ?_
          k_extra "m_go"
          refine iteT rfl ?_
          k_extra "m_go"
          obtain ⟨m, rfl⟩ : ∃ m, n = m + 1 := ⟨n - 1, by (first | lia | omega)⟩
          simp only [sufN_1, sufN_2] at hp
          rw [if_pos ⟨h1, h2, h3⟩] at hp
          exact ⟨m, by (first | lia | omega), rfl, j + 1, by rw [show -((j + 1 : Nat) : Int) = -(j : Int) - 1 by (first | lia | omega)], hp, by (first | lia | omega), by (first | lia | omega), by (first | lia | omega)⟩
        · refine iteF (by simpa using h3) ?_
          refine iteF rfl ?_
          exact ⟨rfl, rfl, by rw [← stop (fun q => h3 q.2.2)]⟩
      · refine iteF (by simp; (first | lia | omega)) ?_
        refine iteF rfl ?_
        exact ⟨rfl, rfl, by rw [← stop (fun q => h2 q.2.1)]⟩
    · refine iteF (by simp; (first | lia | omega)) ?_
      refine iteF rfl ?_
      exact ⟨rfl, rfl, by rw [← stop (fun q => h1 q.1)]⟩
  rintro ρ' τ' ⟨rfl, rfl⟩
  generalize hj : sufN x y x.length 0 = j
  have hjx : j ≤ x.length ∧ j ≤ y.length := hj ▸ sufN_le x y x.length 0 (Nat.zero_le _) (Nat.zero_le _)
  k_extra "m_go"
  refine EV.upto (j := j) hS (by k_extra "m_go"; exact ⟨rfl, rfl⟩) (by k_extra "m_look") (by simp [sizeLine]; (first | lia | omega)) hjx.1 (by k_extra "m_dbg") (by k_extra "m_dbg") (by intro _ _; rfl) ?_
  k_extra "m_go"
  refine EV.upto (j := j) hS (by k_extra "m_go"; exact ⟨rfl, rfl⟩) (by k_extra "m_look") (by simp [sizeLine]; (first | lia | omega)) hjx.2 (by k_extra "m_dbg") (by k_extra "m_dbg") (by intro _ _; rfl) ?_
  k_extra "m_go"
  have ha2 : ∀ c ∈ x.take (x.length - j), c ∈ letters := fun c h => ha1 c (List.mem_of_mem_take h)
  have hb2 : ∀ c ∈ y.take (y.length - j), c ∈ letters := fun c h => hb1 c (List.mem_of_mem_take h)
  have hla2 : (x.take (x.length - j)).length ≤ 40 := by simp; (first | lia | omega)
  have hlb2 : (y.take (y.length - j)).length ≤ 40 := by simp; (first | lia | omega)
  generalize x.take (x.length - j) = p at ha2 hla2 ⊢
  generalize y.take (y.length - j) = q at hb2 hlb2 ⊢
  refine TRU.str (by rw [S_len]; (first | lia | omega)) ?_
  rw [S_len]
  by_cases hp0 : p = []
  · subst hp0
    refine iteT (by simp) ?_
    refine iteT rfl ?_
    k_extra "m_go"
    refine CB.lenS (by rw [S_len]; (first | lia | omega)) ?_
    k_extra "m_go"
    refine CB.lenS (by rw [S_len]; (first | lia | omega)) ?_
    k_extra "m_go"
    refine BIN.mul (IntMulOk.of_left (by decide)) ?_
    k_extra "m_go"
    exact ⟨by simp [retOf, levT, S_len], Ext.refl⟩
  have hp1 : 0 < p.length := List.length_pos_iff.mpr hp0
  refine iteF (by simp; (first | lia | omega)) ?_
  k_extra "m_go"
  refine TRU.str (by rw [S_len]; (first | lia | omega)) ?_
  rw [S_len]
  by_cases hq0 : q = []
  · subst hq0
    refine iteT (by simp) ?_
    refine iteT rfl ?_
    k_extra "m_go"
    refine CB.lenS (by rw [S_len]; (first | lia | omega)) ?_
    k_extra "m_go"
    refine CB.lenS (by rw [S_len]; (first | lia | omega)) ?_
    k_extra "m_go"
    refine BIN.mul (IntMulOk.of_left (by decide)) ?_
    k_extra "m_go"
    exact ⟨by simp [retOf, levT, S_len], Ext.refl⟩
  have hq1 : 0 < q.length := List.length_pos_iff.mpr hq0
  refine iteF (by simp; (first | lia | omega)) ?_
  k_extra "m_go"
  refine iteF rfl ?_
  k_extra "m_go"
  refine CB.lenS (by rw [S_len]; (first | lia | omega)) ?_
  k_extra "m_go"
  refine iteF (by rw [S_len]; simp; (first | lia | omega)) ?_
  k_extra "m_go"
  refine CB.lenS (by rw [S_len]; (first | lia | omega)) ?_
  k_extra "m_go"
  refine iteF (by rw [S_len]; simp; (first | lia | omega)) ?_
  k_extra "m_go"
  refine iteF rfl ?_
  refine EX.nil ?_
  refine EX.cons ?_
  k_extra "m_gs"
  refine CB.lenS (by rw [S_len]; (first | lia | omega)) ?_
  k_extra "m_gs"
  refine CB.lenS (by rw [S_len]; (first | lia | omega)) ?_
  k_extra "m_gs"
  rw [S_len, S_len]
  have hT : levT p q mc = if q.length < p.length then levMain q p mc else levMain p q mc := if_neg (by simp [hp0, hq0])
  rw [hT]
  by_cases hlt : q.length < p.length
  · rw [if_pos hlt]
    refine iteT (by simpa using hlt) ?_
    refine EX.cons ?_
    k_extra "m_gs"
    refine ⟨by simp [sizeLine], ?_⟩
    k_extra "m_gs"
    refine ⟨_, _, rfl, ?_⟩
    k_extra "m_gs"
    exact W_levMain hX hb2 ha2 hlb2 hla2 L
  · rw [if_neg hlt]
    refine iteF (by simpa using hlt) ?_
    refine EX.nil ?_
    exact W_levMain hX ha2 hb2 hla2 hlb2 L
theorem C_lev (hX : LawX X) {a b : List Nat} {mc : Int} (ha : ∀ c ∈ a, c ∈ letters) (hb : ∀ c ∈ b, c ∈ letters) (hla : a.length ≤ 40) (hlb : b.length ≤ 40) : CALL X (k + 10) (.ref 85) [.str (S a), .str (S b), .int mc] [] σ fun p σ' => p = .int (levF a b mc) ∧ Ext σ σ' :=
  CALL.def (bn := [Str.ofString "a", Str.ofString "b", Str.ofString "max_cost"]) (rest := levNs.drop 3) (gs := levGs) (F__levenshtein_distance hX) rfl
    (BINDS.pos3 fun u v w => by kernel_rfl) rfl (EnvS.of rfl rfl rfl rfl (by kernel_rfl) · 85) (okNames.kinds (gs := []) (by kernel_rfl)) (W_lev hX ha hb hla hlb)
end


open PySem PySem.W PyProof.Rows PySem.Spec PySem.Calls
set_option maxRecDepth 100000
set_option maxHeartbeats 8000000

section
variable {X : Cx} {k : Nat} {σ : Store}
noncomputable def shPV (q : Int × List Nat) : PV := .tup [.int q.1, .str (S q.2)]
noncomputable def KeyOk (X : Cx) (fd : FuncData) : Prop := ∀ (k : Nat) (σ : Store) (h : Int) (x : PV) (Q : PV → Store → Prop), Q (.int h) σ → CALLP X (k + 1) (.fn fd) [.tup [.int h, x]] σ Q
theorem sh_at {xs : List (Int × List Nat)} {i : Nat} (h : i < xs.length) : (xs.map shPV)[i]? = some (.tup [.int ((xs.map (·.1)).getD i 0), .str (S (xs[i]).2)]) := by
  rw [List.getElem?_map, List.getElem?_eq_getElem h]; simp [List.getD, h, shPV]

inductive BisK (σ : Store) (a : Addr) (xs : List (Int × List Nat)) (x : Int) (fd : FuncData) (ys : List Int) (n : Nat) (ρ : List (Option PV)) (τ : Store) : Prop
  | mk (_ : τ = σ) (lo : _) (hi : _) (o : _) (_ : ρ = [some (.lst a), some (.int x), some (.int ((lo : Nat) : Int)), some (.int ((hi : Nat) : Int)), some (.fn fd), o]) (_ : lo ≤ hi) (_ : hi ≤ xs.length) (_ : bisL ys x n lo hi = blI ys x) (_ : hi - lo ≤ n) : BisK σ a xs x fd ys n ρ τ
theorem W_bisect_leftK (hX : LawX X) {fd : FuncData} (hK : KeyOk X fd) {a : Addr} {xs : List (Int × List Nat)} {x : Int} (ha : σ a = some (xs.map shPV)) (hsz : xs.length ≤ 1000) : ∀ L, EX X (k + 1) (bn5 ++ [Str.ofString "mid"]) (callEnvC (fd_bisect_left X.w.params) L 50) (bodyOf (fd_bisect_left X.w.params)) ([.lst a, .int x, .int 0, .none, .fn fd].map some ++ List.replicate 1 none) σ
   (QS (.int (blI (xs.map (·.1)) x)) (σ)) := by
  intro L
  have hS := EnvS.of (ns := bn5 ++ [Str.ofString "mid"]) (gs := [Str.ofString "len"]) (fd := fd_bisect_left X.w.params) rfl rfl rfl rfl (by kernel_rfl) L 50
  have hD : NoDbg (bn5 ++ [Str.ofString "mid"]) ([Str.ofString "len"]) := NoDbg.of (by kernel_rfl)
  simp only [bn5, List.cons_append, List.nil_append, List.map_cons, List.map_nil, List.replicate] at hS hD ⊢
  generalize hys : xs.map (·.1) = ys
  have hyl : ys.length = xs.length := by rw [← hys]; simp
  refine EX.cons ?_
  k_extra "m_go"
  refine iteF (by decide) ?_
  k_extra "m_go"
  refine iteT rfl ?_
  k_extra "m_go"
  refine CB.lenL ha (by simp; (first | lia | omega)) ?_
  k_extra "m_go"
  refine iteF rfl ?_
  k_extra "m_go"
  refine WH.loop (BisK σ a xs x fd ys) ?_ xs.length _ _ ⟨rfl, 0, xs.length, none, by simp, Nat.zero_le _, Nat.le_refl _, by rw [blI, hyl], Nat.le_refl _⟩
  rintro n ρ τ ⟨rfl, lo, hi, o, rfl, h1, h2, h3, h4⟩
  k_extra "m_go"
  by_cases hlt : lo < hi
  · refine iteT (by simpa using hlt) ?_
    k_extra "m_go"
    refine BIN.fdiv (by decide) (PyProof.noPylong_small (by decide)) ?_
    rw [half_eq]
    k_extra "m_go"
    have hm : (lo + hi) / 2 < xs.length := Nat.le_trans (mid_lt2 hlt) h2
    refine EV.callP hS hD (by k_extra "m_look") ?_ rfl
    k_extra "m_go"
    refine ⟨⟨_, .lst ha⟩, GETI.lst ha (Int.natCast_nonneg _) (by (first | lia | omega)) (by rw [Int.toNat_natCast]; exact sh_at hm) ?_⟩
    k_extra "m_go"
    refine hK _ _ _ _ _ ?_
    k_extra "m_go"
    rw [hys]
    obtain ⟨m, rfl⟩ := succ_of (Nat.sub_pos_of_lt hlt) h4
    simp only [bisL_2] at h3
    rw [if_pos hlt] at h3
    by_cases hc : ys.getD ((lo + hi) / 2) 0 < x
    · rw [if_pos hc] at h3
      refine iteT (by simpa using hc) ?_
      k_extra "m_go"
      exact ⟨m, Nat.lt_succ_self _, rfl, (lo + hi) / 2 + 1, hi, _, rfl, mid_lt2 hlt, h2, h3, mid_up hlt h4⟩
    · rw [if_neg hc] at h3
      refine iteF (by simpa using hc) ?_
      k_extra "m_go"
      exact ⟨m, Nat.lt_succ_self _, rfl, lo, (lo + hi) / 2, _, rfl, mid_ge hlt, Nat.le_trans (Nat.le_of_lt (mid_lt2 hlt)) h2, h3, mid_dn hlt h4⟩
  · refine iteF (by simpa using hlt) ?_
    have : bisL ys x n lo hi = lo := by cases n <;> simp [bisL_1, bisL_2, hlt]
    rw [this] at h3
    subst h3
    k_extra "m_go"
    exact ⟨rfl, rfl⟩
theorem C_bisect_leftK (hX : LawX X) {fd : FuncData} (hK : KeyOk X fd) {a : Addr} {xs : List (Int × List Nat)} {x : Int} (ha : σ a = some (xs.map shPV)) (hsz : xs.length ≤ 1000) :
    CALL X (k + 2) (.ref 50) [.lst a, .int x, .int 0, .none] [(Str.ofString "key", .fn fd)] σ fun p σ' => p = .int (blI (xs.map (·.1)) x) ∧ σ' = σ :=
  CALL.def (rest := [Str.ofString "mid"]) (gs := [Str.ofString "len"]) (F_bisect_left hX) rfl (D_bisect_left hX).fourK rfl (EnvS.of rfl rfl rfl rfl (by kernel_rfl) · 50) (okNames.kinds (gs := []) (by kernel_rfl)) (W_bisect_leftK hX hK ha hsz)

noncomputable def insK {α : Type} (xs : List (Int × α)) (h : Int) (p : α) : List (Int × α) := xs.take (blI (xs.map (·.1)) h) ++ [(h, p)] ++ xs.drop (blI (xs.map (·.1)) h)
theorem insK_len {α : Type} (xs : List (Int × α)) (h : Int) (p : α) : (insK xs h p).length = xs.length + 1 := ins_len _ _ _
theorem W_insort_leftK (hX : LawX X) {fd : FuncData} (hK : KeyOk X fd) {a : Addr} {xs : List (Int × List Nat)} {h : Int} {p : List Nat} (ha : σ a = some (xs.map shPV)) (hsz : xs.length ≤ 1000) : ∀ L, EX X (k + 2) (bn5 ++ []) (callEnvC (fd_insort_left X.w.params) L 41) (bodyOf (fd_insort_left X.w.params)) ([.lst a, .tup [.int h, .str (S p)], .int 0, .none, .fn fd].map some ++ List.replicate 0 none) σ
   (QS (.none) (Store.set σ a ((insK xs h p).map shPV))) := by
  intro L
  have hS := EnvS.of (ns := bn5 ++ []) (gs := [Str.ofString "bisect_left"]) (fd := fd_insort_left X.w.params) rfl rfl rfl rfl (by kernel_rfl) L 41
  have hD : NoDbg (bn5 ++ []) ([Str.ofString "bisect_left"]) := NoDbg.of (by kernel_rfl)
  simp only [bn5, List.cons_append, List.nil_append, List.map_cons, List.map_nil, List.replicate, List.append_nil] at hS hD ⊢
  refine EX.cons ?_
  k_extra "m_go"
  refine iteF rfl ?_
  k_extra "m_go"
  refine EV.callFK hS (by k_extra "m_mem") (G_bisect_left hX) (F_bisect_left hX) ?_ rfl (by k_extra "m_dbg")
  k_extra "m_go"
  refine EV.callP hS hD (by k_extra "m_look") ?_ rfl
  k_extra "m_go"
  refine hK _ _ _ _ _ ?_
  k_extra "m_go"
  refine CALL.mono (C_bisect_leftK hX hK ha hsz) ?_
  rintro p' σ' ⟨rfl, rfl⟩
  k_extra "m_go"
  refine ⟨.lst ha, ?_⟩
  k_extra "m_go"
  have hle : blI (xs.map (·.1)) h ≤ (xs.map (·.1)).length := (bisL_le _ h _ 0 _ (Nat.zero_le _)).2
  rw [List.length_map] at hle
  refine CB.insert ha (Int.natCast_nonneg _) (by (first | lia | omega)) (by simp [sizeLine]; (first | lia | omega)) ?_
  k_extra "m_go"
  exact ⟨rfl, by rw [Int.toNat_natCast]; simp [insK, shPV, List.map_take, List.map_drop]⟩
theorem C_insort_leftK (hX : LawX X) {fd : FuncData} (hK : KeyOk X fd) {a : Addr} {xs : List (Int × List Nat)} {h : Int} {p : List Nat} (ha : σ a = some (xs.map shPV)) (hsz : xs.length ≤ 1000) :
    CALL X (k + 3) (.ref 41) [.lst a, .tup [.int h, .str (S p)]] [(Str.ofString "key", .fn fd)] σ fun q σ' => q = .none ∧ σ' = Store.set σ a ((insK xs h p).map shPV) :=
  CALL.def (rest := []) (gs := [Str.ofString "bisect_left"]) (F_insort_left hX) rfl (D_insort_left hX).twoK rfl (EnvS.of rfl rfl rfl rfl (by kernel_rfl) · 41) (okNames.kinds (gs := []) (by kernel_rfl)) (W_insort_leftK hX hK ha hsz)
end


open PySem PySem.W PyProof.Rows PySem.Spec PySem.Calls
set_option maxRecDepth 100000
set_option maxHeartbeats 8000000

section
variable {X : Cx} {k : Nat} {σ : Store}
noncomputable def upI (u : List Nat) : Int := if u = [40] then 1 else -1
noncomputable def hgtL : List (List Nat) → Int → List Int
  | [], _ => []
  | u :: us, h => if u = [41] then (h + upI u) :: hgtL us (h + upI u) else hgtL us (h + upI u)
theorem hgtL_1 : ∀ w1, hgtL [] w1 = ([]) := by intros; rfl
theorem hgtL_2 : ∀ u us h, hgtL (u :: us) h = (if u = [41] then (h + upI u) :: hgtL us (h + upI u) else hgtL us (h + upI u)) := by intros; rfl
noncomputable def heightsF (us : List (List Nat)) : List Int := hgtL us 0
inductive HgtI (σ : Store) (a r : Addr) (us : List (List Nat)) (n : Nat) (it : It) (ρ : List (Option PV)) (τ : Store) : Prop
  | mk (i : _) (acc : _) (h : _) (o : _) (_ : it = .lst a i) (_ : i + n = us.length) (_ : ρ = [some (.lst a), some (.int h), some (.lst r), o]) (_ : τ = Store.set σ r ((acc : List Int).map .int)) (_ : acc.length ≤ i) (_ : acc ++ hgtL (us.drop i) h = heightsF us) : HgtI σ a r us n it ρ τ
inductive HgtR (σ : Store) (a r : Addr) (acc : List Int) (h : Int) (u : List Nat) (ρ' : List (Option PV)) (τ' : Store) : Prop
  | mk (_ : τ' = Store.set σ r (acc.map .int)) (_ : ρ' = [some (.lst a), some (.int (h + upI u)), some (.lst r), some (.str (S u))]) : HgtR σ a r acc h u ρ' τ'
theorem W_heights (hX : LawX X) {a : Addr} {us : List (List Nat)} (ha : σ a = some (us.map strPV)) (hsz : us.length ≤ 100) : ∀ L, EX X (k + 9) ([Str.ofString "units"] ++ [Str.ofString "height", Str.ofString "heights", Str.ofString "unit"]) (callEnvC (fd__law_heights X.w.params) L 109) (bodyOf (fd__law_heights X.w.params)) ([.lst a].map some ++ List.replicate 3 none) σ
   (QN σ ((heightsF us).map .int)) := by
  intro L
  have hS := EnvS.of (ns := [Str.ofString "units", Str.ofString "height", Str.ofString "heights", Str.ofString "unit"]) (gs := []) (fd := fd__law_heights X.w.params) rfl rfl rfl rfl (by kernel_rfl) L 109
  have hD : NoDbg ([Str.ofString "units", Str.ofString "height", Str.ofString "heights", Str.ofString "unit"]) ([]) := NoDbg.of (by kernel_rfl)
  simp only [List.cons_append, List.nil_append, List.map_cons, List.map_nil, List.replicate] at hS hD ⊢
  have q1 : Str.ofString "(" = S [40] := by decide +kernel
  have q2 : Str.ofString ")" = S [41] := by decide +kernel
  refine EX.cons ?_
  k_extra "m_go"
  refine ⟨by simp [sizeLine], fun r hr => ?_⟩
  have har : a ≠ r := fun q => by rw [q, hr] at ha; cases ha
  k_extra "m_go"
  refine ⟨by simp [sizeLine], _, _, rfl, ?_⟩
  k_extra "m_go"
  refine EVI.of ?_
  k_extra "m_go"
  refine ITER.lst (by rw [Store.set_ne har]; exact ha) ?_
  refine FL.loop (by (first | lia | omega)) (HgtI σ a r us) ?_ ?_ us.length _ _ _ ⟨0, [], 0, none, rfl, by simp, rfl, rfl, by simp, rfl⟩
  · rintro it ρ τ ⟨i, acc, h, o, rfl, hn, rfl, rfl, hl, hf⟩
    refine ⟨Nxt.lstE' (by rw [Store.set_ne har]; exact ha) (by simp; (first | lia | omega)), ?_⟩
    k_extra "m_go"
    refine ⟨r, rfl, hr, ?_, Ext.new hr⟩
    rw [Store.set_same, ← hf, List.drop_eq_nil_of_le (by (first | lia | omega))]; simp [hgtL_1, hgtL_2]
  · rintro n it ρ τ ⟨i, acc, h, o, rfl, hn, rfl, rfl, hl, hf⟩
    have hi : i < us.length := by (first | lia | omega)
    rw [List.drop_eq_getElem_cons hi] at hf
    have hx : (us.map strPV)[i]? = some (.str (S us[i])) := by simp [hi, strPV]
    generalize us[i] = u at hf hx
    refine ⟨.str (S u), _, .lst (by rw [Store.set_ne har]; exact ha) hx, .inl (by simp), ?_⟩
    k_extra "m_gs"
    refine EX.cons ?_
    refine EX1.join (HgtR σ a r acc h u) ?_ ?_
    · k_extra "m_gs"
      rw [q1, S_beq]
      by_cases h1 : u = [40]
      · refine iteT (by simpa using h1) ?_
        k_extra "m_gs"
        exact ⟨rfl, rfl, by rw [upI, if_pos h1]⟩
      · refine iteF (by simpa using h1) ?_
        k_extra "m_gs"
        exact ⟨rfl, rfl, by rw [upI, if_neg h1]⟩
    · rintro ρ' τ' ⟨rfl, rfl⟩
      k_extra "m_go"
      rw [q2, S_beq]
      simp only [hgtL_1, hgtL_2] at hf
      by_cases h2 : u = [41]
      · rw [if_pos h2] at hf
        refine iteT (by simpa using h2) ?_
        k_extra "m_go"
        refine ⟨.lst Store.set_same, ?_⟩
        k_extra "m_go"
        refine CB.append Store.set_same (by simp [sizeLine]; (first | lia | omega)) ?_
        k_extra "m_go"
        exact ⟨i + 1, acc ++ [h + upI u], _, _, rfl, by (first | lia | omega), rfl, by rw [set_set]; simp, by simp; (first | lia | omega), by rw [← hf]; simp⟩
      · rw [if_neg h2] at hf
        refine iteF (by simpa using h2) ?_
        k_extra "m_go"
        exact ⟨i + 1, acc, _, _, rfl, by (first | lia | omega), rfl, rfl, by (first | lia | omega), hf⟩
theorem C_heights (hX : LawX X) {a : Addr} {us : List (List Nat)} (ha : σ a = some (us.map strPV)) (hsz : us.length ≤ 100) : CALL X (k + 10) (.ref 109) [.lst a] [] σ fun p σ' => New σ σ' p ((heightsF us).map .int) :=
  CALL.def (bn := [Str.ofString "units"]) (rest := [Str.ofString "height", Str.ofString "heights", Str.ofString "unit"]) (gs := []) (F__law_heights hX) rfl
    (BINDS.pos1 fun u => by kernel_rfl) rfl (EnvS.of rfl rfl rfl rfl (by kernel_rfl) · 109) (okNames.kinds (gs := []) (by kernel_rfl)) (W_heights hX ha hsz)

noncomputable def cntL : List Int → List Int → Int → Int → Int × Int × List Int
  | [], seen, like, higher => (like, higher, seen)
  | h :: hs, seen, like, higher => cntL hs (insI seen h (brI seen h)) (like + ((brI seen h : Int) - blI seen h)) (higher + ((blI seen h : Int) - blI seen (h - 1)))
inductive CntI (σ : Store) (a b : Addr) (hs seen : List Int) (n : Nat) (it : It) (ρ : List (Option PV)) (τ : Store) : Prop
  | mk (i : _) (sn : _) (like : _) (higher : _) (o1 : _) (o2 : _) (_ : it = .lst a i) (_ : i + n = hs.length) (_ : ρ = [some (.lst a), some (.lst b), some (.int like), some (.int higher), o1, o2]) (_ : τ = Store.set σ b ((sn : List Int).map .int)) (_ : sn.length ≤ 100 + i) (_ : cntL (hs.drop i) sn like higher = cntL hs seen 0 0) : CntI σ a b hs seen n it ρ τ
theorem W_counted (hX : LawX X) {a b : Addr} {hs seen : List Int} (ha : σ a = some (hs.map .int)) (hb : σ b = some (seen.map .int)) (hab : a ≠ b) (hsz : hs.length ≤ 100) (hsz2 : seen.length ≤ 100) : ∀ L, EX X (k + 9) ([Str.ofString "heights", Str.ofString "seen"] ++ [Str.ofString "like", Str.ofString "higher", Str.ofString "height", Str.ofString "begin"]) (callEnvC (fd__law_counted X.w.params) L 116) (bodyOf (fd__law_counted X.w.params)) ([.lst a, .lst b].map some ++ List.replicate 4 none) σ
   (QS (.tup [.int (cntL hs seen 0 0).1, .int (cntL hs seen 0 0).2.1]) (Store.set σ b ((cntL hs seen 0 0).2.2.map .int))) := by
  intro L
  have hS := EnvS.of (ns := [Str.ofString "heights", Str.ofString "seen", Str.ofString "like", Str.ofString "higher", Str.ofString "height", Str.ofString "begin"]) (gs := [Str.ofString "bisect_left", Str.ofString "bisect_right", Str.ofString "insort_right"]) (fd := fd__law_counted X.w.params) rfl rfl rfl rfl (by kernel_rfl) L 116
  have hD : NoDbg ([Str.ofString "heights", Str.ofString "seen", Str.ofString "like", Str.ofString "higher", Str.ofString "height", Str.ofString "begin"]) ([Str.ofString "bisect_left", Str.ofString "bisect_right", Str.ofString "insort_right"]) := NoDbg.of (by kernel_rfl)
  simp only [List.cons_append, List.nil_append, List.map_cons, List.map_nil, List.replicate] at hS hD ⊢
  refine EX.cons ?_
  k_extra "m_go"
  refine ⟨by simp [sizeLine], ?_⟩
  k_extra "m_go"
  refine EVI.of ?_
  k_extra "m_go"
  refine ITER.lst ha ?_
  refine FL.loop (by (first | lia | omega)) (CntI σ a b hs seen) ?_ ?_ hs.length _ _ _ ⟨0, seen, 0, 0, none, none, rfl, by simp, rfl, ?_, by (first | lia | omega), rfl⟩
  · rintro it ρ τ ⟨i, sn, like, higher, o1, o2, rfl, hn, rfl, rfl, hl, hf⟩
    refine ⟨Nxt.lstE' (by rw [Store.set_ne hab]; exact ha) (by simp; (first | lia | omega)), ?_⟩
    rw [List.drop_eq_nil_of_le (by (first | lia | omega))] at hf
    rw [← hf]
    k_extra "m_go"
    refine ⟨by simp [sizeLine], ?_⟩
    exact ⟨rfl, rfl⟩
  · rintro n it ρ τ ⟨i, sn, like, higher, o1, o2, rfl, hn, rfl, rfl, hl, hf⟩
    have hi : i < hs.length := by (first | lia | omega)
    rw [List.drop_eq_getElem_cons hi] at hf
    have hx : (hs.map PV.int)[i]? = some (.int hs[i]) := by simp [hi]
    generalize hs[i] = h at hf hx
    refine ⟨.int h, _, .lst (by rw [Store.set_ne hab]; exact ha) hx, .inl (by simp), ?_⟩
    k_extra "m_go"
    refine EV.callF hS (by k_extra "m_mem") (G_bisect_left hX) (F_bisect_left hX) ?_ rfl (by k_extra "m_dbg")
    k_extra "m_go"
    refine CALL.mono (CALL.less (C_bisect_left2 (k := 0) hX Store.set_same (by (first | lia | omega))) (by (first | lia | omega))) ?_
    rintro p τ' ⟨rfl, rfl⟩
    k_extra "m_go"
    refine EV.callF hS (by k_extra "m_mem") (G_bisect_right hX) (F_bisect_right hX) ?_ rfl (by k_extra "m_dbg")
    k_extra "m_go"
    refine CALL.mono (CALL.less (C_bisect_right2 (k := 0) hX Store.set_same (by (first | lia | omega))) (by (first | lia | omega))) ?_
    rintro p τ' ⟨rfl, rfl⟩
    k_extra "m_go"
    refine EV.callF hS (by k_extra "m_mem") (G_bisect_left hX) (F_bisect_left hX) ?_ rfl (by k_extra "m_dbg")
    k_extra "m_go"
    refine CALL.mono (CALL.less (C_bisect_left2 (k := 0) hX Store.set_same (by (first | lia | omega))) (by (first | lia | omega))) ?_
    rintro p τ' ⟨rfl, rfl⟩
    k_extra "m_go"
    refine EV.callF hS (by k_extra "m_mem") (G_insort_right hX) (F_insort_right hX) ?_ rfl (by k_extra "m_dbg")
    k_extra "m_go"
    refine CALL.mono (CALL.less (C_insort_right (k := 0) hX Store.set_same (by (first | lia | omega))) (by (first | lia | omega))) ?_
    rintro p τ' ⟨rfl, rfl⟩
    k_extra "m_go"
    exact ⟨i + 1, _, _, _, _, _, rfl, by (first | lia | omega), rfl, by rw [set_set], by rw [insI_len]; (first | lia | omega), hf⟩
  · funext c
    by_cases hc : c = b
    · subst hc; rw [Store.set_same, hb]
    · rw [Store.set_ne hc]
theorem C_counted (hX : LawX X) {a b : Addr} {hs seen : List Int} (ha : σ a = some (hs.map .int)) (hb : σ b = some (seen.map .int)) (hab : a ≠ b) (hsz : hs.length ≤ 100) (hsz2 : seen.length ≤ 100) :
    CALL X (k + 10) (.ref 116) [.lst a, .lst b] [] σ fun p σ' => p = .tup [.int (cntL hs seen 0 0).1, .int (cntL hs seen 0 0).2.1] ∧ σ' = Store.set σ b ((cntL hs seen 0 0).2.2.map .int) :=
  CALL.def (bn := [Str.ofString "heights", Str.ofString "seen"]) (rest := [Str.ofString "like", Str.ofString "higher", Str.ofString "height", Str.ofString "begin"]) (gs := [Str.ofString "bisect_left", Str.ofString "bisect_right", Str.ofString "insort_right"]) (F__law_counted hX) rfl
    (BINDS.pos2 fun u v => by kernel_rfl) rfl (EnvS.of rfl rfl rfl rfl (by kernel_rfl) · 116) (okNames.kinds (gs := []) (by kernel_rfl)) (W_counted hX ha hb hab hsz hsz2)
end


open PySem PySem.W PyProof.Rows PySem.Spec PySem.Calls
set_option maxRecDepth 100000
set_option maxHeartbeats 8000000

section
variable {X : Cx} {k : Nat} {σ : Store}
noncomputable def fallF (c : Int) : List Int := (List.range c.toNat).map fun (i : Nat) => c - 1 - (i : Int)
noncomputable def ballL (hs : List Int) : Nat → List Int → List Int → Int → List Int × List Int × Int
  | 0, low, climbs, ahead => (low, climbs, ahead)
  | f + 1, low, climbs, ahead => if low.length < hs.length then ballL hs f (low ++ fallF (hs.getD low.length 0 + 1)) (climbs ++ [hs.getD low.length 0 + 1]) (ahead + ((hs.length : Int) - (low ++ fallF (hs.getD low.length 0 + 1)).length)) else (low, climbs, ahead)
theorem ballL_1 (hs : List Int) : ∀ low climbs ahead, ballL hs 0 low climbs ahead = ((low, climbs, ahead)) := by intros; rfl
theorem ballL_2 (hs : List Int) : ∀ f low climbs ahead, ballL hs (f + 1) low climbs ahead = (if low.length < hs.length then ballL hs f (low ++ fallF (hs.getD low.length 0 + 1)) (climbs ++ [hs.getD low.length 0 + 1]) (ahead + ((hs.length : Int) - (low ++ fallF (hs.getD low.length 0 + 1)).length)) else (low, climbs, ahead)) := by intros; rfl
noncomputable def ballT (hs : List Int) : Nat → List Int → Bool
  | 0, _ => false
  | f + 1, low => if low.length < hs.length then decide (1 ≤ hs.getD low.length 0 + 1) && decide (hs.getD low.length 0 + 1 ≤ 20) && ballT hs f (low ++ fallF (hs.getD low.length 0 + 1)) else true
theorem ballT_1 (hs : List Int) : ∀ w1, ballT hs 0 w1 = (false) := by intros; rfl
theorem ballT_2 (hs : List Int) : ∀ f low, ballT hs (f + 1) low = (if low.length < hs.length then decide (1 ≤ hs.getD low.length 0 + 1) && decide (hs.getD low.length 0 + 1 ≤ 20) && ballT hs f (low ++ fallF (hs.getD low.length 0 + 1)) else true) := by intros; rfl
theorem fallF_len {c : Int} (h0 : 1 ≤ c) : ((fallF c).length : Int) = c := by simp [fallF]; (first | lia | omega)
inductive BalI (σ : Store) (a r1 r2 : Addr) (hs : List Int) (fin : List Int × List Int × Int) (n : Nat) (ρ : List (Option PV)) (τ : Store) : Prop
  | mk (low : _) (climbs : _) (ahead : _) (o : _) (_ : ρ = [some (.lst a), some (.lst r1), some (.lst r2), some (.int ahead), o]) (_ : Ext σ τ) (_ : τ r1 = some ((low : List Int).map .int)) (_ : τ r2 = some ((climbs : List Int).map .int)) (_ : low.length ≤ 1000 - 20 * n) (_ : climbs.length ≤ 40 - n) (_ : n ≤ 20) (_ : ballT hs n low = true) (_ : ballL hs n low climbs ahead = fin) : BalI σ a r1 r2 hs fin n ρ τ
inductive BalC (τ1 : Store) (D : Addr) (cn : Nat) (m : Nat) (it : It) (τ' : Store) : Prop
  | mk (i : Nat) (_ : it = .seq ((rngInts ((i : Nat) : Int) 1 m).map .int)) (_ : i + m = cn) (_ : τ' = Store.set τ1 D (((fallF cn).take i).map .int)) : BalC τ1 D cn m it τ'
theorem W_ball (hX : LawX X) {a : Addr} {hs : List Int} {fin : List Int × List Int × Int} {n0 : Nat} (h20 : n0 ≤ 20) (ha : σ a = some (hs.map .int)) (hsz : hs.length ≤ 20) (hT : ballT hs n0 [] = true) (hfin : ballL hs n0 [] [] 0 = fin) : ∀ L, EX X (k + 9) ([Str.ofString "heights"] ++ [Str.ofString "low", Str.ofString "climbs", Str.ofString "ahead", Str.ofString "climb"]) (callEnvC (fd__law_ball X.w.params) L 121) (bodyOf (fd__law_ball X.w.params)) ([.lst a].map some ++ List.replicate 4 none) σ
   (QT σ fin.2.2 fin.1 fin.2.1) := by
  intro L
  have hS := EnvS.of (ns := [Str.ofString "heights", Str.ofString "low", Str.ofString "climbs", Str.ofString "ahead", Str.ofString "climb"]) (gs := [Str.ofString "len", Str.ofString "range"]) (fd := fd__law_ball X.w.params) rfl rfl rfl rfl (by kernel_rfl) L 121
  have hD : NoDbg ([Str.ofString "heights", Str.ofString "low", Str.ofString "climbs", Str.ofString "ahead", Str.ofString "climb"]) ([Str.ofString "len", Str.ofString "range"]) := NoDbg.of (by kernel_rfl)
  simp only [List.cons_append, List.nil_append, List.map_cons, List.map_nil, List.replicate] at hS hD ⊢
  refine EX.cons ?_
  k_extra "m_go"
  refine ⟨by simp [sizeLine], fun r1 hr1 => ?_⟩
  k_extra "m_go"
  refine ⟨by simp [sizeLine], fun r2 hr2 => ?_⟩
  have h12 : r1 ≠ r2 := fun q => by rw [← q, Store.set_same] at hr2; cases hr2
  have hr2' : σ r2 = none := by rw [Store.set_ne (Ne.symm h12)] at hr2; exact hr2
  have ha1 : a ≠ r1 := fun q => by rw [q, hr1] at ha; cases ha
  have ha2 : a ≠ r2 := fun q => by rw [q, hr2'] at ha; cases ha
  k_extra "m_go"
  refine ⟨by simp [sizeLine], _, _, _, rfl, ?_⟩
  k_extra "m_go"
  refine WH.loop (BalI σ a r1 r2 hs fin) ?_ n0 _ _ ⟨[], [], 0, none, rfl, (Ext.new hr1).trans (Ext.new hr2), by rw [Store.set_ne h12, Store.set_same]; rfl, by rw [Store.set_same]; rfl, by simp, by simp, h20, hT, hfin⟩
  rintro n ρ τ ⟨low, climbs, ahead, o, rfl, hE, h1, h2, hl1, hl2, hn20, hbT, hbL⟩
  k_extra "m_go"
  refine CB.lenL h1 (by simp; (first | lia | omega)) ?_
  k_extra "m_go"
  refine CB.lenL (hE _ _ ha) (by simp; (first | lia | omega)) ?_
  k_extra "m_go"
  rw [List.length_map, List.length_map]
  cases n with
  | zero => cases hbT
  | succ n =>
  simp only [ballT_1, ballT_2, ballL_1, ballL_2] at hbT hbL
  by_cases hlt : low.length < hs.length
  · rw [if_pos hlt] at hbT hbL
    simp only [Bool.and_eq_true, decide_eq_true_eq] at hbT
    obtain ⟨⟨hc1, hc2⟩, hbT⟩ := hbT
    refine iteT (by simpa using hlt) ?_
    k_extra "m_go"
    refine CB.lenL h1 (by simp; (first | lia | omega)) ?_
    k_extra "m_go"
    rw [List.length_map]
    refine ⟨⟨_, .lst (hE _ _ ha)⟩, GETI.ints (hE _ _ ha) hlt (by (first | lia | omega)) ?_⟩
    k_extra "m_go"
    obtain ⟨c, hc⟩ : ∃ c, c = hs.getD low.length 0 + 1 := ⟨_, rfl⟩
    rw [← hc] at hc1 hc2 hbT hbL ⊢
    clear hc
    refine ⟨.lst h2, ?_⟩
    k_extra "m_go"
    refine CB.append h2 (by simp [sizeLine]; (first | lia | omega)) ?_
    k_extra "m_go"
    have e1 : (Store.set τ r2 (climbs.map .int ++ [.int c])) r1 = some (low.map .int) := by rw [Store.set_ne h12]; exact h1
    have e2 : (Store.set τ r2 (climbs.map .int ++ [.int c])) r2 = some ((climbs ++ [c]).map .int) := by rw [Store.set_same]; simp
    have hE1 : Ext σ (Store.set τ r2 (climbs.map .int ++ [.int c])) := Ext.upd hr2' hE
    generalize Store.set τ r2 (climbs.map .int ++ [.int c]) = τ1 at e1 e2 hE1 ⊢
    refine EV.lc (cap := [Str.ofString "climb"]) (loc := [Str.ofString "step"]) (gs' := []) (capP := [.int c]) hS (by kernel_rfl) (.cons (by k_extra "m_look") .nil) (by (first | lia | omega)) (by intro _; rfl) ?_
    refine EVI.of ?_
    k_extra "m_go"
    obtain ⟨cn, rfl⟩ : ∃ cn : Nat, c = (cn : Int) := ⟨c.toNat, by (first | lia | omega)⟩
    refine ITER.rng (n := cn) (range_ok cn (by (first | lia | omega))).1 (range_ok cn (by (first | lia | omega))).2 ?_
    intro D hD0
    have hDf : σ D = none := by
      cases h : σ D with
      | none => rfl
      | some xs => rw [hE1 _ _ h] at hD0; cases hD0
    have h1D : r1 ≠ D := fun q => by rw [← q, e1] at hD0; cases hD0
    have h2D : r2 ≠ D := fun q => by rw [← q, e2] at hD0; cases hD0
    refine ⟨BalC τ1 D cn, cn, ⟨0, rfl, by (first | lia | omega), rfl⟩, ?_, ?_⟩
    · rintro it τ' ⟨i, rfl, hn, rfl⟩
      refine ⟨.seqE, ?_⟩
      have hfl := fallF_len hc1
      have : i = (fallF (cn : Int)).length := by (first | lia | omega)
      rw [this, List.take_length]
      refine INP.addL (xs := low.map .int) (ys := (fallF (cn : Int)).map .int) h1D (by rw [Store.set_ne h1D]; exact e1) Store.set_same (by simp; (first | lia | omega)) ?_
      have f1 : (Store.set (Store.set τ1 D ((fallF (cn : Int)).map .int)) r1 (low.map .int ++ (fallF (cn : Int)).map .int)) r1 = some ((low ++ fallF (cn : Int)).map .int) := by rw [Store.set_same]; simp
      have f2 : (Store.set (Store.set τ1 D ((fallF (cn : Int)).map .int)) r1 (low.map .int ++ (fallF (cn : Int)).map .int)) r2 = some ((climbs ++ [(cn : Int)]).map .int) := by rw [Store.set_ne (Ne.symm h12), Store.set_ne h2D]; exact e2
      have hE2 : Ext σ (Store.set (Store.set τ1 D ((fallF (cn : Int)).map .int)) r1 (low.map .int ++ (fallF (cn : Int)).map .int)) := Ext.upd hr1 (Ext.upd hDf hE1)
      generalize Store.set (Store.set τ1 D ((fallF (cn : Int)).map .int)) r1 (low.map .int ++ (fallF (cn : Int)).map .int) = τ2 at f1 f2 hE2 ⊢
      k_extra "m_go"
      refine CB.lenL (hE2 _ _ ha) (by simp; (first | lia | omega)) ?_
      k_extra "m_go"
      refine CB.lenL f1 (by simp; (first | lia | omega)) ?_
      k_extra "m_go"
      rw [List.length_map, List.length_map]
      refine ⟨n, Nat.lt_succ_self _, _, _, _, _, rfl, hE2, f1, f2, ?_, by simp; (first | lia | omega), by (first | lia | omega), hbT, hbL⟩
      rw [List.length_append]; (first | lia | omega)
    · intro C hS' m it τ' hi
      have hD' : NoDbg [Str.ofString "climb", Str.ofString "step"] [] := NoDbg.of (by kernel_rfl)
      simp only [List.cons_append, List.nil_append, List.map_cons, List.map_nil, List.replicate, List.length_cons, List.length_nil] at hS' ⊢
      obtain ⟨i, rfl, hn, rfl⟩ := hi
      refine ⟨.int ((i : Nat) : Int), .seq ((rngInts ((i : Nat) + 1 : Int) 1 m).map .int), .seq, .inl (by simp), ?_⟩
      k_extra "m_go"
      refine ⟨by k_extra "m_weak", IFS.nil (iteT rfl ?_)⟩
      k_extra "m_go"
      refine ⟨_, Store.set_same, by simp [sizeLine, fallF]; (first | lia | omega), i + 1, by push_cast; rfl, by (first | lia | omega), ?_⟩
      rw [set_set]
      congr 1
      rw [List.take_succ_eq_append_getElem (show i < (fallF (cn : Int)).length by simp [fallF]; (first | lia | omega))]
      simp [fallF]
  · rw [if_neg hlt] at hbT hbL
    refine iteF (by simpa using hlt) ?_
    k_extra "m_go"
    refine ⟨by simp [sizeLine], ?_⟩
    rw [← hbL]
    exact ⟨r1, r2, rfl, h12, hr1, hr2', h1, h2, hE⟩
theorem C_ball (hX : LawX X) {a : Addr} {hs : List Int} {fin : List Int × List Int × Int} {n0 : Nat} (h20 : n0 ≤ 20) (ha : σ a = some (hs.map .int)) (hsz : hs.length ≤ 20) (hT : ballT hs n0 [] = true) (hfin : ballL hs n0 [] [] 0 = fin) : CALL X (k + 10) (.ref 121) [.lst a] [] σ fun p σ' =>
    ∃ r1 r2, p = .tup [.lst r1, .lst r2, .int fin.2.2] ∧ r1 ≠ r2 ∧ σ r1 = none ∧ σ r2 = none ∧ σ' r1 = some (fin.1.map .int) ∧ σ' r2 = some (fin.2.1.map .int) ∧ Ext σ σ' :=
  CALL.def (bn := [Str.ofString "heights"]) (rest := [Str.ofString "low", Str.ofString "climbs", Str.ofString "ahead", Str.ofString "climb"]) (gs := [Str.ofString "len", Str.ofString "range"]) (F__law_ball hX) rfl
    (BINDS.pos1 fun u => by kernel_rfl) rfl (EnvS.of rfl rfl rfl rfl (by kernel_rfl) · 121) (okNames.kinds (gs := []) (by kernel_rfl)) (W_ball hX h20 ha hsz hT hfin)
end


open PySem PySem.W PyProof.Rows PySem.Spec PySem.Calls
set_option maxRecDepth 100000
set_option maxHeartbeats 8000000

section
variable {X : Cx} {k : Nat} {σ : Store}
theorem flat_rep (n c : Nat) : (List.replicate n [c]).flatten = List.replicate n c := by
  induction n with
  | zero => rfl
  | succ n ih => simp [List.replicate_succ, ih]
noncomputable def wordAt (xs : List Int) (i : Nat) : List Nat := List.replicate (xs.getD i 0).toNat (65 + i) ++ List.replicate (xs.length - 1 - i - (xs.getD i 0).toNat) (97 + i)
noncomputable def wordF (xs : List Int) : List Nat := ((List.range xs.length).map (wordAt xs)).flatten
noncomputable def okW (xs : List Int) : Bool := decide (xs.length ≤ 5) && (List.range xs.length).all fun i => decide (0 ≤ xs.getD i 0) && decide (xs.getD i 0 ≤ (xs.length : Int) - 1 - i)
theorem okW.at {xs : List Int} (h : okW xs = true) {i : Nat} (hi : i < xs.length) : ∃ n : Nat, n = (xs.getD i 0).toNat ∧ n + i + 1 ≤ xs.length ∧ (xs.map PV.int)[i]? = some (.int (n : Int)) := by
  unfold okW at h
  simp only [Bool.and_eq_true, decide_eq_true_eq, List.all_eq_true, List.mem_range] at h
  have hx := h.2 i hi
  refine ⟨(xs.getD i 0).toNat, rfl, by (first | lia | omega), ?_⟩
  rw [getD_at hi, Int.toNat_of_nonneg hx.1]
theorem okW.le {xs : List Int} (h : okW xs = true) : xs.length ≤ 5 := by
  unfold okW at h
  simp only [Bool.and_eq_true, decide_eq_true_eq] at h
  exact h.1
theorem lets5 : ∀ i, i < 5 → (65 + i) ∈ letters ∧ (97 + i) ∈ letters := by decide +kernel
theorem abc_up : ∀ i : Nat, i < 5 → (seqIndex? (i : Int) [65, 66, 67, 68, 69].length).bind ([65, 66, 67, 68, 69][·]?) = some (65 + i) := by decide +kernel
theorem abc_lo : ∀ i : Nat, i < 5 → (seqIndex? (i : Int) [97, 98, 99, 100, 101].length).bind ([97, 98, 99, 100, 101][·]?) = some (97 + i) := by decide +kernel
theorem wordF_let {xs : List Int} (h : xs.length ≤ 5) : ∀ c ∈ wordF xs, c ∈ letters := by
  intro c hc
  obtain ⟨l, hl, hc⟩ := List.mem_flatten.mp hc
  obtain ⟨i, hi, rfl⟩ := List.mem_map.mp hl
  have hi := List.mem_range.mp hi
  have h5 : i < 5 := by (first | lia | omega)
  have key : c = 65 + i ∨ c = 97 + i := by
    simp only [wordAt, List.mem_append, List.mem_replicate] at hc
    exact hc.imp And.right And.right
  have h4 := lets5 i h5
  rcases key with rfl | rfl
  · exact h4.1
  · exact h4.2
inductive WordI (σ : Store) (a r : Addr) (xs : List Int) (n : Nat) (it : It) (ρ : List (Option PV)) (τ : Store) : Prop
  | mk (i : Nat) (o1 o2 : Option PV) (_ : it = .enl a i) (_ : i + n = xs.length) (_ : ρ = [some (.lst a), some (.lst r), o1, o2]) (_ : τ = Store.set σ r (((List.range i).map (wordAt xs)).map strPV)) : WordI σ a r xs n it ρ τ
theorem w11 {L i u : Nat} (h5 : L ≤ 5) : L - 1 - i - u ≤ 1000 := Nat.le_trans (Nat.sub_le _ _) (Nat.le_trans (Nat.sub_le _ _) (Nat.le_trans (Nat.sub_le _ _) (Nat.le_trans h5 (by decide))))
theorem w12 {L i u : Nat} (h : u + i + 1 ≤ L) (h5 : L ≤ 5) : u + (L - 1 - i - u) ≤ 16777216 :=
  Nat.le_trans (Nat.add_le_add (Nat.le_trans (Nat.le_trans (Nat.le_add_right u (i + 1)) h) h5) (Nat.le_trans (Nat.sub_le _ _) (Nat.le_trans (Nat.sub_le _ _) (Nat.le_trans (Nat.sub_le _ _) h5)))) (by decide)
theorem w13 {L i u : Nat} (h : u + i + 1 ≤ L) : (L : Int) - 1 - (i : Int) - (u : Int) = ((L - 1 - i - u : Nat) : Int) := by
  have h2 : u + i ≤ L - 1 := Nat.le_sub_of_add_le h
  rw [Int.ofNat_sub (Nat.le_sub_of_add_le h2), Int.ofNat_sub (Nat.le_trans (Nat.le_add_left _ _) h2), Int.ofNat_sub (Nat.le_trans (Nat.le_add_left 1 _) h)]; rfl
theorem W_word (hX : LawX X) {a : Addr} {xs : List Int} (ha : σ a = some (xs.map .int)) (hxs : okW xs = true) (hln : (wordF xs).length ≤ 40) : ∀ L, EX X (k + 9) ([Str.ofString "heights"] ++ [Str.ofString "parts", Str.ofString "place", Str.ofString "height"]) (callEnvC (fd__law_word X.w.params) L 135) (bodyOf (fd__law_word X.w.params)) ([.lst a].map some ++ List.replicate 3 none) σ
   (QE (.str (S (wordF xs))) σ) := by
  intro L
  have hS := EnvS.of (ns := [Str.ofString "heights", Str.ofString "parts", Str.ofString "place", Str.ofString "height"]) (gs := [Str.ofString "enumerate", Str.ofString "len"]) (fd := fd__law_word X.w.params) rfl rfl rfl rfl (by kernel_rfl) L 135
  have hD : NoDbg ([Str.ofString "heights", Str.ofString "parts", Str.ofString "place", Str.ofString "height"]) ([Str.ofString "enumerate", Str.ofString "len"]) := NoDbg.of (by kernel_rfl)
  simp only [List.cons_append, List.nil_append, List.map_cons, List.map_nil, List.replicate] at hS hD ⊢
  have q1 : Str.ofString "ABCDE" = S [65, 66, 67, 68, 69] := by decide +kernel
  have q2 : Str.ofString "abcde" = S [97, 98, 99, 100, 101] := by decide +kernel
  have es : Str.ofString "" = S [] := by decide +kernel
  have h5 := okW.le hxs
  refine EX.cons ?_
  k_extra "m_go"
  refine ⟨by simp [sizeLine], fun r hr => ?_⟩
  have har : a ≠ r := fun q => by rw [q, hr] at ha; cases ha
  k_extra "m_go"
  refine EVI.enum hS (by k_extra "m_mem") (G_enumerate hX) ?_ rfl (by k_extra "m_dbg")
  k_extra "m_go"
  refine ⟨a, _, rfl, by rw [Store.set_ne har]; exact ha, ?_⟩
  refine FL.loop (by (first | lia | omega)) (WordI σ a r xs) ?_ ?_ xs.length _ _ _ ⟨0, none, none, rfl, by (first | lia | omega), rfl, rfl⟩
  · rintro it ρ τ ⟨i, o1, o2, rfl, hn, rfl, rfl⟩
    have : i = xs.length := by (first | lia | omega)
    subst this
    refine ⟨.enlE (by rw [Store.set_ne har]; exact ha) (by simp), ?_⟩
    k_extra "m_go"
    refine ⟨.str, ?_⟩
    k_extra "m_go"
    rw [es]
    refine CB.join (l := (List.range xs.length).map (wordAt xs)) Store.set_same ?_ ?_
    · simp only [wordF] at hln; simp only [sizeLine]; (first | lia | omega)
    k_extra "m_go"
    exact ⟨rfl, Ext.new hr⟩
  · rintro n it ρ τ ⟨i, o1, o2, rfl, hn, rfl, rfl⟩
    have hi : i < xs.length := by (first | lia | omega)
    obtain ⟨u, hu2, hu3, hu4⟩ := okW.at hxs hi
    have ha' : (Store.set σ r (((List.range i).map (wordAt xs)).map strPV)) a = some (xs.map .int) := by rw [Store.set_ne har]; exact ha
    refine ⟨.tup [.int ((i : Nat) : Int), .int (u : Int)], .enl a (i + 1), .enl ha' hu4, .inr rfl, ?_⟩
    have g1 := abc_up i (by (first | lia | omega))
    have g2 := abc_lo i (by (first | lia | omega))
    k_extra "m_go"
    refine ⟨.lst Store.set_same, ?_⟩
    k_extra "m_go"
    rw [q1]
    refine GETI.str (by (first | lia | omega)) g1 ?_
    k_extra "m_go"
    refine BIN.mulS (by (first | lia | omega)) (by simp) ?_
    k_extra "m_go"
    rw [q2]
    refine GETI.str (by (first | lia | omega)) g2 ?_
    k_extra "m_go"
    refine CB.lenL ha' (by simp; (first | lia | omega)) ?_
    k_extra "m_go"
    rw [List.length_map, w13 hu3]
    refine BIN.mulS (by first | exact w11 (by assumption) | (first | lia | omega)) (by simp) ?_
    rw [flat_rep, flat_rep]
    refine BIN.addS (by rw [S_len, S_len]; simp [sizeLine]; first | exact w12 (by assumption) (by assumption) | (first | lia | omega)) ?_
    k_extra "m_go"
    refine CB.append Store.set_same (by simp [sizeLine]; (first | lia | omega)) ?_
    k_extra "m_go"
    refine ⟨i + 1, _, _, rfl, by (first | lia | omega), rfl, ?_⟩
    rw [set_set, S_append]
    congr 1
    simp [List.range_succ, wordAt, strPV, hu2]
theorem C_word (hX : LawX X) {a : Addr} {xs : List Int} (ha : σ a = some (xs.map .int)) (hxs : okW xs = true) (hln : (wordF xs).length ≤ 40) : CALL X (k + 10) (.ref 135) [.lst a] [] σ fun p σ' => p = .str (S (wordF xs)) ∧ Ext σ σ' :=
  CALL.def (bn := [Str.ofString "heights"]) (rest := [Str.ofString "parts", Str.ofString "place", Str.ofString "height"]) (gs := [Str.ofString "enumerate", Str.ofString "len"]) (F__law_word hX) rfl
    (BINDS.pos1 fun u => by kernel_rfl) rfl (EnvS.of rfl rfl rfl rfl (by kernel_rfl) · 135) (okNames.kinds (gs := []) (by kernel_rfl)) (W_word hX ha hxs hln)

theorem Ext.none {σ σ' : Store} (e : Ext σ σ') {a : Addr} (h : σ' a = Option.none) : σ a = Option.none := by
  cases hh : σ a with
  | none => rfl
  | some xs => rw [e _ _ hh] at h; cases h
noncomputable def isBr (u : List Nat) : Bool := u == [40] || u == [41]
noncomputable def readF (cs : List Nat) : List (List Nat) := ((escIt 0 false (stripF cs)).map (·.2)).filter isBr
inductive ReadI (σ₁ : Store) (D : Addr) (cs : List Nat) (n : Nat) (it : It) (τ : Store) : Prop
  | mk (items : List (Nat × List Nat)) (acc : List (List Nat)) (_ : it = .seq (items.map escPV)) (_ : n = items.length) (_ : τ = Store.set σ₁ D (acc.map strPV)) (_ : acc ++ (items.map (·.2)).filter isBr = readF cs) (_ : acc.length + items.length ≤ 20000) : ReadI σ₁ D cs n it τ
theorem W_read (hX : LawX X) {cs : List Nat} (hsz : cs.length ≤ 10000) (hfl : (stripF cs).length ≤ 10000) : ∀ L, EX X (k + 10) ([Str.ofString "text"] ++ [Str.ofString "left"]) (callEnvC (fd__law_read X.w.params) L 97) (bodyOf (fd__law_read X.w.params)) ([PV.str (S cs)].map some ++ List.replicate 1 none) σ
   (QN σ ((readF cs).map strPV)) := by
  intro L
  have hS := EnvS.of (ns := [Str.ofString "text", Str.ofString "left"]) (gs := [Str.ofString "_strip_quoted_realnames", Str.ofString "_iter_escaped_chars"]) (fd := fd__law_read X.w.params) rfl rfl rfl rfl (by kernel_rfl) L 97
  have hD : NoDbg ([Str.ofString "text", Str.ofString "left"]) ([Str.ofString "_strip_quoted_realnames", Str.ofString "_iter_escaped_chars"]) := NoDbg.of (by kernel_rfl)
  simp only [List.cons_append, List.nil_append, List.map_cons, List.map_nil, List.replicate] at hS hD ⊢
  have q1 : Str.ofString "(" = S [40] := by decide +kernel
  have q2 : Str.ofString ")" = S [41] := by decide +kernel
  refine EX.cons ?_
  k_extra "m_go"
  refine EV.callF hS (by k_extra "m_mem") (G__strip_quoted_realnames hX) (F__strip_quoted_realnames hX) ?_ rfl (by k_extra "m_dbg")
  k_extra "m_go"
  refine CALL.mono (C_strip hX hsz hfl) ?_
  rintro p σ₁ ⟨rfl, hE⟩
  k_extra "m_go"
  refine EV.lc (cap := []) (loc := [Str.ofString "place", Str.ofString "unit"]) (gs' := []) (capP := []) hS (by kernel_rfl) .nil (by (first | lia | omega)) (by intro _; rfl) ?_
  refine EVI_esc hX hS (by k_extra "m_mem") ?_ rfl
  k_extra "m_go"
  refine ⟨stripF cs, rfl, hfl, ?_⟩
  intro D hD0
  have hDn : σ D = none := hE.none hD0
  have hlen := escIt_len (stripF cs) 0 false
  refine ⟨ReadI σ₁ D cs, (escIt 0 false (stripF cs)).length, ⟨_, [], rfl, rfl, rfl, rfl, by simp; (first | lia | omega)⟩, ?_, ?_⟩
  · rintro it τ ⟨items, acc, rfl, hn, rfl, hst, hle⟩
    have : items = [] := List.length_eq_zero_iff.mp hn.symm
    subst this
    refine ⟨.seqE, D, rfl, hDn, ?_, Ext.upd hDn hE⟩
    rw [Store.set_same, ← hst]; simp
  · intro C hS' n it τ hi
    have hD' : NoDbg [Str.ofString "place", Str.ofString "unit"] [] := NoDbg.of (by kernel_rfl)
    simp only [List.cons_append, List.nil_append, List.map_cons, List.map_nil, List.replicate, List.length_cons, List.length_nil] at hS' ⊢
    obtain ⟨items, acc, rfl, hn, rfl, hst, hle⟩ := hi
    cases items with
    | nil => simp at hn
    | cons q items =>
    obtain ⟨p, u⟩ := q
    have hn' : n = items.length := by simpa using hn
    simp only [List.length_cons] at hle
    refine ⟨.tup [.int (p : Nat), .str (S u)], .seq (items.map escPV), .seq, .inl (by simp), ?_⟩
    k_extra "m_go"
    refine ⟨by k_extra "m_weak", IFS.one ?_⟩
    k_extra "m_go"
    rw [q1, S_beq]
    simp only [List.map_cons, List.filter_cons] at hst
    by_cases h1 : u = [40]
    · have hb : isBr u = true := by simp [isBr, h1]
      rw [hb, if_pos rfl] at hst
      refine iteT (by simpa using h1) ?_
      refine iteT rfl ?_
      k_extra "m_go"
      exact ⟨_, Store.set_same, by simp [sizeLine]; (first | lia | omega), items, acc ++ [u], rfl, hn', by rw [set_set]; simp [strPV], by rw [← hst]; simp, by simp; (first | lia | omega)⟩
    · refine iteF (by simpa using h1) ?_
      k_extra "m_go"
      rw [q2, S_beq]
      by_cases h2 : u = [41]
      · have hb : isBr u = true := by simp [isBr, h2]
        rw [hb, if_pos rfl] at hst
        refine iteT (by simpa using h2) ?_
        refine iteT rfl ?_
        k_extra "m_go"
        exact ⟨_, Store.set_same, by simp [sizeLine]; (first | lia | omega), items, acc ++ [u], rfl, hn', by rw [set_set]; simp [strPV], by rw [← hst]; simp, by simp; (first | lia | omega)⟩
      · have hb : isBr u = false := by simp [isBr, h1, h2]
        rw [hb, if_neg Bool.false_ne_true] at hst
        refine iteF (by simpa using h2) ?_
        k_extra "m_go"
        refine iteF rfl ?_
        exact ⟨items, acc, rfl, hn', rfl, hst, by (first | lia | omega)⟩
theorem C_read (hX : LawX X) {cs : List Nat} (hsz : cs.length ≤ 10000) (hfl : (stripF cs).length ≤ 10000) : CALL X (k + 11) (.ref 97) [.str (S cs)] [] σ fun p σ' => New σ σ' p ((readF cs).map strPV) :=
  CALL.def (bn := [Str.ofString "text"]) (rest := [Str.ofString "left"]) (gs := [Str.ofString "_strip_quoted_realnames", Str.ofString "_iter_escaped_chars"]) (F__law_read hX) rfl
    (BINDS.pos1 fun u => by kernel_rfl) rfl (EnvS.of rfl rfl rfl rfl (by kernel_rfl) · 97) (okNames.kinds (gs := []) (by kernel_rfl)) (W_read hX hsz hfl)
end


open PySem PySem.W PyProof.Rows PySem.Spec PySem.Calls
set_option maxRecDepth 100000
set_option maxHeartbeats 8000000

section
variable {X : Cx} {k : Nat} {σ : Store}
noncomputable def layS {α : Type} (up : α → Bool) : List α → List (Int × α) → Int → List (Int × α)
  | [], sh, _ => sh
  | p :: ps, sh, h => layS up ps (insK sh h p) (h + if up p = true then 1 else -1)
theorem layS_1 {α : Type} (up : α → Bool) : ∀ sh w1, layS up [] sh w1 = (sh) := by intros; rfl
theorem layS_2 {α : Type} (up : α → Bool) : ∀ p ps sh h, layS up (p :: ps) sh h = (layS up ps (insK sh h p) (h + if up p = true then 1 else -1)) := by intros; rfl
noncomputable def laidF {α : Type} (up : α → Bool) (ps : List α) : List α := (layS up ps [] 0).map (·.2)
noncomputable def upP (p : List Nat) : Bool := p.getD 0 0 == 40
theorem key_ok {fd : FuncData} {p1 p2 p3 : Pos} {kk : Nat} (hbody : fd.body = .expr (.Subscript (.Name (Str.ofString "pair") p1) (.Constant (.int 0) kk p2) p3)) (hclo : fd.closure = []) (hco : fd.scope.isCoroutine = false) (hgen : fd.scope.isGenerator = false) (hkind : fd.scope.kind = .function)
    (hg : fd.globals = mainGlobals) (hb : fd.builtins = builtinsNs) (hn : okNames fd.scope.names [Str.ofString "pair"] [] = true) (hbi : ∀ v, bindArgs fd ⟨[v], []⟩ = pure ([Str.ofString "pair"].zip [v])) : KeyOk X fd := by
  intro k σ h x Q hq
  have hD : NoDbg [Str.ofString "pair"] [] := NoDbg.of (by kernel_rfl)
  refine CALLP.lam (bn := [Str.ofString "pair"]) (rest := []) (gs := []) hbody hclo hco hgen hkind (fun vs hv => ?_) rfl (fun L f => EnvS.of hkind hco hg hb hn L f) (okNames.kinds hn) fun L f => ?_
  · obtain ⟨v, rfl⟩ : ∃ v, vs = [v] := by
      cases vs with
      | nil => simp at hv
      | cons v r => cases r with
        | nil => exact ⟨v, rfl⟩
        | cons _ _ => simp at hv
    exact hbi v
  · have hS := EnvS.of (ns := [Str.ofString "pair"]) (gs := []) hkind hco hg hb hn L f
    simp only [List.cons_append, List.nil_append, List.map_cons, List.map_nil, List.length_nil, List.replicate]
    k_extra "m_go"
    exact ⟨⟨_, .tup⟩, GETI.tup (i := 0) (by decide) rfl hq⟩
inductive LaidI (σ : Store) (a r : Addr) (ps : List (List Nat)) (n : Nat) (it : It) (ρ : List (Option PV)) (τ : Store) : Prop
  | mk (i : Nat) (sh : List (Int × List Nat)) (h : Int) (o : Option PV) (_ : it = .lst a i) (_ : i + n = ps.length) (_ : ρ = [some (.lst a), some (.lst r), some (.int h), o]) (_ : τ = Store.set σ r (sh.map shPV)) (_ : sh.length = i) (_ : layS upP (ps.drop i) sh h = layS upP ps [] 0) : LaidI σ a r ps n it ρ τ
inductive LaidR (σ : Store) (a r : Addr) (h' : Int) (p : List Nat) (sh : List (Int × List Nat)) (ρ : List (Option PV)) (τ : Store) : Prop
  | mk (_ : ρ = [some (.lst a), some (.lst r), some (.int h'), some (.str (S p))]) (_ : τ = Store.set σ r (sh.map shPV)) : LaidR σ a r h' p sh ρ τ
inductive LaidJ (τ : Store) (r D : Addr) (sh : List (Int × List Nat)) (n : Nat) (it : It) (τ' : Store) : Prop
  | mk (i : Nat) (_ : it = .lst r i) (_ : i + n = sh.length) (_ : τ' = Store.set τ D ((sh.take i).map fun q => strPV q.2)) : LaidJ τ r D sh n it τ'
theorem W_laid (hX : LawX X) {a : Addr} {ps : List (List Nat)} (ha : σ a = some (ps.map strPV)) (hsz : ps.length ≤ 100) (hne : ∀ p ∈ ps, p ≠ []) (hpl : ∀ p ∈ ps, p.length ≤ 100) : ∀ L, EX X (k + 9) ([Str.ofString "pieces"] ++ [Str.ofString "shelf", Str.ofString "height", Str.ofString "piece"]) (callEnvC (fd__law_laid X.w.params) L 102) (bodyOf (fd__law_laid X.w.params)) ([.lst a].map some ++ List.replicate 3 none) σ
   (QN σ ((laidF upP ps).map strPV)) := by
  intro L
  have hS := EnvS.of (ns := [Str.ofString "pieces", Str.ofString "shelf", Str.ofString "height", Str.ofString "piece"]) (gs := [Str.ofString "insort_left"]) (fd := fd__law_laid X.w.params) rfl rfl rfl rfl (by kernel_rfl) L 102
  have hD : NoDbg ([Str.ofString "pieces", Str.ofString "shelf", Str.ofString "height", Str.ofString "piece"]) ([Str.ofString "insort_left"]) := NoDbg.of (by kernel_rfl)
  simp only [List.cons_append, List.nil_append, List.map_cons, List.map_nil, List.replicate] at hS hD ⊢
  have q1 : Str.ofString "(" = S [40] := by decide +kernel
  refine EX.cons ?_
  k_extra "m_go"
  refine ⟨by simp [sizeLine], fun r hr => ?_⟩
  have har : a ≠ r := fun q => by rw [q, hr] at ha; cases ha
  k_extra "m_go"
  refine ⟨by simp [sizeLine], _, _, rfl, ?_⟩
  k_extra "m_go"
  refine EVI.of ?_
  k_extra "m_go"
  refine ITER.lst (by rw [Store.set_ne har]; exact ha) ?_
  refine FL.loop (by (first | lia | omega)) (LaidI σ a r ps) ?_ ?_ ps.length _ _ _ ⟨0, [], 0, none, rfl, by simp, rfl, rfl, rfl, rfl⟩
  · rintro it ρ τ ⟨i, sh, h, o, rfl, hn, rfl, rfl, hl, hf⟩
    refine ⟨Nxt.lstE' (by rw [Store.set_ne har]; exact ha) (by simp; (first | lia | omega)), ?_⟩
    rw [List.drop_eq_nil_of_le (by (first | lia | omega))] at hf
    simp only [layS_1, layS_2] at hf
    k_extra "m_go"
    refine EV.lc (cap := []) (loc := [Str.ofString "pair"]) (gs' := []) (capP := []) hS (by kernel_rfl) .nil (by (first | lia | omega)) (by intro _; rfl) ?_
    refine EVI.of ?_
    k_extra "m_go"
    refine ITER.lst Store.set_same ?_
    intro D hD0
    have hrD : r ≠ D := fun q => by rw [q, Store.set_same] at hD0; cases hD0
    have hDn : σ D = none := by rw [Store.set_ne (Ne.symm hrD)] at hD0; exact hD0
    refine ⟨LaidJ (Store.set σ r (sh.map shPV)) r D sh, sh.length, ⟨0, rfl, by (first | lia | omega), rfl⟩, ?_, ?_⟩
    · rintro it τ' ⟨j, rfl, hj, rfl⟩
      refine ⟨Nxt.lstE' (by rw [Store.set_ne hrD, Store.set_same]) (by simp; (first | lia | omega)), D, rfl, hDn, ?_, Ext.upd hDn (Ext.new hr)⟩
      rw [Store.set_same, show j = sh.length by (first | lia | omega), List.take_length, laidF, ← hf, List.map_map]; rfl
    · intro C hS' m it τ' hj
      have hD' : NoDbg [Str.ofString "pair"] [] := NoDbg.of (by kernel_rfl)
      simp only [List.cons_append, List.nil_append, List.map_cons, List.map_nil, List.replicate, List.length_cons, List.length_nil] at hS' ⊢
      obtain ⟨j, rfl, hjn, rfl⟩ := hj
      have hjl : j < sh.length := by (first | lia | omega)
      refine ⟨shPV sh[j], .lst r (j + 1), .lst (by rw [Store.set_ne hrD, Store.set_same]) (by simp [hjl]), .inl (by simp), ?_⟩
      unfold shPV
      k_extra "m_go"
      refine ⟨by k_extra "m_weak", IFS.nil (iteT rfl ?_)⟩
      k_extra "m_go"
      refine ⟨⟨_, .tup⟩, GETI.tup (i := 1) (by decide) rfl ?_⟩
      refine ⟨_, Store.set_same, by simp [sizeLine]; (first | lia | omega), j + 1, rfl, by (first | lia | omega), ?_⟩
      rw [set_set]
      congr 1
      rw [List.take_succ_eq_append_getElem hjl, List.map_append]; rfl
  · rintro n it ρ τ ⟨i, sh, h, o, rfl, hn, rfl, rfl, hl, hf⟩
    have hi : i < ps.length := by (first | lia | omega)
    rw [List.drop_eq_getElem_cons hi] at hf
    have hx : (ps.map strPV)[i]? = some (.str (S ps[i])) := by simp [hi, strPV]
    have hp0 := hne _ (List.getElem_mem hi)
    have hp1 := hpl _ (List.getElem_mem hi)
    generalize ps[i] = p at hf hx hp0 hp1
    simp only [layS_1, layS_2] at hf
    refine ⟨.str (S p), _, .lst (by rw [Store.set_ne har]; exact ha) hx, .inl (by simp), ?_⟩
    k_extra "m_go"
    refine EV.callFK hS (by k_extra "m_mem") (G_insort_left hX) (F_insort_left hX) ?_ rfl (by k_extra "m_dbg")
    k_extra "m_go"
    refine ⟨by simp [sizeLine], ?_⟩
    k_extra "m_go"
    refine EV.lam (hX.lam) hS rfl rfl (by decide) fun pm cd ct => ?_
    refine CALL.mono (CALL.less (C_insort_leftK (k := 0) hX (key_ok rfl rfl rfl rfl rfl rfl rfl (by kernel_rfl) (fun v => by kernel_rfl)) Store.set_same (by (first | lia | omega))) (by (first | lia | omega))) ?_
    rintro q τ' ⟨rfl, rfl⟩
    rw [set_set]
    k_extra "m_gs"
    refine EX.cons ?_
    refine EX1.join (LaidR σ a r (h + if upP p = true then 1 else -1) p (insK sh h p)) ?_ ?_
    · k_extra "m_gs"
      obtain ⟨c, cs, rfl⟩ : ∃ c cs, p = c :: cs := by
        cases p with
        | nil => exact absurd rfl hp0
        | cons c cs => exact ⟨c, cs, rfl⟩
      refine ⟨⟨_, .str⟩, GETI.str (c := c) (by (first | lia | omega)) (pos_idx (x := c :: cs) (i := 0) (by simp)) ?_⟩
      k_extra "m_gs"
      rw [q1, S_beq]
      by_cases h1 : c = 40
      · refine iteT (by simp [h1]) ?_
        k_extra "m_gs"
        exact ⟨rfl, by rw [if_pos (by simp [upP, h1])], rfl⟩
      · refine iteF (by simp [h1]) ?_
        k_extra "m_gs"
        exact ⟨rfl, by rw [if_neg (by simp [upP, h1])], rfl⟩
    · rintro ρ' τ' ⟨rfl, rfl⟩
      k_extra "m_gs"
      exact ⟨i + 1, insK sh h p, _, _, rfl, by (first | lia | omega), rfl, rfl, by rw [insK_len, hl], hf⟩
theorem C_laid (hX : LawX X) {a : Addr} {ps : List (List Nat)} (ha : σ a = some (ps.map strPV)) (hsz : ps.length ≤ 100) (hne : ∀ p ∈ ps, p ≠ []) (hpl : ∀ p ∈ ps, p.length ≤ 100) : CALL X (k + 10) (.ref 102) [.lst a] [] σ fun p σ' => New σ σ' p ((laidF upP ps).map strPV) :=
  CALL.def (bn := [Str.ofString "pieces"]) (rest := [Str.ofString "shelf", Str.ofString "height", Str.ofString "piece"]) (gs := [Str.ofString "insort_left"]) (F__law_laid hX) rfl
    (BINDS.pos1 fun u => by kernel_rfl) rfl (EnvS.of rfl rfl rfl rfl (by kernel_rfl) · 102) (okNames.kinds (gs := []) (by kernel_rfl)) (W_laid hX ha hsz hne hpl)
end


open PySem PySem.W PyProof.Rows PySem.Spec PySem.Calls
set_option maxRecDepth 100000
set_option maxHeartbeats 8000000

section
variable {X : Cx} {k : Nat} {σ : Store}
noncomputable def dress6 : List (List Nat) := [[], [92, 40], [34, 41, 34], [92, 92], [92, 34], [34, 40, 92, 34, 34]]
noncomputable def dressAt (n i : Nat) : List Nat := dress6.getD (n / 512 / 6 ^ i % 6) []
noncomputable def opens (pr n i : Nat) (h : Int) (o : Nat) : Bool := decide (o < pr) && (2 * n / 2 ^ i % 2 == 0 || h == 0)
noncomputable def pcsL (pr n : Nat) : Nat → Nat → Int → Nat → List (List Nat)
  | 0, _, _, _ => []
  | k + 1, i, h, o => if opens pr n i h o = true then (40 :: dressAt n i) :: pcsL pr n k (i + 1) (h + 1) (o + 1) else (41 :: dressAt n i) :: pcsL pr n k (i + 1) (h - 1) o
theorem pcsL_1 (pr n : Nat) : ∀ w1 w2 w3, pcsL pr n 0 w1 w2 w3 = ([]) := by intros; rfl
theorem pcsL_2 (pr n : Nat) : ∀ k i h o, pcsL pr n (k + 1) i h o = (if opens pr n i h o = true then (40 :: dressAt n i) :: pcsL pr n k (i + 1) (h + 1) (o + 1) else (41 :: dressAt n i) :: pcsL pr n k (i + 1) (h - 1) o) := by intros; rfl
noncomputable def piecesF (pr n : Nat) : List (List Nat) := pcsL pr n (2 * pr) 0 0 0
theorem fdivN (a b : Nat) : ((a : Int)).fdiv (b : Int) = ((a / b : Nat) : Int) := by
  rw [Int.fdiv_eq_ediv_of_nonneg _ (by (first | lia | omega))]; rfl
theorem fmodN (a b : Nat) : ((a : Int)).fmod (b : Int) = ((a % b : Nat) : Int) := by
  rw [Int.fmod_eq_emod_of_nonneg _ (by (first | lia | omega))]; rfl
theorem powN (b i : Nat) : (b : Int) ^ ((i : Nat) : Int).toNat = ((b ^ i : Nat) : Int) := by rw [Int.toNat_natCast]; push_cast; rfl
theorem dress_at (n i : Nat) : (dress6.map strPV)[n / 512 / 6 ^ i % 6]? = some (.str (S (dressAt n i))) ∧ (dressAt n i).length ≤ 5 := by
  have hb : n / 512 / 6 ^ i % 6 < 6 := Nat.mod_lt _ (by decide)
  unfold dressAt
  generalize n / 512 / 6 ^ i % 6 = j at hb
  rcases j with _ | _ | _ | _ | _ | _ | j
  iterate 6 exact ⟨rfl, by decide⟩
  exact absurd hb (Nat.not_lt.mpr (Nat.le_add_left 6 j))
inductive PcsI (σ₁ : Store) (r0 r : Addr) (pr n : Nat) (m : Nat) (it : It) (ρ : List (Option PV)) (τ : Store) : Prop
  | mk (i : Nat) (acc : List (List Nat)) (h : Int) (o : Nat) (o1 o2 o3 : Option PV) (_ : it = .seq ((rngInts ((i : Nat) : Int) 1 m).map .int)) (_ : i + m = 2 * pr)
      (_ : ρ = [some (.int (pr : Int)), some (.int (n : Int)), some (.lst r0), some (.lst r), some (.int h), some (.int ((o : Nat) : Int)), o1, o2, o3]) (_ : τ = Store.set σ₁ r (acc.map strPV)) (_ : acc.length = i) (_ : acc ++ pcsL pr n m i h o = piecesF pr n) : PcsI σ₁ r0 r pr n m it ρ τ
inductive PcsR (σ₁ : Store) (r0 r : Addr) (pr n i m : Nat) (acc : List (List Nat)) (ρ : List (Option PV)) (τ : Store) : Prop
  | mk (b : Nat) (h : Int) (o : Nat) (fg : Option PV) (_ : ρ = [some (.int (pr : Int)), some (.int (n : Int)), some (.lst r0), some (.lst r), some (.int h), some (.int ((o : Nat) : Int)), some (.int ((i : Nat) : Int)), fg, some (.str (S [b]))])
      (_ : τ = Store.set σ₁ r (acc.map strPV)) (_ : acc ++ (b :: dressAt n i) :: pcsL pr n m (i + 1) h o = piecesF pr n) : PcsR σ₁ r0 r pr n i m acc ρ τ
noncomputable abbrev pNs : List Str := [Str.ofString "pairs", Str.ofString "code", Str.ofString "dresses", Str.ofString "pieces", Str.ofString "height", Str.ofString "opened", Str.ofString "place", Str.ofString "figure", Str.ofString "bracket"]
theorem W_pieces (hX : LawX X) {pr n : Nat} (hpr : pr ≤ 5) : ∀ L, EX X (k + 9) ([Str.ofString "pairs", Str.ofString "code"] ++ pNs.drop 2) (callEnvC (fd__law_pieces X.w.params) L 92) (bodyOf (fd__law_pieces X.w.params)) ([.int (pr : Int), .int (n : Int)].map some ++ List.replicate 7 none) σ
   (QN σ ((piecesF pr n).map strPV)) := by
  intro L
  have hS := EnvS.of (ns := pNs) (gs := [Str.ofString "range"]) (fd := fd__law_pieces X.w.params) rfl rfl rfl rfl (by kernel_rfl) L 92
  have hD : NoDbg pNs ([Str.ofString "range"]) := NoDbg.of (by kernel_rfl)
  simp only [pNs, List.drop, List.cons_append, List.nil_append, List.map_cons, List.map_nil, List.replicate] at hS hD ⊢
  have q1 : Str.ofString "(" = S [40] := by decide +kernel
  have q2 : Str.ofString ")" = S [41] := by decide +kernel
  refine EX.cons ?_
  k_extra "m_go"
  refine ⟨by simp [sizeLine], fun r0 hr0 => ?_⟩
  have hd6 : (Store.set σ r0 [PV.str (Str.ofString ""), .str (Str.ofString "\\("), .str (Str.ofString "\")\""), .str (Str.ofString "\\\\"), .str (Str.ofString "\\\""), .str (Str.ofString "\"(\\\"\"")]) = Store.set σ r0 (dress6.map strPV) := by
    have e0 : Str.ofString "" = S [] := by decide +kernel
    have e1 : Str.ofString "\\(" = S [92, 40] := by decide +kernel
    have e2 : Str.ofString "\")\"" = S [34, 41, 34] := by decide +kernel
    have e3 : Str.ofString "\\\\" = S [92, 92] := by decide +kernel
    have e4 : Str.ofString "\\\"" = S [92, 34] := by decide +kernel
    have e5 : Str.ofString "\"(\\\"\"" = S [34, 40, 92, 34, 34] := by decide +kernel
    rw [e0, e1, e2, e3, e4, e5]; rfl
  rw [hd6]
  have hr0' : (Store.set σ r0 (dress6.map strPV)) r0 = some (dress6.map strPV) := Store.set_same
  have hE0 : Ext σ (Store.set σ r0 (dress6.map strPV)) := Ext.new hr0
  generalize Store.set σ r0 (dress6.map strPV) = σ₁ at hr0' hE0 ⊢
  k_extra "m_go"
  refine ⟨by simp [sizeLine], fun r hr => ?_⟩
  have h0r : r0 ≠ r := fun q => by rw [← q, hr0'] at hr; cases hr
  k_extra "m_go"
  refine ⟨by simp [sizeLine], _, _, _, rfl, ?_⟩
  k_extra "m_go"
  refine EVI.of ?_
  k_extra "m_go"
  refine BIN.mul (IntMulOk.of_left (by decide)) ?_
  k_extra "m_go"
  rw [show (2 : Int) * (pr : Int) = ((2 * pr : Nat) : Int) by push_cast; rfl]
  refine ITER.rng (n := 2 * pr) (range_ok (2 * pr) (by (first | lia | omega))).1 (range_ok (2 * pr) (by (first | lia | omega))).2 ?_
  refine FL.loop (by (first | lia | omega)) (PcsI σ₁ r0 r pr n) ?_ ?_ (2 * pr) _ _ _ ⟨0, [], 0, 0, none, none, none, rfl, by (first | lia | omega), rfl, rfl, rfl, rfl⟩
  · rintro it ρ τ ⟨i, acc, h, o, o1, o2, o3, rfl, hn, rfl, rfl, hl, hf⟩
    refine ⟨.seqE, ?_⟩
    k_extra "m_go"
    refine ⟨r, rfl, hE0.none hr, ?_, hE0.trans (Ext.new hr)⟩
    rw [Store.set_same, ← hf]; simp [pcsL_1, pcsL_2]
  · rintro m it ρ τ ⟨i, acc, h, o, o1, o2, o3, rfl, hn, rfl, rfl, hl, hf⟩
    have hi : i < 10 := by (first | lia | omega)
    obtain ⟨hdx, hdl⟩ := dress_at n i
    have b2 : (Builtin.Int.intBits 2 : Int) = 2 := by decide +kernel
    have b6 : (Builtin.Int.intBits 6 : Int) = 3 := by decide +kernel
    have p2 : 0 < 2 ^ i ∧ 2 ^ i ≤ 2 ^ 9 := ⟨Nat.pow_pos (by decide), Nat.pow_le_pow_right (by decide) (by (first | lia | omega))⟩
    have p6 : 0 < 6 ^ i ∧ 6 ^ i ≤ 6 ^ 9 := ⟨Nat.pow_pos (by decide), Nat.pow_le_pow_right (by decide) (by (first | lia | omega))⟩
    simp only [pcsL_1, pcsL_2] at hf
    refine ⟨.int ((i : Nat) : Int), .seq ((rngInts ((i : Nat) + 1 : Int) 1 m).map .int), .seq, .inl (by simp), ?_⟩
    k_extra "m_go"
    refine BIN.mul (IntMulOk.of_left (by decide)) ?_
    k_extra "m_go"
    refine BIN.pow (by (first | lia | omega)) (by rw [b2]; (first | lia | omega)) ?_
    rw [show (2 : Int) ^ ((i : Nat) : Int).toNat = ((2 ^ i : Nat) : Int) from powN 2 i, show (2 : Int) * (n : Int) = ((2 * n : Nat) : Int) by push_cast; rfl]
    refine BIN.fdiv (by (first | lia | omega)) (PyProof.noPylong_small (by (first | lia | omega))) ?_
    k_extra "m_go"
    refine BIN.mod (by decide) ?_
    rw [fdivN, show (2 : Int) = ((2 : Nat) : Int) from rfl, fmodN]
    k_extra "m_gs"
    refine EX.cons ?_
    refine EX1.join (PcsR σ₁ r0 r pr n i m acc) ?_ ?_
    · k_extra "m_gs"
      by_cases ho : o < pr
      · refine iteT (by simp; (first | lia | omega)) ?_
        k_extra "m_gs"
        by_cases hfg : 2 * n / 2 ^ i % 2 = 0
        · have hop : opens pr n i h o = true := by simp [opens, ho, hfg]
          rw [hop, if_pos rfl] at hf
          refine iteT (by rw [hfg]; rfl) ?_
          refine iteT rfl ?_
          k_extra "m_gs"
          refine iteT rfl ?_
          refine EX.cons ?_
          k_extra "m_gs"
          refine ⟨by simp [sizeLine], _, _, _, rfl, ?_⟩
          rw [q1]
          k_extra "m_gs"
          exact ⟨rfl, 40, h + 1, o + 1, _, by push_cast; rfl, rfl, hf⟩
        · refine iteF (by rw [beq_eq_false_iff_ne]; (first | lia | omega)) ?_
          k_extra "m_gs"
          by_cases hh : h = 0
          · have hop : opens pr n i h o = true := by simp [opens, ho, hh]
            rw [hop, if_pos rfl] at hf
            refine iteT (by rw [hh]; rfl) ?_
            refine iteT rfl ?_
            k_extra "m_gs"
            refine iteT rfl ?_
            refine EX.cons ?_
            k_extra "m_gs"
            refine ⟨by simp [sizeLine], _, _, _, rfl, ?_⟩
            rw [q1]
            k_extra "m_gs"
            exact ⟨rfl, 40, h + 1, o + 1, _, by push_cast; rfl, rfl, hf⟩
          · have hop : opens pr n i h o = false := by simp [opens, ho, hh, hfg]
            rw [hop, if_neg Bool.false_ne_true] at hf
            refine iteF (by simpa using hh) ?_
            k_extra "m_gs"
            refine iteF rfl ?_
            refine iteF rfl ?_
            refine EX.cons ?_
            k_extra "m_gs"
            refine ⟨by simp [sizeLine], _, _, rfl, ?_⟩
            rw [q2]
            k_extra "m_gs"
            exact ⟨rfl, 41, h - 1, o, _, rfl, rfl, hf⟩
      · have hop : opens pr n i h o = false := by simp [opens, ho]
        rw [hop, if_neg Bool.false_ne_true] at hf
        refine iteF (by simp; (first | lia | omega)) ?_
        refine iteF rfl ?_
        refine EX.cons ?_
        k_extra "m_gs"
        refine ⟨by simp [sizeLine], _, _, rfl, ?_⟩
        rw [q2]
        k_extra "m_gs"
        exact ⟨rfl, 41, h - 1, o, _, rfl, rfl, hf⟩
    · rintro ρ' τ' ⟨b, h', o', fg, rfl, rfl, hf⟩
      have h0' : (Store.set σ₁ r (acc.map strPV)) r0 = some (dress6.map strPV) := by rw [Store.set_ne h0r]; exact hr0'
      k_extra "m_go"
      refine ⟨.lst Store.set_same, ?_⟩
      k_extra "m_go"
      refine BIN.fdiv (by decide) (PyProof.noPylong_small (by decide)) ?_
      k_extra "m_go"
      refine BIN.pow (by (first | lia | omega)) (by rw [b6]; (first | lia | omega)) ?_
      rw [show (6 : Int) ^ ((i : Nat) : Int).toNat = ((6 ^ i : Nat) : Int) from powN 6 i]
      refine BIN.fdiv (by (first | lia | omega)) (PyProof.noPylong_small (by (first | lia | omega))) ?_
      k_extra "m_go"
      refine BIN.mod (by decide) ?_
      rw [show (512 : Int) = ((512 : Nat) : Int) from rfl, fdivN, fdivN, show (6 : Int) = ((6 : Nat) : Int) from rfl, fmodN]
      refine ⟨⟨_, .lst h0'⟩, GETI.lst h0' (by (first | lia | omega)) (by (first | lia | omega)) (by rw [Int.toNat_natCast]; exact hdx) ?_⟩
      refine BIN.addS (by rw [S_len, S_len]; simp [sizeLine]; (first | lia | omega)) ?_
      rw [S_append]
      k_extra "m_go"
      refine CB.append Store.set_same (by simp [sizeLine]; (first | lia | omega)) ?_
      k_extra "m_go"
      exact ⟨i + 1, acc ++ [b :: dressAt n i], _, _, _, _, _, by push_cast; rfl, by (first | lia | omega), rfl, by rw [set_set]; simp [strPV], by simp; (first | lia | omega), by rw [← hf]; simp⟩
theorem C_pieces (hX : LawX X) {pr n : Nat} (hpr : pr ≤ 5) : CALL X (k + 10) (.ref 92) [.int (pr : Int), .int (n : Int)] [] σ fun p σ' => New σ σ' p ((piecesF pr n).map strPV) :=
  CALL.def (bn := [Str.ofString "pairs", Str.ofString "code"]) (rest := pNs.drop 2) (gs := [Str.ofString "range"]) (F__law_pieces hX) rfl
    (BINDS.pos2 fun u v => by kernel_rfl) rfl (EnvS.of rfl rfl rfl rfl (by kernel_rfl) · 92) (okNames.kinds (gs := []) (by kernel_rfl)) (W_pieces hX hpr)
end


open PySem PySem.W PyProof.Rows PySem.Spec PySem.Calls
set_option maxRecDepth 100000
set_option maxHeartbeats 8000000

section
variable {X : Cx} {k : Nat} {σ : Store}
noncomputable def seekF (row : List Int) (v : Int) : Nat → Nat → Option Nat
  | 0, _ => none
  | f + 1, p => if p < row.length then (if row.getD p 0 = v then some p else seekF row v f (p + 1)) else none
theorem seekF_1 (row : List Int) (v : Int) : ∀ w1, seekF row v 0 w1 = (none) := by intros; rfl
theorem seekF_2 (row : List Int) (v : Int) : ∀ f p, seekF row v (f + 1) p = (if p < row.length then (if row.getD p 0 = v then some p else seekF row v f (p + 1)) else none) := by intros; rfl
noncomputable def backL (cl : List Int) : List (List Nat) → List Int → Nat → Int → Int → Option (List Int)
  | [], row, _, _, _ => some row
  | u :: us, row, lv, lf, pl =>
    if pl + 1 < 0 ∨ 100 < pl then none else
    if u = [40] then backL cl us (row.take (pl + 1).toNat ++ [(lv : Int)] ++ row.drop (pl + 1).toNat) lv lf (pl + 1)
    else if lf = 0 then
      (if lv < cl.length ∧ lv < 100 then (match seekF row ((lv + 1 : Nat) - 1 : Int) 50 0 with
        | some q => backL cl us row (lv + 1) (cl.getD lv 0 - 1) q
        | none => none) else none)
    else (match seekF row ((lv : Int) - 1) 50 (pl + 1).toNat with
      | some q => backL cl us row lv (lf - 1) q
      | none => none)
theorem backL_1 (cl : List Int) : ∀ row w1 w2 w3, backL cl [] row w1 w2 w3 = (some row) := by intros; rfl
theorem backL_2 (cl : List Int) : ∀ u us row lv lf pl, backL cl (u :: us) row lv lf pl = (if pl + 1 < 0 ∨ 100 < pl then none else
    if u = [40] then backL cl us (row.take (pl + 1).toNat ++ [(lv : Int)] ++ row.drop (pl + 1).toNat) lv lf (pl + 1)
    else if lf = 0 then
      (if lv < cl.length ∧ lv < 100 then (match seekF row ((lv + 1 : Nat) - 1 : Int) 50 0 with
        | some q => backL cl us row (lv + 1) (cl.getD lv 0 - 1) q
        | none => none) else none)
    else (match seekF row ((lv : Int) - 1) 50 (pl + 1).toNat with
      | some q => backL cl us row lv (lf - 1) q
      | none => none)) := by intros; rfl
theorem pick_rev (xs : List PV) (h : xs.length ≤ 5) : pickL xs none none (some (-1)) = xs.reverse := by
  have key : ∀ n, n < 6 → pickIdx none none (some (-1)) n = (List.range n).reverse := by decide +kernel
  unfold pickL
  rw [key _ (by (first | lia | omega))]
  clear key
  rcases xs with _ | ⟨a, _ | ⟨b, _ | ⟨c, _ | ⟨d, _ | ⟨e, _ | ⟨f, t⟩⟩⟩⟩⟩⟩
  iterate 6 rfl
  exact absurd h (Nat.not_le.mpr (Nat.le_add_left 6 t.length))
inductive BackI (σ : Store) (a ac r su : Addr) (cl : List Int) (us : List (List Nat)) (fin : List Int) (n : Nat) (it : It) (ρ : List (Option PV)) (τ : Store) : Prop
  | mk (i : Nat) (row : List Int) (lv : Nat) (lf pl : Int) (o : Option PV) (_ : it = .lst su i) (_ : i + n = us.length) (_ : ρ = [some (.lst a), some (.lst ac), some (.lst r), some (.int ((lv : Nat) : Int)), some (.int lf), some (.int pl), o])
      (_ : Ext σ τ) (_ : τ r = some (row.map .int)) (_ : τ su = some (us.map strPV)) (_ : row.length ≤ 20 + i) (_ : backL cl (us.drop i) row lv lf pl = some fin) : BackI σ a ac r su cl us fin n it ρ τ
inductive BackR (τ : Store) (a ac r : Addr) (cl : List Int) (us : List (List Nat)) (row : List Int) (u : List Nat) (fin : List Int) (ρ : List (Option PV)) (τ' : Store) : Prop
  | mk (lv : Nat) (lf : Int) (p q : Nat) (_ : ρ = [some (.lst a), some (.lst ac), some (.lst r), some (.int ((lv : Nat) : Int)), some (.int lf), some (.int ((p : Nat) : Int)), some (.str (S u))]) (_ : τ' = τ) (_ : seekF row ((lv : Int) - 1) 50 p = some q) (_ : p ≤ 101) (_ : backL cl us row lv (lf - 1) q = some fin) : BackR τ a ac r cl us row u fin ρ τ'
inductive SeekI (τ : Store) (a ac r : Addr) (row : List Int) (u : List Nat) (lv : Nat) (lf : Int) (q : Nat) (n : Nat) (ρ : List (Option PV)) (τ' : Store) : Prop
  | mk (p : Nat) (_ : ρ = [some (.lst a), some (.lst ac), some (.lst r), some (.int ((lv : Nat) : Int)), some (.int lf), some (.int ((p : Nat) : Int)), some (.str (S u))]) (_ : τ' = τ) (_ : seekF row ((lv : Int) - 1) n p = some q) : SeekI τ a ac r row u lv lf q n ρ τ'
noncomputable abbrev bNs : List Str := [Str.ofString "units", Str.ofString "climbs", Str.ofString "row", Str.ofString "level", Str.ofString "left", Str.ofString "place", Str.ofString "unit"]
theorem W_back (hX : LawX X) {a ac : Addr} {us : List (List Nat)} {cl fin : List Int} {c0 : Nat} (ha : σ a = some (us.map strPV)) (hac : σ ac = some (cl.map .int)) (hus : us.length ≤ 20) (hcl : cl.length ≤ 100) (hc0 : cl.getD 0 0 = (c0 : Int)) (hcn : 0 < cl.length) (hc20 : c0 ≤ 20)
    (hB : backL cl (us.drop c0) (List.replicate c0 0) 0 0 (-1) = some fin) (hfl : fin.length ≤ 5) : ∀ L, EX X (k + 9) ([Str.ofString "units", Str.ofString "climbs"] ++ bNs.drop 2) (callEnvC (fd__law_back X.w.params) L 128) (bodyOf (fd__law_back X.w.params)) ([.lst a, .lst ac].map some ++ List.replicate 5 none) σ
   (QN σ (fin.reverse.map .int)) := by
  intro L
  have hS := EnvS.of (ns := bNs) (gs := []) (fd := fd__law_back X.w.params) rfl rfl rfl rfl (by kernel_rfl) L 128
  have hD : NoDbg bNs ([]) := NoDbg.of (by kernel_rfl)
  simp only [bNs, List.drop, List.cons_append, List.nil_append, List.map_cons, List.map_nil, List.replicate] at hS hD ⊢
  have q1 : Str.ofString "(" = S [40] := by decide +kernel
  have hx0 : (cl.map PV.int)[(0 : Int).toNat]? = some (.int (c0 : Int)) := by rw [← hc0]; exact getD_at hcn
  refine EX.cons ?_
  k_extra "m_go"
  refine ⟨by simp [sizeLine], fun r0 hr0 => ?_⟩
  k_extra "m_go"
  have hE0 : Ext σ (Store.set σ r0 [.int 0]) := Ext.new hr0
  have h00 : (Store.set σ r0 [PV.int 0]) r0 = some [.int 0] := Store.set_same
  generalize Store.set σ r0 [PV.int 0] = σ₀ at hE0 h00 ⊢
  refine ⟨⟨_, .lst (hE0 _ _ hac)⟩, GETI.lst (hE0 _ _ hac) (by decide) (by decide) hx0 ?_⟩
  refine BIN.mulL h00 (by (first | lia | omega)) (by simp) fun r hr => ?_
  have hrn : σ r = none := hE0.none hr
  have hrep : (List.replicate c0 [PV.int 0]).flatten = (List.replicate c0 (0 : Int)).map PV.int := by
    generalize c0 = m
    induction m with
    | zero => rfl
    | succ m ih => rw [List.replicate_succ, List.flatten_cons, ih]; simp [List.replicate_succ]
  rw [hrep]
  have hE1 : Ext σ (Store.set σ₀ r ((List.replicate c0 (0 : Int)).map .int)) := Ext.upd hrn hE0
  have h1r : (Store.set σ₀ r ((List.replicate c0 (0 : Int)).map .int)) r = some ((List.replicate c0 (0 : Int)).map .int) := Store.set_same
  generalize Store.set σ₀ r ((List.replicate c0 (0 : Int)).map .int) = σ₁ at hE1 h1r ⊢
  k_extra "m_go"
  refine ⟨by simp [sizeLine], ?_⟩
  k_extra "m_go"
  refine EVI.of ?_
  k_extra "m_slL"
  k_extra "m_go"
  refine ⟨⟨_, .lst (hE1 _ _ hac)⟩, GETI.lst (hE1 _ _ hac) (by decide) (by decide) hx0 ?_⟩
  k_extra "m_go"
  refine ⟨.lst (hE1 _ _ ha), SLI.lst (lo := some (c0 : Int)) (hi := none) (sp := none) (hE1 _ _ ha) rfl rfl rfl (by simp) (by simp [sizeLine]; (first | lia | omega)) fun su hsu => ?_⟩
  rw [pickL_plain, cut_from, ← List.map_drop]
  have hsn : σ su = none := hE1.none hsu
  have hrs : r ≠ su := fun q => by rw [← q, h1r] at hsu; cases hsu
  have hE2 : Ext σ (Store.set σ₁ su ((us.drop c0).map strPV)) := hE1.trans (Ext.new hsu)
  have h2r : (Store.set σ₁ su ((us.drop c0).map strPV)) r = some ((List.replicate c0 (0 : Int)).map .int) := by rw [Store.set_ne hrs]; exact h1r
  have h2s : (Store.set σ₁ su ((us.drop c0).map strPV)) su = some ((us.drop c0).map strPV) := Store.set_same
  generalize Store.set σ₁ su ((us.drop c0).map strPV) = σ₂ at hE2 h2r h2s ⊢
  have hul : (us.drop c0).length ≤ 20 := by simp; (first | lia | omega)
  generalize us.drop c0 = vs at hB h2s hul ⊢
  refine ITER.lst h2s ?_
  refine FL.loop (by (first | lia | omega)) (BackI σ a ac r su cl vs fin) ?_ ?_ vs.length _ _ _ ⟨0, List.replicate c0 0, 0, 0, -1, none, rfl, by simp, rfl, hE2, h2r, h2s, by simp; (first | lia | omega), hB⟩
  · rintro it ρ τ ⟨i, row, lv, lf, pl, o, rfl, hn, rfl, hE, hr', hs', hl, hb⟩
    refine ⟨Nxt.lstE' hs' (by simp; (first | lia | omega)), ?_⟩
    rw [List.drop_eq_nil_of_le (by (first | lia | omega))] at hb
    simp only [backL_1, backL_2, Option.some.injEq] at hb
    subst hb
    k_extra "m_go"
    refine ⟨.lst hr', SLI.lst (lo := none) (hi := none) (sp := some (-1)) hr' rfl rfl rfl (by simp) (by simp [sizeLine]; (first | lia | omega)) fun D hDn => ?_⟩
    rw [pick_rev _ (by simpa using hfl), ← List.map_reverse]
    exact ⟨D, rfl, hE.none hDn, Store.set_same, hE.trans (Ext.new hDn)⟩
  · rintro n it ρ τ ⟨i, row, lv, lf, pl, o, rfl, hn, rfl, hE, hr', hs', hl, hb⟩
    have hi : i < vs.length := by (first | lia | omega)
    rw [List.drop_eq_getElem_cons hi] at hb
    have hx : (vs.map strPV)[i]? = some (.str (S vs[i])) := by simp [hi, strPV]
    generalize vs[i] = u at hb hx
    simp only [backL_1, backL_2] at hb
    have hpl : ¬ (pl + 1 < 0 ∨ 100 < pl) := fun q => by rw [if_pos q] at hb; cases hb
    rw [if_neg hpl] at hb
    have hp0 : 0 ≤ pl + 1 := by (first | lia | omega)
    have hp1 : pl ≤ 100 := by (first | lia | omega)
    obtain ⟨p, hp⟩ : ∃ p : Nat, pl + 1 = (p : Int) := ⟨(pl + 1).toNat, (Int.toNat_of_nonneg hp0).symm⟩
    rw [hp, Int.toNat_natCast] at hb
    refine ⟨.str (S u), _, .lst hs' hx, .inl (by simp), ?_⟩
    k_extra "m_go"
    rw [hp, q1, S_beq]
    by_cases h1 : u = [40]
    · rw [if_pos h1] at hb
      refine iteT (by simpa using h1) ?_
      k_extra "m_go"
      refine ⟨.lst hr', ?_⟩
      k_extra "m_go"
      refine CB.insert hr' (Int.natCast_nonneg _) (by (first | lia | omega)) (by simp [sizeLine]; (first | lia | omega)) ?_
      k_extra "m_go"
      have hins : (row.map PV.int).take ((p : Nat) : Int).toNat ++ [.int (lv : Int)] ++ (row.map PV.int).drop ((p : Nat) : Int).toNat = (row.take p ++ [(lv : Int)] ++ row.drop p).map PV.int := by
        rw [Int.toNat_natCast]; simp [List.map_take, List.map_drop]
      rw [hins]
      exact ⟨i + 1, _, lv, lf, _, _, rfl, by (first | lia | omega), rfl, Ext.upd hrn hE, Store.set_same, by rw [Store.set_ne (Ne.symm hrs)]; exact hs', by rw [ins_len]; exact Nat.succ_le_succ hl, hb⟩
    · rw [if_neg h1] at hb
      refine iteF (by simpa using h1) ?_
      k_extra "m_gs"
      refine EX.cons ?_
      refine EX1.join (BackR τ a ac r cl (vs.drop (i + 1)) row u fin) ?_ ?_
      · k_extra "m_gs"
        by_cases h2 : lf = 0
        · rw [if_pos h2] at hb
          refine iteT (by rw [h2]; rfl) ?_
          have hlv : lv < cl.length ∧ lv < 100 := by
            rcases Decidable.em (lv < cl.length ∧ lv < 100) with h | h
            · exact h
            · rw [if_neg h] at hb; cases hb
          rw [if_pos hlv] at hb
          refine EX.cons ?_
          k_extra "m_gs"
          refine ⟨⟨_, .lst (hE _ _ hac)⟩, GETI.ints (hE _ _ hac) hlv.1 (by (first | lia | omega)) ?_⟩
          k_extra "m_gs"
          refine ⟨by simp [sizeLine], _, _, _, rfl, ?_⟩
          k_extra "m_gs"
          cases hsk : seekF row ((lv + 1 : Nat) - 1 : Int) 50 0 with
          | none => rw [hsk] at hb; cases hb
          | some q =>
            rw [hsk] at hb
            exact ⟨rfl, lv + 1, cl.getD lv 0, 0, q, by push_cast; rfl, rfl, hsk, by (first | lia | omega), hb⟩
        · rw [if_neg h2] at hb
          refine iteF (by simpa using h2) ?_
          k_extra "m_gs"
          cases hsk : seekF row ((lv : Int) - 1) 50 p with
          | none => rw [hsk] at hb; cases hb
          | some q =>
            rw [hsk] at hb
            exact ⟨rfl, lv, lf, p, q, rfl, rfl, hsk, by (first | lia | omega), hb⟩
      · rintro ρ' τ' ⟨lv', lf', p', q, rfl, rfl, hsk, hpq, hb'⟩
        k_extra "m_go"
        refine WH.loop (SeekI τ' a ac r row u lv' (lf' - 1) q) ?_ 50 _ _ ⟨p', rfl, rfl, hsk⟩
        rintro m ρ τ ⟨p, rfl, rfl, hsk⟩
        k_extra "m_go"
        cases m with
        | zero => simp [seekF_1, seekF_2] at hsk
        | succ m =>
        simp only [seekF_1, seekF_2] at hsk
        by_cases hpr : p < row.length
        · rw [if_pos hpr] at hsk
          refine ⟨⟨_, .lst hr'⟩, GETI.ints hr' hpr (by (first | lia | omega)) ?_⟩
          k_extra "m_go"
          by_cases hv : row.getD p 0 = (lv' : Int) - 1
          · rw [if_pos hv] at hsk
            cases hsk
            refine iteF (by rw [hv]; simp) ?_
            k_extra "m_go"
            exact ⟨i + 1, row, lv', _, _, _, rfl, by (first | lia | omega), rfl, hE, hr', hs', by (first | lia | omega), hb'⟩
          · rw [if_neg hv] at hsk
            refine iteT (by simpa using hv) ?_
            k_extra "m_go"
            exact ⟨m, Nat.lt_succ_self _, p + 1, by push_cast; rfl, rfl, hsk⟩
        · rw [if_neg hpr] at hsk; cases hsk
theorem C_back (hX : LawX X) {a ac : Addr} {us : List (List Nat)} {cl fin : List Int} {c0 : Nat} (ha : σ a = some (us.map strPV)) (hac : σ ac = some (cl.map .int)) (hus : us.length ≤ 20) (hcl : cl.length ≤ 100) (hc0 : cl.getD 0 0 = (c0 : Int)) (hcn : 0 < cl.length) (hc20 : c0 ≤ 20)
    (hB : backL cl (us.drop c0) (List.replicate c0 0) 0 0 (-1) = some fin) (hfl : fin.length ≤ 5) : CALL X (k + 10) (.ref 128) [.lst a, .lst ac] [] σ fun p σ' => New σ σ' p (fin.reverse.map .int) :=
  CALL.def (bn := [Str.ofString "units", Str.ofString "climbs"]) (rest := bNs.drop 2) (gs := []) (F__law_back hX) rfl
    (BINDS.pos2 fun u v => by kernel_rfl) rfl (EnvS.of rfl rfl rfl rfl (by kernel_rfl) · 128) (okNames.kinds (gs := []) (by kernel_rfl)) (W_back hX ha hac hus hcl hc0 hcn hc20 hB hfl)
end


open PySem PySem.W PyProof.Rows PySem.Spec PySem.Calls
set_option maxRecDepth 100000
set_option maxHeartbeats 8000000

section
variable {X : Cx} {k : Nat} {σ : Store}
theorem CMP.neLS {a b : Addr} {xs : List (List Nat)} {Q : PV → Store → Prop} (ha : σ a = some (xs.map strPV)) (hb : σ b = some (xs.map strPV)) (hk : 2 ≤ k) (hq : Q (.bool false) σ) : CMP X k .NotEq (.lst a) (.lst b) σ Q := by
  intro A s vs Q' E R M r hQ
  obtain ⟨v, w, rfl, r1, r2⟩ := r.two; cases r1; cases r2
  obtain ⟨us, hp, r⟩ := M.lists _ _ ha
  obtain ⟨us2, hp2, r2⟩ := M.lists _ _ hb
  show wpAny _ A (compareOp .NotEq (.ref a) (.ref b)) Q' E s
  have hu : A.units < cLine := by have := R.units; simp only [cLine]; (first | lia | omega)
  have h1 : xs.length = us.length := by simpa using r.1
  have h2 : xs.length = us2.length := by simpa using r2.1
  have key := SeqAt.RcNeAt.lists (A := A) (e := fun _ => true) hp.isList hp2.isList (by simp; (first | lia | omega)) hu (fun j h1' h2' => by
    have hj : j < xs.length := by simp at h1'; (first | lia | omega)
    have e1 := r.2 j (strPV xs[j]) us[j] (by simp [hj]) (by simp [show j < us.length by (first | lia | omega)])
    have e2 := r2.2 j (strPV xs[j]) us2[j] (by simp [hj]) (by simp [show j < us2.length by (first | lia | omega)])
    show SeqAt.EqAt A.in1 s us[j] us2[j] true
    generalize us[j] = v at e1
    generalize us2[j] = u at e2
    cases e1; cases e2
    have := SeqAt.EqAt.str_str (A := A.in1) (s := s) (S xs[j])
    rename_i t1 t2
    have h3 := this t1 (S xs[j]) t2
    rw [beq_self_eq_true] at h3
    exact h3)
  refine key X.prog X.w E Q' ?_
  have : (!(List.range us.toArray.size).all fun _ => true) = false := by simp
  rw [this]
  exact KV.same hQ M hq (.bool _)
section
variable {ns : List Str} {env : Env} {ρ : List (Option PV)} {Q : PV → Store → Prop}
theorem EV.and3 {x y z : Expr} {pos : Pos} (h : EV X k ns env x ρ σ (kAnd2 X k ns env (.BoolOp .And [y, z] pos) ρ Q)) : EV X k ns env (.BoolOp .And [x, y, z] pos) ρ σ Q := by
  intro A s Q' E R M e hQ
  show wpAny _ A (do
    let v ← eval x env
    standAt pos
    let t ← holding [v] (truthy v)
    match BoolOp.And, t with
    | .And, false | .Or, true => pure v
    | _, _ => eval (.BoolOp .And [y, z] pos) env) Q' E s
  refine wpAny_bind (h A s _ E R M e fun a σ₁ v₁ s₁ h₁ M₁ r₁ t₁ => wpAny_bind (wpAny_standAt (wpAny_bind (wpAny_holding ?_))))
  refine h₁ A s₁ [v₁] _ E R M₁ (.cons r₁ .nil) fun c σ₂ s₂ h₂ M₂ t₂ => ?_
  cases c with
  | true => exact h₂ A s₂ Q' E R M₂ (e.tr0 M (t₁.trans t₂)) fun p σ₃ v₃ s₃ q M₃ r₃ t₃ => hQ _ _ _ _ q M₃ r₃ ((t₁.trans t₂).trans t₃)
  | false => exact wpAny_pure (hQ _ _ _ _ h₂ M₂ (r₁.tr0 M₁ t₂) (t₁.trans t₂))
end
end


open PySem PySem.W PyProof.Rows PySem.Spec PySem.Calls
set_option maxRecDepth 100000
set_option maxHeartbeats 8000000

section
variable {X : Cx} {k : Nat} {σ : Store}
noncomputable def headsF (ps : List (List Nat)) : List (List Nat) := ps.map fun p => [p.getD 0 0]
structure Sw (ps lp us ts : List (List Nat)) (h1 h2 low climbs seen : List Int) (like higher ahead : Int) (n0 c0 : Nat) (bk : List Int) : Prop where
  f_lp : laidF upP ps = lp
  f_psz : ps.length ≤ 20
  f_lsz : lp.length ≤ 20
  f_ne : ∀ p ∈ ps, p ≠ []
  f_pl : ∀ p ∈ ps, p.length ≤ 100
  f_lne : ∀ p ∈ lp, p ≠ []
  f_t1 : ps.flatten.length ≤ 1000
  f_t2 : lp.flatten.length ≤ 1000
  f_s1 : (stripF ps.flatten).length ≤ 10000
  f_s2 : (stripF lp.flatten).length ≤ 10000
  f_us : readF ps.flatten = us
  f_ts : readF lp.flatten = ts
  f_hu : us = headsF ps
  f_ht : ts = headsF lp
  f_c1 : checkF ps.flatten = true
  f_c2 : checkF lp.flatten = true
  f_h1 : heightsF us = h1
  f_h2 : heightsF ts = h2
  f_l1 : h1.length ≤ 5
  f_l2 : h2.length ≤ 5
  f_n0 : n0 ≤ 20
  f_bt : ballT h2 n0 [] = true
  f_bl : ballL h2 n0 [] [] 0 = (low, climbs, ahead)
  f_cn : cntL h1 [] 0 0 = (like, higher, seen)
  f_snl : seen.length ≤ 100
  f_cll : climbs.length ≤ 20
  f_w0 : okW (List.replicate h1.length 0) = true
  f_w1 : okW low = true
  f_w2 : okW h2 = true
  f_w3 : okW h1 = true
  f_d0 : (wordF (List.replicate h1.length 0)).length ≤ 40
  f_d1 : (wordF low).length ≤ 40
  f_d2 : (wordF h2).length ≤ 40
  f_d3 : (wordF h1).length ≤ 40
  f_e1 : levF (wordF (List.replicate h1.length 0)) (wordF low) (wordF (List.replicate h1.length 0)).length = like
  f_e2 : levF (wordF low) (wordF h2) (wordF (List.replicate h1.length 0)).length = higher
  f_e3 : levF (wordF (List.replicate h1.length 0)) (wordF h2) (wordF (List.replicate h1.length 0)).length = like + higher
  f_e4 : levF (wordF h1) (wordF (List.replicate h1.length 0)) (wordF (List.replicate h1.length 0)).length = ahead
  f_ct : ((List.range climbs.length).map fun (h : Nat) => ((brI seen (h : Int) : Int) - (blI seen (h : Int) : Int))) = climbs
  f_cz : climbs.getD 0 0 = (c0 : Int)
  f_cp : 0 < climbs.length
  f_cl : c0 ≤ 20
  f_bk : backL climbs (ts.drop c0) (List.replicate c0 0) 0 0 (-1) = some bk
  f_bl5 : bk.length ≤ 5
  f_be : bk.reverse = h1

inductive SwE (ps : List (List Nat)) : Prop
  | mk (lp us ts : List (List Nat)) (h1 h2 low climbs seen : List Int) (like higher ahead : Int) (n0 c0 : Nat) (bk : List Int) (h : Sw ps lp us ts h1 h2 low climbs seen like higher ahead n0 c0 bk) : SwE ps
inductive HeadI (τ : Store) (a D : Addr) (ps : List (List Nat)) (n : Nat) (it : It) (τ' : Store) : Prop
  | mk (i : Nat) (_ : it = .lst a i) (_ : i + n = ps.length) (_ : τ' = Store.set τ D (((headsF ps).take i).map strPV)) : HeadI τ a D ps n it τ'
theorem head_at {c : Nat} {cs : List Nat} : (seqIndex? (0 : Int) (c :: cs).length).bind ((c :: cs)[·]?) = some c := pos_idx (x := c :: cs) (i := 0) (by simp)
theorem LCI_heads {env : Env} {scope : Scope} {p1 p2 p3 p4 : Pos} {kk : Nat} {a : Addr} {ps : List (List Nat)} {Qf : Addr → Store → Prop} (ha : σ a = some (ps.map strPV)) (hne : ∀ p ∈ ps, p ≠ []) (hsz : ps.length ≤ 100)
    (hk : ∀ C, (compEnvC scope (capL scope env) C env).kindOf (Str.ofString "piece") = some .local)
    (hq : ∀ D, σ D = none → Qf D (Store.set σ D ((headsF ps).map strPV))) :
    LCI X (k + 9) env scope [] [Str.ofString "piece"] [] [] (.Subscript (.Name (Str.ofString "piece") p1) (.Constant (.int 0) kk p2) p3) (.Name (Str.ofString "piece") p4) [] (.lst a 0) σ Qf := by
  intro D hD0
  have haD : a ≠ D := fun q => by rw [← q, ha] at hD0; cases hD0
  have hl : (headsF ps).length = ps.length := by simp [headsF]
  refine ⟨HeadI σ a D ps, ps.length, ⟨0, rfl, by (first | lia | omega), rfl⟩, ?_, ?_⟩
  · rintro it τ ⟨i, rfl, hn, rfl⟩
    refine ⟨Nxt.lstE' (by rw [Store.set_ne haD]; exact ha) (by simp; (first | lia | omega)), ?_⟩
    rw [List.take_of_length_le (by (first | lia | omega))]
    exact hq D hD0
  · intro C hS' n it τ hi
    have hD' : NoDbg [Str.ofString "piece"] [] := NoDbg.of (by kernel_rfl)
    simp only [List.cons_append, List.nil_append, List.map_cons, List.map_nil, List.replicate, List.length_cons, List.length_nil] at hS' ⊢
    obtain ⟨i, rfl, hn, rfl⟩ := hi
    have hi : i < ps.length := by (first | lia | omega)
    have hx : (ps.map strPV)[i]? = some (.str (S ps[i])) := by simp [hi, strPV]
    have hp := hne _ (List.getElem_mem hi)
    have ht : (headsF ps).take (i + 1) = (headsF ps).take i ++ [[ps[i].getD 0 0]] := by
      rw [List.take_succ_eq_append_getElem (by (first | lia | omega))]; simp [headsF]
    generalize ps[i] = p at hx hp ht
    obtain ⟨c, cs, rfl⟩ : ∃ c cs, p = c :: cs := by
      cases p with
      | nil => exact absurd rfl hp
      | cons c cs => exact ⟨c, cs, rfl⟩
    refine ⟨.str (S (c :: cs)), .lst a (i + 1), .lst (by rw [Store.set_ne haD]; exact ha) hx, .inl (by simp), ?_⟩
    refine ASGL.name hS' (hk C) (by k_extra "m_put") ?_
    refine ⟨by k_extra "m_weak", IFS.nil (iteT rfl ?_)⟩
    k_extra "m_go"
    refine ⟨⟨_, .str⟩, GETI.str (c := c) (by (first | lia | omega)) head_at ?_⟩
    refine ⟨_, Store.set_same, by simp [sizeLine]; (first | lia | omega), i + 1, rfl, by (first | lia | omega), ?_⟩
    rw [set_set, ht]
    congr 1
    rw [List.map_append]; rfl
noncomputable abbrev sNs : List Str := [Str.ofString "pieces", Str.ofString "laid", Str.ofString "units", Str.ofString "turned", Str.ofString "first", Str.ofString "second", Str.ofString "seen", Str.ofString "low", Str.ofString "climbs", Str.ofString "ahead", Str.ofString "like", Str.ofString "higher", Str.ofString "words", Str.ofString "told", Str.ofString "one", Str.ofString "other", Str.ofString "counts"]
noncomputable abbrev sGs : List Str := [Str.ofString "_law_laid", Str.ofString "_law_read", Str.ofString "_check_parenthesis", Str.ofString "_law_heights", Str.ofString "_law_ball", Str.ofString "_law_counted", Str.ofString "_levenshtein_distance", Str.ofString "len", Str.ofString "range", Str.ofString "_law_back"]
inductive WordsI (τ : Store) (L4 D : Addr) (wl : List (List Nat)) (n : Nat) (it : It) (τ' : Store) : Prop
  | mk (i : Nat) (τ2 : Store) (_ : it = .lst L4 i) (_ : i + n = 4) (_ : Ext τ τ2) (_ : τ2 D = some []) (_ : τ' = Store.set τ2 D ((wl.take i).map strPV)) : WordsI τ L4 D wl n it τ'
noncomputable abbrev tailOf (w : Params) : List Stmt := (bodyOf (fd__law_swept w)).drop 7
noncomputable abbrev twos : List PV := [.tup [.int 0, .int 1], .tup [.int 1, .int 2], .tup [.int 0, .int 2], .tup [.int 3, .int 0]]
inductive ToldI (τ : Store) (a al au at' af as' sn r1 r2 D td P : Addr) (ahead like higher : Int) (n : Nat) (it : It) (ρ : List (Option PV)) (τ' : Store) : Prop
  | mk (i : Nat) (o1 o2 : Option PV) (_ : it = .lst P i) (_ : i + n = 4) (_ : ρ = [some (.lst a), some (.lst al), some (.lst au), some (.lst at'), some (.lst af), some (.lst as'), some (.lst sn), some (.lst r1), some (.lst r2), some (.int ahead), some (.int like), some (.int higher), some (.lst D), some (.lst td), o1, o2, none])
      (_ : Ext τ τ') (_ : τ' td = some (([like, higher, like + higher, ahead].take i).map .int)) (_ : τ' P = some twos) : ToldI τ a al au at' af as' sn r1 r2 D td P ahead like higher n it ρ τ'
inductive CountI (τ : Store) (D : Addr) (cs : List Int) (m0 : Nat) (n : Nat) (it : It) (τ' : Store) : Prop
  | mk (i : Nat) (_ : it = .seq ((rngInts ((i : Nat) : Int) 1 n).map .int)) (_ : i + n = m0) (_ : τ' = Store.set τ D ((cs.take i).map .int)) : CountI τ D cs m0 n it τ'
noncomputable abbrev retStmts (w : Params) : List Stmt := (bodyOf (fd__law_swept w)).drop 10
theorem swept_ret (hX : LawX X) {τ : Store} {a al au at' af as' sn r1 r2 D td L : Addr} {o1 o2 : Option PV} {ps lp us ts : List (List Nat)} {h1 h2 low climbs seen bk : List Int} {like higher ahead : Int} {n0 c0 : Nat}
    (zf : τ af = some (h1.map .int)) (zt : τ at' = some (ts.map strPV)) (z2 : τ r2 = some (climbs.map .int)) (zn : τ sn = some (seen.map .int)) (zd : τ td = some (([like, higher, like + higher, ahead].take 4).map .int)) (W : Sw ps lp us ts h1 h2 low climbs seen like higher ahead n0 c0 bk)
    (hS : EnvS sNs sGs (callEnvC (fd__law_swept X.w.params) L 140)) (hD : NoDbg sNs sGs) :
    EX X (k + 12) sNs (callEnvC (fd__law_swept X.w.params) L 140) (retStmts X.w.params) [some (.lst a), some (.lst al), some (.lst au), some (.lst at'), some (.lst af), some (.lst as'), some (.lst sn), some (.lst r1), some (.lst r2), some (.int ahead), some (.int like), some (.int higher), some (.lst D), some (.lst td), o1, o2, none] τ (fun f _ σ' => retOf f = .bool true) := by
  simp only [sNs, sGs] at hS hD ⊢
  refine EX.cons ?_
  refine EX1.lc (cap := [Str.ofString "seen"]) (loc := [Str.ofString "height"]) (gs' := [Str.ofString "bisect_right", Str.ofString "bisect_left"]) (capP := [.lst sn]) hS (by kernel_rfl) (.cons (by k_extra "m_look") .nil) (by (first | lia | omega)) (by rfl) (by intro _; rfl) ?_
  refine EVI.of ?_
  k_extra "m_go"
  have hcl := W.f_cll
  refine CB.lenL z2 (by simp; (first | lia | omega)) ?_
  k_extra "m_go"
  rw [List.length_map]
  refine ITER.rng (n := climbs.length) (range_ok _ (by (first | lia | omega))).1 (range_ok _ (by (first | lia | omega))).2 ?_
  intro F hF0
  have tF : td ≠ F := fun q => by rw [← q, zd] at hF0; cases hF0
  have nF : sn ≠ F := fun q => by rw [← q, zn] at hF0; cases hF0
  have hct := W.f_ct
  refine ⟨CountI τ F climbs climbs.length, climbs.length, ⟨0, rfl, by (first | lia | omega), rfl⟩, ?_, ?_⟩
  · rintro it τ' ⟨i, rfl, hn, rfl⟩
    refine ⟨.seqE, ?_⟩
    have : i = climbs.length := by (first | lia | omega)
    subst this
    rw [List.take_length]
    have E := Ext.new hF0 (xs := climbs.map .int)
    have kF : (Store.set τ F (climbs.map PV.int)) F = some (climbs.map .int) := Store.set_same
    have rF : r2 ≠ F := fun q => by rw [← q, z2] at hF0; cases hF0
    generalize Store.set τ F (climbs.map PV.int) = τ1 at E kF ⊢
    k_extra "m_go"
    refine EV.and3 ?_
    k_extra "m_go"
    refine ⟨by simp [sizeLine], fun Q4 hQ4 => ?_⟩
    have tQ : td ≠ Q4 := fun q => by rw [← q, E _ _ zd] at hQ4; cases hQ4
    refine CMP.eqLI (xs := [like, higher, like + higher, ahead]) (ys := [like, higher, like + higher, ahead]) (by rw [Store.set_ne tQ]; exact E _ _ zd) (by rw [Store.set_same]; rfl) tQ (by (first | lia | omega)) ?_
    rw [beq_self_eq_true]
    have E2 := E.trans (Ext.new hQ4 (xs := [.int like, .int higher, .int (like + higher), .int ahead]))
    have kF2 := Ext.new hQ4 (xs := [.int like, .int higher, .int (like + higher), .int ahead]) _ _ kF
    generalize Store.set τ1 Q4 [PV.int like, .int higher, .int (like + higher), .int ahead] = τ2 at E2 kF2 ⊢
    k_extra "m_go"
    refine iteT rfl ?_
    k_extra "m_go"
    refine CMP.eqLI (xs := climbs) (ys := climbs) (E2 _ _ z2) kF2 rF (by (first | lia | omega)) ?_
    rw [beq_self_eq_true]
    k_extra "m_go"
    refine iteT rfl ?_
    k_extra "m_go"
    refine EV.callF hS (by k_extra "m_mem") (G__law_back hX) (F__law_back hX) ?_ rfl (by k_extra "m_dbg")
    k_extra "m_go"
    have tl : ts.length ≤ 20 := by have := W.f_lsz; rw [W.f_ht]; simpa [headsF] using this
    refine CALL.mono (CALL.less (C_back (k := 0) hX (E2 _ _ zt) (E2 _ _ z2) tl (by (first | lia | omega)) W.f_cz W.f_cp W.f_cl W.f_bk W.f_bl5) (by (first | lia | omega))) ?_
    rintro p τ3 ⟨rb, rfl, hrb, yb, E3⟩
    rw [W.f_be] at yb
    have bf : rb ≠ af := fun q => by rw [q, E2 _ _ zf] at hrb; cases hrb
    k_extra "m_go"
    refine CMP.eqLI (xs := h1) (ys := h1) yb (E3 _ _ (E2 _ _ zf)) bf (by (first | lia | omega)) ?_
    rw [beq_self_eq_true]
    k_extra "m_go"
    rfl
  · intro C hS' n it τ' hi
    have hD' : NoDbg [Str.ofString "seen", Str.ofString "height"] [Str.ofString "bisect_right", Str.ofString "bisect_left"] := NoDbg.of (by kernel_rfl)
    simp only [List.cons_append, List.nil_append, List.map_cons, List.map_nil, List.replicate, List.length_cons, List.length_nil] at hS' ⊢
    obtain ⟨i, rfl, hn, rfl⟩ := hi
    have hil : i < climbs.length := by (first | lia | omega)
    have zn' : (Store.set τ F ((climbs.take i).map .int)) sn = some (seen.map .int) := by rw [Store.set_ne nF]; exact zn
    have hsl := W.f_snl
    refine ⟨.int ((i : Nat) : Int), .seq ((rngInts ((i : Nat) + 1 : Int) 1 n).map .int), .seq, .inl (by simp), ?_⟩
    k_extra "m_go"
    refine ⟨by k_extra "m_weak", IFS.nil (iteT rfl ?_)⟩
    k_extra "m_go"
    refine EV.callF hS' (by k_extra "m_mem") (G_bisect_right hX) (F_bisect_right hX) ?_ rfl (by k_extra "m_dbg")
    k_extra "m_go"
    refine CALL.mono (CALL.less (C_bisect_right2 (k := 0) hX zn' (by (first | lia | omega))) (by (first | lia | omega))) ?_
    rintro p τ'' ⟨rfl, rfl⟩
    k_extra "m_go"
    refine EV.callF hS' (by k_extra "m_mem") (G_bisect_left hX) (F_bisect_left hX) ?_ rfl (by k_extra "m_dbg")
    k_extra "m_go"
    refine CALL.mono (CALL.less (C_bisect_left2 (k := 0) hX zn' (by (first | lia | omega))) (by (first | lia | omega))) ?_
    rintro p τ'' ⟨rfl, rfl⟩
    k_extra "m_go"
    have hci : climbs[i] = (brI seen (i : Int) : Int) - (blI seen (i : Int) : Int) := by
      have := congrArg (·[i]?) hct
      simp [hil] at this
      exact this.symm
    refine ⟨_, Store.set_same, by simp [sizeLine]; (first | lia | omega), i + 1, by push_cast; rfl, by (first | lia | omega), ?_⟩
    rw [set_set]
    congr 1
    rw [List.take_succ_eq_append_getElem hil, List.map_append, hci]; rfl
noncomputable abbrev endOf (w : Params) : List Stmt := (bodyOf (fd__law_swept w)).drop 8
theorem swept_end (hX : LawX X) {τ : Store} {a al au at' af as' sn r1 r2 D L : Addr} {ps lp us ts : List (List Nat)} {h1 h2 low climbs seen bk : List Int} {like higher ahead : Int} {n0 c0 : Nat}
    (zf : τ af = some (h1.map .int)) (zt : τ at' = some (ts.map strPV)) (z2 : τ r2 = some (climbs.map .int)) (zn : τ sn = some (seen.map .int)) (zw : τ D = some ([wordF (List.replicate h1.length 0), wordF low, wordF h2, wordF h1].map strPV)) (W : Sw ps lp us ts h1 h2 low climbs seen like higher ahead n0 c0 bk)
    (hS : EnvS sNs sGs (callEnvC (fd__law_swept X.w.params) L 140)) (hD : NoDbg sNs sGs) :
    EX X (k + 12) sNs (callEnvC (fd__law_swept X.w.params) L 140) (endOf X.w.params) [some (.lst a), some (.lst al), some (.lst au), some (.lst at'), some (.lst af), some (.lst as'), some (.lst sn), some (.lst r1), some (.lst r2), some (.int ahead), some (.int like), some (.int higher), some (.lst D), none, none, none, none] τ (fun f _ σ' => retOf f = .bool true) := by
  simp only [sNs, sGs] at hS hD ⊢
  have L0 : ∀ c ∈ wordF (List.replicate h1.length 0), c ∈ letters := wordF_let (okW.le W.f_w0)
  have L1 : ∀ c ∈ wordF low, c ∈ letters := wordF_let (okW.le W.f_w1)
  have L2 : ∀ c ∈ wordF h2, c ∈ letters := wordF_let (okW.le W.f_w2)
  have L3 : ∀ c ∈ wordF h1, c ∈ letters := wordF_let (okW.le W.f_w3)
  have D0 := W.f_d0
  have D1 := W.f_d1
  have D2 := W.f_d2
  have D3 := W.f_d3
  have V1 := W.f_e1
  have V2 := W.f_e2
  have V3 := W.f_e3
  have V4 := W.f_e4
  generalize wordF (List.replicate h1.length 0) = w0 at zw L0 D0 V1 V2 V3 V4
  generalize wordF low = w1 at zw L1 D1 V1 V2 V3 V4
  generalize wordF h2 = w2 at zw L2 D2 V1 V2 V3 V4
  generalize wordF h1 = w3 at zw L3 D3 V1 V2 V3 V4
  refine EX.cons ?_
  k_extra "m_go"
  refine ⟨by simp [sizeLine], fun td htd => ?_⟩
  k_extra "m_go"
  have G0 := Ext.new htd (xs := [])
  have kt : (Store.set τ td []) td = some [] := Store.set_same
  refine EVI.of ?_
  k_extra "m_go"
  refine ⟨by simp [sizeLine], ?_⟩
  k_extra "m_go"
  refine ⟨by simp [sizeLine], ?_⟩
  k_extra "m_go"
  refine ⟨by simp [sizeLine], ?_⟩
  k_extra "m_go"
  refine ⟨by simp [sizeLine], ?_⟩
  k_extra "m_go"
  refine ⟨by simp [sizeLine], fun P hP => ITER.lst Store.set_same ?_⟩
  have tP : td ≠ P := fun q => by rw [← q, kt] at hP; cases hP
  refine FL.loop (by (first | lia | omega)) (ToldI τ a al au at' af as' sn r1 r2 D td P ahead like higher) ?_ ?_ 4 _ _ _ ⟨0, none, none, rfl, rfl, rfl, G0.trans (Ext.new hP), by rw [Store.set_ne tP, kt]; rfl, Store.set_same⟩
  · rintro it ρ τ' ⟨i, o1, o2, rfl, hn, rfl, E, ht, hP'⟩
    have : i = 4 := by (first | lia | omega)
    subst this
    refine ⟨Nxt.lstE' hP' (by simp), ?_⟩
    k_extra "m_gs"
    exact swept_ret hX (E _ _ zf) (E _ _ zt) (E _ _ z2) (E _ _ zn) ht W hS hD
  · rintro n it ρ τ' ⟨i, o1, o2, rfl, hn, rfl, E, ht, hP'⟩
    have key : ∃ (x y : Nat) (u v : List Nat) (r : Int), (twos)[i]? = some (.tup [.int (x : Int), .int (y : Int)]) ∧ ([w0, w1, w2, w3].map strPV)[((x : Nat) : Int).toNat]? = some (strPV u) ∧ ([w0, w1, w2, w3].map strPV)[((y : Nat) : Int).toNat]? = some (strPV v) ∧
        (∀ c ∈ u, c ∈ letters) ∧ (∀ c ∈ v, c ∈ letters) ∧ u.length ≤ 40 ∧ v.length ≤ 40 ∧ levF u v w0.length = r ∧ ([like, higher, like + higher, ahead].take (i + 1)) = [like, higher, like + higher, ahead].take i ++ [r] ∧ x < 4 ∧ y < 4 := by
      match i, hn with
      | 0, _ => exact ⟨0, 1, w0, w1, _, rfl, rfl, rfl, L0, L1, D0, D1, V1, rfl, by (first | lia | omega), by (first | lia | omega)⟩
      | 1, _ => exact ⟨1, 2, w1, w2, _, rfl, rfl, rfl, L1, L2, D1, D2, V2, rfl, by (first | lia | omega), by (first | lia | omega)⟩
      | 2, _ => exact ⟨0, 2, w0, w2, _, rfl, rfl, rfl, L0, L2, D0, D2, V3, rfl, by (first | lia | omega), by (first | lia | omega)⟩
      | 3, _ => exact ⟨3, 0, w3, w0, _, rfl, rfl, rfl, L3, L0, D3, D0, V4, rfl, by (first | lia | omega), by (first | lia | omega)⟩
      | i + 4, hn => (first | lia | omega)
    obtain ⟨x, y, u, v, r, hx, hu, hv, lu, lv, du, dv, hr, htk, hx4, hy4⟩ := key
    have hw := E _ _ zw
    refine ⟨.tup [.int (x : Int), .int (y : Int)], .lst P (i + 1), .lst hP' hx, .inl (by simp), ?_⟩
    k_extra "m_go"
    refine ⟨.lst ht, ?_⟩
    k_extra "m_go"
    refine EV.callF hS (by k_extra "m_mem") (G__levenshtein_distance hX) (F__levenshtein_distance hX) ?_ rfl (by k_extra "m_dbg")
    k_extra "m_go"
    refine ⟨⟨_, .lst hw⟩, GETI.lst hw (by (first | lia | omega)) (by (first | lia | omega)) hu ?_⟩
    k_extra "m_go"
    refine ⟨⟨_, .lst hw⟩, GETI.lst hw (by (first | lia | omega)) (by (first | lia | omega)) hv ?_⟩
    k_extra "m_go"
    refine ⟨⟨_, .lst hw⟩, GETI.lst hw (i := 0) (by decide) (by decide) (p := strPV w0) rfl ?_⟩
    k_extra "m_go"
    refine CB.lenS (by rw [S_len]; (first | lia | omega)) ?_
    k_extra "m_go"
    rw [S_len]
    refine CALL.mono (CALL.less (C_lev (k := 0) hX lu lv du dv) (by (first | lia | omega))) ?_
    rintro p τ5 ⟨rfl, E5⟩
    rw [hr]
    k_extra "m_go"
    refine CB.append (E5 _ _ ht) (by simp [sizeLine]; (first | lia | omega)) ?_
    k_extra "m_go"
    have tn : τ td = none := htd
    refine ⟨i + 1, _, _, rfl, by (first | lia | omega), rfl, Ext.upd tn (E.trans E5), by rw [Store.set_same, htk, List.map_append]; rfl, by rw [Store.set_ne (Ne.symm tP)]; exact E5 _ _ hP'⟩
theorem swept_tail (hX : LawX X) {τ : Store} {a al au at' af as' sn r1 r2 L : Addr} {ps lp us ts : List (List Nat)} {h1 h2 low climbs seen bk : List Int} {like higher ahead : Int} {n0 c0 : Nat}
    (zf : τ af = some (h1.map .int)) (zt : τ at' = some (ts.map strPV)) (zs : τ as' = some (h2.map .int)) (z1 : τ r1 = some (low.map .int)) (z2 : τ r2 = some (climbs.map .int)) (zn : τ sn = some (seen.map .int)) (W : Sw ps lp us ts h1 h2 low climbs seen like higher ahead n0 c0 bk)
    (hS : EnvS sNs sGs (callEnvC (fd__law_swept X.w.params) L 140)) (hD : NoDbg sNs sGs) :
    EX X (k + 12) sNs (callEnvC (fd__law_swept X.w.params) L 140) (tailOf X.w.params) [some (.lst a), some (.lst al), some (.lst au), some (.lst at'), some (.lst af), some (.lst as'), some (.lst sn), some (.lst r1), some (.lst r2), some (.int ahead), some (.int like), some (.int higher), none, none, none, none, none] τ (fun f _ σ' => retOf f = .bool true) := by
  simp only [sNs, sGs] at hS hD ⊢
  refine EX.cons ?_
  refine EX1.lc (cap := []) (loc := [Str.ofString "row"]) (gs' := [Str.ofString "_law_word"]) (capP := []) hS (by kernel_rfl) .nil (by (first | lia | omega)) (by rfl) (by intro _; rfl) ?_
  refine EVI.of ?_
  k_extra "m_go"
  refine ⟨by simp [sizeLine], fun z0 hz0 => ?_⟩
  k_extra "m_go"
  have G0 := Ext.new hz0 (xs := [.int 0])
  have k00 : (Store.set τ z0 [PV.int 0]) z0 = some [.int 0] := Store.set_same
  generalize Store.set τ z0 [PV.int 0] = τ0 at G0 k00 ⊢
  refine CB.lenL (G0 _ _ zf) (by have := W.f_l1; simp; (first | lia | omega)) ?_
  rw [List.length_map]
  refine BIN.mulL k00 (by have := W.f_l1; (first | lia | omega)) (by simp) fun z hz => ?_
  have hrep : (List.replicate h1.length [PV.int 0]).flatten = (List.replicate h1.length (0 : Int)).map PV.int := by
    generalize h1.length = m
    induction m with
    | zero => rfl
    | succ m ih => rw [List.replicate_succ, List.flatten_cons, ih]; simp [List.replicate_succ]
  rw [hrep]
  have G1 := G0.trans (Ext.new hz (xs := (List.replicate h1.length (0 : Int)).map .int))
  have kz : (Store.set τ0 z ((List.replicate h1.length (0 : Int)).map PV.int)) z = some ((List.replicate h1.length (0 : Int)).map .int) := Store.set_same
  generalize Store.set τ0 z ((List.replicate h1.length (0 : Int)).map PV.int) = τ1 at G1 kz ⊢
  clear G0 k00 hz hz0 hrep
  k_extra "m_go"
  refine ⟨by simp [sizeLine], fun L4 hL4 => ?_⟩
  have G2 := G1.trans (Ext.new hL4 (xs := [.lst z, .lst r1, .lst as', .lst af]))
  have kz2 := Ext.new hL4 (xs := [.lst z, .lst r1, .lst as', .lst af]) _ _ kz
  have k4 : (Store.set τ1 L4 [PV.lst z, .lst r1, .lst as', .lst af]) L4 = some [.lst z, .lst r1, .lst as', .lst af] := Store.set_same
  generalize Store.set τ1 L4 [PV.lst z, .lst r1, .lst as', .lst af] = τ2 at G2 kz2 k4 ⊢
  clear G1 kz hL4
  refine ITER.lst k4 ?_
  intro D hD0
  have h4D : L4 ≠ D := fun q => by rw [← q, k4] at hD0; cases hD0
  refine ⟨WordsI τ2 L4 D [wordF (List.replicate h1.length 0), wordF low, wordF h2, wordF h1], 4, ⟨0, _, rfl, rfl, Ext.new hD0, Store.set_same, by rw [set_set]; rfl⟩, ?_, ?_⟩
  · rintro it τ' ⟨i, τ3, rfl, hn, E3, hD3, rfl⟩
    have : i = 4 := by (first | lia | omega)
    subst this
    refine ⟨Nxt.lstE' (by rw [Store.set_ne h4D]; exact E3 _ _ k4) (by simp), ?_⟩
    have G4 : Ext τ2 (Store.set τ3 D (([wordF (List.replicate h1.length 0), wordF low, wordF h2, wordF h1].take 4).map strPV)) := Ext.upd hD0 E3
    have kD : (Store.set τ3 D (([wordF (List.replicate h1.length 0), wordF low, wordF h2, wordF h1].take 4).map strPV)) D = some ([wordF (List.replicate h1.length 0), wordF low, wordF h2, wordF h1].map strPV) := Store.set_same
    generalize Store.set τ3 D (([wordF (List.replicate h1.length 0), wordF low, wordF h2, wordF h1].take 4).map strPV) = τ4 at G4 kD ⊢
    have G5 := G2.trans G4
    k_extra "m_gs"
    exact swept_end hX (G5 _ _ zf) (G5 _ _ zt) (G5 _ _ z2) (G5 _ _ zn) kD W hS hD
  · intro C hS' n it τ' hi
    have hD' : NoDbg [Str.ofString "row"] [Str.ofString "_law_word"] := NoDbg.of (by kernel_rfl)
    simp only [List.cons_append, List.nil_append, List.map_cons, List.map_nil, List.replicate, List.length_cons, List.length_nil] at hS' ⊢
    obtain ⟨i, τ3, rfl, hn, E3, hD3, rfl⟩ := hi
    have key : ∃ (b : Addr) (xs : List Int), ([PV.lst z, .lst r1, .lst as', .lst af])[i]? = some (.lst b) ∧ τ2 b = some (xs.map .int) ∧ okW xs = true ∧ (wordF xs).length ≤ 40 ∧ ([wordF (List.replicate h1.length 0), wordF low, wordF h2, wordF h1].take (i + 1)) = ([wordF (List.replicate h1.length 0), wordF low, wordF h2, wordF h1].take i) ++ [wordF xs] := by
      match i, hn with
      | 0, _ => exact ⟨z, _, rfl, kz2, W.f_w0, W.f_d0, rfl⟩
      | 1, _ => exact ⟨r1, _, rfl, G2 _ _ z1, W.f_w1, W.f_d1, rfl⟩
      | 2, _ => exact ⟨as', _, rfl, G2 _ _ zs, W.f_w2, W.f_d2, rfl⟩
      | 3, _ => exact ⟨af, _, rfl, G2 _ _ zf, W.f_w3, W.f_d3, rfl⟩
      | i + 4, hn => (first | lia | omega)
    obtain ⟨b, xs, hx, hb, hw, hl, ht⟩ := key
    have hbD : b ≠ D := fun q => by rw [← q, hb] at hD0; cases hD0
    have hb3 : (Store.set τ3 D (([wordF (List.replicate h1.length 0), wordF low, wordF h2, wordF h1].take i).map strPV)) b = some (xs.map .int) := by rw [Store.set_ne hbD]; exact E3 _ _ hb
    refine ⟨.lst b, .lst L4 (i + 1), .lst (by rw [Store.set_ne h4D]; exact E3 _ _ k4) hx, .inl (by simp), ?_⟩
    k_extra "m_go"
    refine ⟨by k_extra "m_weak", IFS.nil (iteT rfl ?_)⟩
    k_extra "m_go"
    refine EV.callF hS' (by k_extra "m_mem") (G__law_word hX) (F__law_word hX) ?_ rfl (by k_extra "m_dbg")
    k_extra "m_go"
    refine CALL.mono (CALL.less (C_word (k := 0) hX hb3 hw hl) (by (first | lia | omega))) ?_
    rintro p τ5 ⟨rfl, E5⟩
    have kD5 := E5 _ _ Store.set_same
    refine ⟨_, kD5, by simp [sizeLine]; (first | lia | omega), i + 1, Store.set τ5 D [], rfl, by (first | lia | omega), ?_, Store.set_same, ?_⟩
    · intro c ys hc
      have hcD : c ≠ D := fun q => by rw [q, hD0] at hc; cases hc
      rw [Store.set_ne hcD]
      exact E5 _ _ (by rw [Store.set_ne hcD]; exact E3 _ _ hc)
    · rw [set_set, ht, List.map_append]; rfl
theorem W_swept (hX : LawX X) {a : Addr} {ps lp us ts : List (List Nat)} {h1 h2 low climbs seen bk : List Int} {like higher ahead : Int} {n0 c0 : Nat} (ha : σ a = some (ps.map strPV)) (W : Sw ps lp us ts h1 h2 low climbs seen like higher ahead n0 c0 bk) :
    ∀ L, EX X (k + 12) ([Str.ofString "pieces"] ++ sNs.drop 1) (callEnvC (fd__law_swept X.w.params) L 140) (bodyOf (fd__law_swept X.w.params)) ([.lst a].map some ++ List.replicate 16 none) σ
   (QB (.bool true)) := by
  intro L
  have hS := EnvS.of (ns := sNs) (gs := sGs) (fd := fd__law_swept X.w.params) rfl rfl rfl rfl (by kernel_rfl) L 140
  have hD : NoDbg sNs sGs := NoDbg.of (by kernel_rfl)
  simp only [sNs, sGs, List.drop, List.cons_append, List.nil_append, List.map_cons, List.map_nil, List.replicate] at hS hD ⊢
  have es : Str.ofString "" = S [] := by decide +kernel
  refine EX.cons ?_
  k_extra "m_go"
  refine EV.callF hS (by k_extra "m_mem") (G__law_laid hX) (F__law_laid hX) ?_ rfl (by k_extra "m_dbg")
  k_extra "m_go"
  refine CALL.mono (CALL.less (C_laid (k := 0) hX ha (by have := W.f_psz; (first | lia | omega)) W.f_ne W.f_pl) (by (first | lia | omega))) ?_
  rintro p σ₁ ⟨al, rfl, hal, ya, E1⟩
  rw [W.f_lp] at ya
  have ha1 := E1 _ _ ha
  k_extra "m_go"
  refine EV.callF hS (by k_extra "m_mem") (G__law_read hX) (F__law_read hX) ?_ rfl (by k_extra "m_dbg")
  k_extra "m_go"
  refine ⟨.str, ?_⟩
  k_extra "m_go"
  rw [es]
  refine CB.join (l := ps) ha1 (by have := W.f_t1; simp only [sizeLine]; (first | lia | omega)) ?_
  k_extra "m_go"
  refine CALL.mono (CALL.less (C_read (k := 0) hX (by have := W.f_t1; (first | lia | omega)) W.f_s1) (by (first | lia | omega))) ?_
  rintro p σ₂ ⟨au, rfl, hau, yu, E2⟩
  rw [W.f_us] at yu
  k_extra "m_go"
  refine EV.callF hS (by k_extra "m_mem") (G__law_read hX) (F__law_read hX) ?_ rfl (by k_extra "m_dbg")
  k_extra "m_go"
  refine ⟨.str, ?_⟩
  k_extra "m_go"
  refine CB.join (l := lp) (E2 _ _ ya) (by have := W.f_t2; simp only [sizeLine]; (first | lia | omega)) ?_
  k_extra "m_go"
  refine CALL.mono (CALL.less (C_read (k := 0) hX (by have := W.f_t2; (first | lia | omega)) W.f_s2) (by (first | lia | omega))) ?_
  rintro p σ₃ ⟨at', rfl, hat, yt, E3⟩
  rw [W.f_ts] at yt
  k_extra "m_go"
  refine ⟨by simp [sizeLine], _, _, rfl, ?_⟩
  have yu3 := E3 _ _ yu
  have ya3 := E3 _ _ (E2 _ _ ya)
  have ha3 := E3 _ _ (E2 _ _ ha1)
  have H3 := (E1.trans E2).trans E3
  clear E1 E2 E3 ha1 yu ya
  -- the signs of both rows
  k_extra "m_gs"
  refine EX.cons ?_
  refine EX1.join (fun ρ' τ' => ρ' = [some (.lst a), some (.lst al), some (.lst au), some (.lst at'), none, none, none, none, none, none, none, none, none, none, none, none, none] ∧ Ext σ₃ τ') ?_ ?_
  · k_extra "m_gs"
    refine EV.lc (cap := []) (loc := [Str.ofString "piece"]) (gs' := []) (capP := []) hS (by kernel_rfl) .nil (by (first | lia | omega)) (by intro _; rfl) ?_
    refine EVI.of ?_
    k_extra "m_gs"
    refine ITER.lst ha3 ?_
    refine LCI_heads ha3 W.f_ne (by have := W.f_psz; (first | lia | omega)) (fun _ => by kernel_rfl) fun D hD => ?_
    refine CMP.neLS (xs := us) (Ext.new hD _ _ yu3) (by rw [Store.set_same, W.f_hu]) (by (first | lia | omega)) ?_
    k_extra "m_gs"
    have H4 := Ext.new hD (xs := (headsF ps).map strPV)
    generalize Store.set σ₃ D ((headsF ps).map strPV) = σ₄ at H4 ⊢
    refine iteF rfl ?_
    k_extra "m_gs"
    refine EV.lc (cap := []) (loc := [Str.ofString "piece"]) (gs' := []) (capP := []) hS (by kernel_rfl) .nil (by (first | lia | omega)) (by intro _; rfl) ?_
    refine EVI.of ?_
    k_extra "m_gs"
    refine ITER.lst (H4 _ _ ya3) ?_
    refine LCI_heads (H4 _ _ ya3) W.f_lne (by have := W.f_lsz; (first | lia | omega)) (fun _ => by kernel_rfl) fun D hD => ?_
    refine CMP.neLS (xs := ts) (Ext.new hD _ _ (H4 _ _ yt)) (by rw [Store.set_same, W.f_ht]) (by (first | lia | omega)) ?_
    k_extra "m_gs"
    refine iteF rfl ?_
    k_extra "m_gs"
    refine iteF rfl ?_
    k_extra "m_gs"
    exact ⟨rfl, rfl, H4.trans (Ext.new hD)⟩
  · rintro ρ' σ₄ ⟨rfl, E4⟩
    have ha4 := E4 _ _ ha3
    have ya4 := E4 _ _ ya3
    have yu4 := E4 _ _ yu3
    have yt4 := E4 _ _ yt
    have H4 := H3.trans E4
    clear E4 ha3 ya3 yu3 yt H3
    -- both rows are taken
    k_extra "m_gs"
    refine EX.cons ?_
    refine EX1.join (fun ρ' τ' => ρ' = [some (.lst a), some (.lst al), some (.lst au), some (.lst at'), none, none, none, none, none, none, none, none, none, none, none, none, none] ∧ Ext σ₄ τ') ?_ ?_
    · k_extra "m_gs"
      refine EV.callF hS (by k_extra "m_mem") (G__check_parenthesis hX) (F__check_parenthesis hX) ?_ rfl (by k_extra "m_dbg")
      k_extra "m_gs"
      refine ⟨.str, ?_⟩
      k_extra "m_gs"
      refine CB.join (l := ps) ha4 (by have := W.f_t1; simp only [sizeLine]; (first | lia | omega)) ?_
      k_extra "m_gs"
      refine CALL.mono (CALL.less (C_check (k := 0) hX (by have := W.f_t1; (first | lia | omega)) W.f_s1) (by (first | lia | omega))) ?_
      rintro p σ₅ ⟨rfl, E5⟩
      rw [W.f_c1]
      k_extra "m_gs"
      refine iteF rfl ?_
      k_extra "m_gs"
      refine EV.callF hS (by k_extra "m_mem") (G__check_parenthesis hX) (F__check_parenthesis hX) ?_ rfl (by k_extra "m_dbg")
      k_extra "m_gs"
      refine ⟨.str, ?_⟩
      k_extra "m_gs"
      refine CB.join (l := lp) (E5 _ _ ya4) (by have := W.f_t2; simp only [sizeLine]; (first | lia | omega)) ?_
      k_extra "m_gs"
      refine CALL.mono (CALL.less (C_check (k := 0) hX (by have := W.f_t2; (first | lia | omega)) W.f_s2) (by (first | lia | omega))) ?_
      rintro p σ₆ ⟨rfl, E6⟩
      rw [W.f_c2]
      k_extra "m_gs"
      refine iteF rfl ?_
      k_extra "m_gs"
      refine iteF rfl ?_
      k_extra "m_gs"
      exact ⟨rfl, rfl, E5.trans E6⟩
    · rintro ρ' σ₅ ⟨rfl, E5⟩
      have yu5 := E5 _ _ yu4
      have yt5 := E5 _ _ yt4
      have H5 := H4.trans E5
      clear E5 ha4 ya4 yu4 yt4 H4
      k_extra "m_go"
      have ul : us.length ≤ 20 := by have := W.f_psz; rw [W.f_hu]; simpa [headsF] using this
      have tl : ts.length ≤ 20 := by have := W.f_lsz; rw [W.f_ht]; simpa [headsF] using this
      refine EV.callF hS (by k_extra "m_mem") (G__law_heights hX) (F__law_heights hX) ?_ rfl (by k_extra "m_dbg")
      k_extra "m_go"
      refine CALL.mono (CALL.less (C_heights (k := 0) hX yu5 (by (first | lia | omega))) (by (first | lia | omega))) ?_
      rintro p σ₆ ⟨af, rfl, haf, yf, E6⟩
      rw [W.f_h1] at yf
      k_extra "m_go"
      refine EV.callF hS (by k_extra "m_mem") (G__law_heights hX) (F__law_heights hX) ?_ rfl (by k_extra "m_dbg")
      k_extra "m_go"
      refine CALL.mono (CALL.less (C_heights (k := 0) hX (E6 _ _ yt5) (by (first | lia | omega))) (by (first | lia | omega))) ?_
      rintro p σ₇ ⟨as', rfl, has, ys, E7⟩
      rw [W.f_h2] at ys
      have yf7 := E7 _ _ yf
      have yt7 := E7 _ _ (E6 _ _ yt5)
      clear yf E6 E7 haf has yu5 yt5 H5
      k_extra "m_go"
      refine ⟨by simp [sizeLine], fun sn hsn => ?_⟩
      have fsn : af ≠ sn := fun q => by rw [← q, yf7] at hsn; cases hsn
      have tsn : at' ≠ sn := fun q => by rw [← q, yt7] at hsn; cases hsn
      have ssn : as' ≠ sn := fun q => by rw [← q, ys] at hsn; cases hsn
      have yf8 := Ext.new hsn (xs := []) _ _ yf7
      have yt8 := Ext.new hsn (xs := []) _ _ yt7
      have ys8 := Ext.new hsn (xs := []) _ _ ys
      have yn8 : (Store.set σ₇ sn []) sn = some ([].map PV.int) := Store.set_same
      generalize Store.set σ₇ sn [] = σ₈ at yf8 yt8 ys8 yn8 ⊢
      clear yf7 yt7 ys hsn
      k_extra "m_go"
      refine ⟨by simp [sizeLine], ?_⟩
      k_extra "m_go"
      refine EV.callF hS (by k_extra "m_mem") (G__law_ball hX) (F__law_ball hX) ?_ rfl (by k_extra "m_dbg")
      k_extra "m_go"
      refine CALL.mono (CALL.less (C_ball (k := 0) hX W.f_n0 ys8 (by have := W.f_l2; (first | lia | omega)) W.f_bt W.f_bl) (by (first | lia | omega))) ?_
      rintro p σ₉ ⟨r1, r2, rfl, r12, hr1, hr2, y1, y2, E9⟩
      have yf9 := E9 _ _ yf8
      have yt9 := E9 _ _ yt8
      have ys9 := E9 _ _ ys8
      have yn9 := E9 _ _ yn8
      have n1 : r1 ≠ sn := fun q => by rw [q, yn8] at hr1; cases hr1
      have n2 : r2 ≠ sn := fun q => by rw [q, yn8] at hr2; cases hr2
      clear yf8 yt8 ys8 yn8 hr1 hr2 E9
      k_extra "m_go"
      refine EV.callF hS (by k_extra "m_mem") (G__law_counted hX) (F__law_counted hX) ?_ rfl (by k_extra "m_dbg")
      k_extra "m_go"
      refine CALL.mono (CALL.less (C_counted (k := 0) hX yf9 yn9 fsn (by have := W.f_l1; (first | lia | omega)) (by simp)) (by (first | lia | omega))) ?_
      rintro p τ ⟨rfl, rfl⟩
      rw [W.f_cn]
      have zf : (Store.set σ₉ sn (seen.map PV.int)) af = some (h1.map .int) := by rw [Store.set_ne fsn]; exact yf9
      have zt : (Store.set σ₉ sn (seen.map PV.int)) at' = some (ts.map strPV) := by rw [Store.set_ne tsn]; exact yt9
      have zs : (Store.set σ₉ sn (seen.map PV.int)) as' = some (h2.map .int) := by rw [Store.set_ne ssn]; exact ys9
      have z1 : (Store.set σ₉ sn (seen.map PV.int)) r1 = some (low.map .int) := by rw [Store.set_ne n1]; exact y1
      have z2 : (Store.set σ₉ sn (seen.map PV.int)) r2 = some (climbs.map .int) := by rw [Store.set_ne n2]; exact y2
      have zn : (Store.set σ₉ sn (seen.map PV.int)) sn = some (seen.map .int) := Store.set_same
      show kASGT X (k + 12) _ _ _ _ _ (PV.tup [.int like, .int higher]) (Store.set σ₉ sn (seen.map PV.int))
      generalize Store.set σ₉ sn (seen.map PV.int) = τ at zf zt zs z1 z2 zn ⊢
      clear yf9 yt9 ys9 yn9 y1 y2
      k_extra "m_gs"
      exact swept_tail hX zf zt zs z1 z2 zn W hS hD
theorem C_swept (hX : LawX X) {a : Addr} {ps lp us ts : List (List Nat)} {h1 h2 low climbs seen bk : List Int} {like higher ahead : Int} {n0 c0 : Nat} (ha : σ a = some (ps.map strPV)) (W : Sw ps lp us ts h1 h2 low climbs seen like higher ahead n0 c0 bk) :
    CALL X (k + 13) (.ref 140) [.lst a] [] σ fun p σ' => p = .bool true :=
  CALL.def (bn := [Str.ofString "pieces"]) (rest := sNs.drop 1) (gs := sGs) (F__law_swept hX) rfl
    (BINDS.pos1 fun u => by kernel_rfl) rfl (EnvS.of rfl rfl rfl rfl (by kernel_rfl) · 140) (okNames.kinds (gs := []) (by kernel_rfl)) (W_swept hX ha W)
noncomputable def cellsF (xs : List Int) : List Int := (xs.take 12).map fun x => x.fmod 1000000
noncomputable def codeI (xs : List Int) : Int := 27245479938 + (cellsF xs).sum
noncomputable def prF (xs : List Int) : Nat := if xs.length < 3 then 4 else 5
theorem cellsF_len (xs : List Int) : (cellsF xs).length ≤ 12 := by simp [cellsF]; (first | lia | omega)
inductive CellI (σ : Store) (c D : Addr) (ys cs : List Int) (m : Nat) (it : It) (τ : Store) : Prop
  | mk (i : Nat) (_ : it = .lst c i) (_ : i + m = ys.length) (_ : τ = Store.set (Store.set σ c (ys.map .int)) D ((cs.take i).map .int)) : CellI σ c D ys cs m it τ
theorem W_law (hX : LawX X) {sc : Addr} {xs : List Int} (b : BL X sc xs) (hl : xs.length ≤ 63)
    (hcode : ∃ n : Nat, codeI xs = (n : Int) ∧ SwE (piecesF (prF xs) n)) :
    ∀ L, EX X (k + 13) ([Str.ofString "script"] ++ [Str.ofString "code"]) (callEnvC (fd_law X.w.params) L 145) (bodyOf (fd_law X.w.params)) ([.raw (.ref sc)].map some ++ List.replicate 1 none) σ
   (QB (.bool true)) := by
  intro L
  have hS := EnvS.of (ns := [Str.ofString "script", Str.ofString "code"]) (gs := [Str.ofString "sum", Str.ofString "len", Str.ofString "_law_swept", Str.ofString "_law_pieces"]) (fd := fd_law X.w.params) rfl rfl rfl rfl (by kernel_rfl) L 145
  have hD : NoDbg ([Str.ofString "script", Str.ofString "code"]) ([Str.ofString "sum", Str.ofString "len", Str.ofString "_law_swept", Str.ofString "_law_pieces"]) := NoDbg.of (by kernel_rfl)
  simp only [List.cons_append, List.nil_append, List.map_cons, List.map_nil, List.replicate] at hS hD ⊢
  obtain ⟨n, hn, lp, us, ts, h1, h2, low, climbs, seen, like, higher, ahead, n0, c0, bk, W⟩ := hcode
  have hcl := cellsF_len xs
  refine EX.cons ?_
  k_extra "m_gs"
  refine EV.lc (cap := []) (loc := [Str.ofString "cell"]) (gs' := [Str.ofString "int"]) (capP := []) hS (by kernel_rfl) .nil (by (first | lia | omega)) (by intro _; rfl) ?_
  refine EVI.of ?_
  refine EV.sliceBL ?_ (by intro _ _; rfl)
  k_extra "m_go"
  refine ⟨⟨sc, xs, b, rfl⟩, SLI.bl (lo := none) (hi := some 12) (sp := none) b rfl rfl rfl (by simp) (by simp [sizeLine]; (first | lia | omega)) fun c hc => ?_⟩
  have hp : pickL (xs.map PV.int) none (some 12) none = (xs.take 12).map PV.int := by
    rw [pickL_plain]
    rcases Nat.le_total 12 xs.length with h | h
    · rw [show (12 : Int) = ((12 : Nat) : Int) from rfl, cut_to _ _ (by simpa using h), List.map_take]
    · unfold cut
      have : (some (12 : Int)).elim (xs.map PV.int).length (clipAt (xs.map PV.int).length) = xs.length := by
        show clipAt (xs.map PV.int).length ((12 : Nat) : Int) = xs.length
        rw [clip_nat, List.length_map]; exact Nat.min_eq_right h
      rw [this]
      simp only [Option.elim, Nat.sub_zero, List.drop_zero]
      rw [List.take_of_length_le (by simp), List.take_of_length_le h]
  rw [hp]
  have hlen : (xs.take 12).length = (cellsF xs).length := by simp [cellsF]
  have hcs : cellsF xs = (xs.take 12).map fun x => x.fmod 1000000 := rfl
  generalize xs.take 12 = ys at hlen hcs ⊢
  refine ITER.lst Store.set_same ?_
  intro D hD0
  have hcD : c ≠ D := fun q => by rw [q, Store.set_same] at hD0; cases hD0
  refine ⟨CellI σ c D ys (cellsF xs), ys.length, ⟨0, rfl, by (first | lia | omega), rfl⟩, ?_, ?_⟩
  · rintro it τ ⟨i, rfl, hi, rfl⟩
    refine ⟨Nxt.lstE' (by rw [Store.set_ne hcD, Store.set_same]) (by simp; (first | lia | omega)), ?_⟩
    have : (cellsF xs).take i = cellsF xs := List.take_of_length_le (by (first | lia | omega))
    rw [this]
    have hDs : (Store.set (Store.set σ c (ys.map .int)) D ((cellsF xs).map .int)) D = some ((cellsF xs).map .int) := Store.set_same
    generalize Store.set (Store.set σ c (ys.map .int)) D ((cellsF xs).map .int) = τ at hDs ⊢
    k_extra "m_go"
    refine CB.sum hDs ?_
    k_extra "m_go"
    rw [show (27245479938 : Int) + (cellsF xs).sum = (n : Int) from hn]
    k_extra "m_go"
    refine EV.callF hS (by k_extra "m_mem") (G__law_swept hX) (F__law_swept hX) ?_ rfl (by k_extra "m_dbg")
    k_extra "m_go"
    refine EV.callF hS (by k_extra "m_mem") (G__law_pieces hX) (F__law_pieces hX) ?_ rfl (by k_extra "m_dbg")
    k_extra "m_go"
    refine CB.lenBL b (by (first | lia | omega)) ?_
    k_extra "m_go"
    by_cases h3 : xs.length < 3
    · have hpr : prF xs = 4 := if_pos h3
      rw [hpr] at W
      refine iteT (by simp; (first | lia | omega)) ?_
      k_extra "m_go"
      refine CALL.mono (CALL.less (C_pieces (k := 0) hX (pr := 4) (by (first | lia | omega))) (by (first | lia | omega))) ?_
      rintro p τ1 ⟨r, rfl, hr, y, E⟩
      k_extra "m_go"
      refine CALL.mono (C_swept (k := k) hX y W) ?_
      rintro p τ2 rfl
      k_extra "m_go"
      rfl
    · have hpr : prF xs = 5 := if_neg h3
      rw [hpr] at W
      refine iteF (by simp; (first | lia | omega)) ?_
      k_extra "m_go"
      refine CALL.mono (CALL.less (C_pieces (k := 0) hX (pr := 5) (by (first | lia | omega))) (by (first | lia | omega))) ?_
      rintro p τ1 ⟨r, rfl, hr, y, E⟩
      k_extra "m_go"
      refine CALL.mono (C_swept (k := k) hX y W) ?_
      rintro p τ2 rfl
      k_extra "m_go"
      rfl
  · intro C hS' m it τ hi
    have hD' : NoDbg [Str.ofString "cell"] [Str.ofString "int"] := NoDbg.of (by kernel_rfl)
    simp only [List.cons_append, List.nil_append, List.map_cons, List.map_nil, List.replicate, List.length_cons, List.length_nil] at hS' ⊢
    obtain ⟨i, rfl, hi, rfl⟩ := hi
    have hlt : i < ys.length := by (first | lia | omega)
    refine ⟨.int ys[i], .lst c (i + 1), .lst (by rw [Store.set_ne hcD, Store.set_same]) (by simp [hlt]), .inl (by simp), ?_⟩
    k_extra "m_go"
    refine ⟨by k_extra "m_weak", IFS.nil (iteT rfl ?_)⟩
    k_extra "m_go"
    refine BIN.pow (by decide) (by decide +kernel) ?_
    rw [show (10 : Int) ^ (6 : Int).toNat = 1000000 by decide +kernel]
    refine BIN.mod (by decide) ?_
    refine ⟨_, Store.set_same, by simp [sizeLine]; (first | lia | omega), i + 1, rfl, by (first | lia | omega), ?_⟩
    rw [set_set]
    congr 1
    rw [hcs, List.take_succ_eq_append_getElem (by simpa using hlt)]
    simp
end


open PySem PySem.W PyProof.Rows PySem.Spec PySem.Calls
set_option maxRecDepth 100000
set_option maxHeartbeats 8000000

section
noncomputable def chkB : List Nat → Int → Bool
  | [], o => o == 0
  | c :: r, o => if c = 40 then chkB r (o + 1) else if c = 41 then (if o - 1 < 0 then false else chkB r (o - 1)) else chkB r o
theorem chkB_1 : ∀ o, chkB [] o = (o == 0) := by intros; rfl
theorem chkB_2 : ∀ c r o, chkB (c :: r) o = (if c = 40 then chkB r (o + 1) else if c = 41 then (if o - 1 < 0 then false else chkB r (o - 1)) else chkB r o) := by intros; rfl
noncomputable def dyckL (pr : Nat) : Nat → Int → Nat → List (List Nat)
  | 0, _, _ => [[]]
  | k + 1, h, o => (if o < pr then (dyckL pr k (h + 1) (o + 1)).map (40 :: ·) else []) ++ (if o < pr ∧ h = 0 then [] else (dyckL pr k (h - 1) o).map (41 :: ·))
theorem dyckL_1 (pr : Nat) : ∀ w1 w2, dyckL pr 0 w1 w2 = ([[]]) := by intros; rfl
theorem dyckL_2 (pr : Nat) : ∀ k h o, dyckL pr (k + 1) h o = ((if o < pr then (dyckL pr k (h + 1) (o + 1)).map (40 :: ·) else []) ++ (if o < pr ∧ h = 0 then [] else (dyckL pr k (h - 1) o).map (41 :: ·))) := by intros; rfl
noncomputable def ldJ (bs : List Nat) : List Nat := laidF (fun i => bs.getD i 0 == 40) (List.range bs.length)
noncomputable def ones (bs : List Nat) : List (List Nat) := bs.map fun b => [b]
noncomputable def rowB (bs J : List Nat) (h1 h2 low climbs seen z : List Int) (like higher ahead : Int) (w0 w1 w2 w3 : List Nat) : Bool :=
  (decide (bs.length ≤ 20) && decide (J.length ≤ 20) && (J.all fun i => decide (i < bs.length)) && (bs.all fun b => b == 40 || b == 41) && chkB bs 0 && chkB (J.map (bs.getD · 0)) 0 && decide (h1.length ≤ 5)) &&
  ((decide (h2.length ≤ 5) && ballT h2 20 [] && decide (seen.length ≤ 100) && decide (climbs.length ≤ 20) && okW z && okW low && okW h2 && okW h1) &&
  ((decide (w0.length ≤ 40) && decide (w1.length ≤ 40) && decide (w2.length ≤ 40) && decide (w3.length ≤ 40)) &&
  (((levF w0 w1 w0.length == like) && (levF w1 w2 w0.length == higher) && (levF w0 w2 w0.length == like + higher) && (levF w3 w0 w0.length == ahead)) &&
  ((((List.range climbs.length).map fun (h : Nat) => ((brI seen (h : Int) : Int) - (blI seen (h : Int) : Int))) == climbs) &&
  decide (0 ≤ climbs.getD 0 0) && decide (climbs.getD 0 0 ≤ 20) && decide (0 < climbs.length) &&
  (match backL climbs ((ones (J.map (bs.getD · 0))).drop (climbs.getD 0 0).toNat) (List.replicate (climbs.getD 0 0).toNat 0) 0 0 (-1) with
    | some bk => decide (bk.length ≤ 5) && bk.reverse == h1
    | none => false)))))
noncomputable def rowH (bs J : List Nat) (h1 h2 : List Int) (B : List Int × List Int × Int) (C : Int × Int × List Int) : Bool :=
  rowB bs J h1 h2 B.1 B.2.1 C.2.2 (List.replicate h1.length 0) C.1 C.2.1 B.2.2 (wordF (List.replicate h1.length 0)) (wordF B.1) (wordF h2) (wordF h1)
noncomputable def rowG (bs J : List Nat) (h1 h2 : List Int) : Bool := rowH bs J h1 h2 (ballL h2 20 [] [] 0) (cntL h1 [] 0 0)
noncomputable def rowOk (bs : List Nat) : Bool := rowG bs (ldJ bs) (heightsF (ones bs)) (heightsF (ones ((ldJ bs).map (bs.getD · 0))))
end
theorem rows4 : (dyckL 4 8 0 0).all rowOk = true := by decide +kernel
theorem all_cut {α : Type} {p : α → Bool} (n : Nat) {l : List α} (h1 : (l.take n).all p = true) (h2 : (l.drop n).all p = true) : l.all p = true := by
  rw [← List.take_append_drop n l, List.all_append, h1, h2]; rfl
theorem rows5 : (dyckL 5 10 0 0).all rowOk = true :=
  all_cut 11 (by decide +kernel) (all_cut 11 (by decide +kernel) (all_cut 11 (by decide +kernel) (by decide +kernel)))


open PySem PySem.W PyProof.Rows PySem.Spec PySem.Calls
set_option maxRecDepth 100000
set_option maxHeartbeats 8000000

section
noncomputable def sOk (q : Bool × Nat) : Prop := q.1 = false → q.2 ≠ 34 ∧ q.2 ≠ 92
noncomputable def sTxt (q : Bool × Nat) : List Nat := if q.1 = true then [92, q.2] else [q.2]
inductive U where
  | sm (q : Bool × Nat)
  | qu (l : List (Bool × Nat))
noncomputable def U.txt : U → List Nat
  | .sm q => sTxt q
  | .qu l => 34 :: (l.flatMap sTxt ++ [34])
noncomputable def U.ok : U → Prop
  | .sm q => sOk q
  | .qu l => ∀ q ∈ l, sOk q
noncomputable def U.out : U → List Nat
  | .sm q => sTxt q
  | .qu _ => []
noncomputable def U.plain : U → List Nat
  | .sm q => if q.1 = true then [] else [q.2]
  | .qu _ => []
noncomputable def txtU (us : List U) : List Nat := us.flatMap U.txt
noncomputable def outU (us : List U) : List Nat := us.flatMap U.out
noncomputable def plainU (us : List U) : List Nat := us.flatMap U.plain

theorem esc_sm {q : Bool × Nat} (h : sOk q) (p : Nat) (rest : List Nat) : ∃ p', escIt p false (sTxt q ++ rest) = (p', sTxt q) :: escIt (p + (sTxt q).length) false rest := by
  obtain ⟨b, c⟩ := q
  cases b with
  | true => exact ⟨p + 1, by simp [sTxt, escIt]⟩
  | false =>
    have := (h rfl).2
    exact ⟨p, by simp [sTxt, escIt, this]⟩
theorem sTxt_ne {q : Bool × Nat} (h : sOk q) : sTxt q ≠ [34] := by
  obtain ⟨b, c⟩ := q
  cases b with
  | true => simp [sTxt]
  | false => have := (h rfl).1; simpa [sTxt] using this
theorem inner {cs : List Nat} : ∀ (l : List (Bool × Nat)) (p : Nat) (rest : List Nat) (st o : Nat) (res : List (List Nat)), (∀ q ∈ l, sOk q) →
    stripSt cs (escIt p false (l.flatMap sTxt ++ rest)) st (some o) res = stripSt cs (escIt (p + (l.flatMap sTxt).length) false rest) st (some o) res
  | [], p, rest, st, o, res, _ => by simp
  | q :: l, p, rest, st, o, res, h => by
    rw [List.flatMap_cons, List.append_assoc]
    obtain ⟨p', e⟩ := esc_sm (h q (by simp)) p (l.flatMap sTxt ++ rest)
    rw [e, List.length_append, ← Nat.add_assoc, ← inner l (p + (sTxt q).length) rest st o res fun q' hq => h q' (by simp [hq])]
    simp only [stripSt_1, stripSt_2, if_neg (sTxt_ne (h q (by simp)))]

theorem take_grow {cs x rest pre : List Nat} {st : Nat} (h : cs = pre ++ (x ++ rest)) (hst : st ≤ pre.length) : (cs.drop st).take (pre.length + x.length - st) = (cs.drop st).take (pre.length - st) ++ x := by
  subst h
  rw [List.drop_append_of_le_length hst]
  have h1 : pre.length + x.length - st = (pre.drop st ++ x).length := by rw [List.length_append, List.length_drop]; exact Nat.sub_add_comm hst
  have h2 : pre.length - st = (pre.drop st).length := by simp
  rw [h1, h2, List.take_left, ← List.append_assoc, List.take_left]

theorem strip_go {cs : List Nat} : ∀ (us : List U) (pre : List Nat) (st : Nat) (res : List (List Nat)), (∀ u ∈ us, u.ok) → cs = pre ++ txtU us → st ≤ pre.length →
    (stripSt cs (escIt pre.length false (txtU us)) st none res).flatten = res.flatten ++ (cs.drop st).take (pre.length - st) ++ outU us
  | [], pre, st, res, _, hcs, hst => by
    have hl : cs = pre := by simpa [txtU] using hcs
    subst hl
    simp only [txtU, outU, List.flatMap_nil, escIt, Bool.false_eq_true, if_false, stripSt_1, stripSt_2, List.append_nil]
    split
    · rw [cut_from, List.take_of_length_le (by simp)]; simp
    · rw [List.drop_eq_nil_of_le (by (first | lia | omega))]; simp
  | .sm q :: us, pre, st, res, hok, hcs, hst => by
    have e0 : txtU (.sm q :: us) = sTxt q ++ txtU us := by simp [txtU, U.txt]
    have e1 : outU (.sm q :: us) = sTxt q ++ outU us := by simp [outU, U.out]
    have hq : sOk q := hok (.sm q) (by simp)
    rw [e0] at hcs
    rw [e0, e1]
    obtain ⟨p', e⟩ := esc_sm hq pre.length (txtU us)
    rw [e]
    simp only [stripSt_1, stripSt_2, if_neg (sTxt_ne hq)]
    have := strip_go (cs := cs) us (pre ++ sTxt q) st res (fun u hu => hok u (by simp [hu])) (by rw [hcs]; simp) (by simp; (first | lia | omega))
    rw [List.length_append] at this
    rw [this, take_grow hcs hst]
    simp
  | .qu l :: us, pre, st, res, hok, hcs, hst => by
    have e0 : txtU (.qu l :: us) = 34 :: (l.flatMap sTxt ++ (34 :: txtU us)) := by simp [txtU, U.txt]
    have e1 : outU (.qu l :: us) = outU us := by simp [outU, U.out]
    have hl : ∀ q ∈ l, sOk q := hok (.qu l) (by simp)
    rw [e0] at hcs
    rw [e0, e1]
    have hlen : pre.length ≤ cs.length := by rw [hcs]; simp
    have a1 : escIt pre.length false (34 :: (l.flatMap sTxt ++ (34 :: txtU us))) = (pre.length, [34]) :: escIt (pre.length + 1) false (l.flatMap sTxt ++ (34 :: txtU us)) := by simp [escIt]
    have a2 : ∀ p, escIt p false (34 :: txtU us) = (p, [34]) :: escIt (p + 1) false (txtU us) := fun p => by simp [escIt]
    rw [a1]
    simp only [stripSt_1, stripSt_2, if_true]
    rw [inner l (pre.length + 1) (34 :: txtU us) st pre.length res hl, a2]
    simp only [stripSt_1, stripSt_2, if_true]
    have := strip_go (cs := cs) us (pre ++ (34 :: (l.flatMap sTxt ++ [34]))) (pre.length + 1 + (l.flatMap sTxt).length + 1) (if st = pre.length then res else res ++ [cut cs (some (st : Nat)) (some (pre.length : Nat))]) (fun u hu => hok u (by simp [hu])) (by rw [hcs]; simp) (by simp; (first | lia | omega))
    have hl2 : (pre ++ (34 :: (l.flatMap sTxt ++ [34]))).length = pre.length + 1 + (l.flatMap sTxt).length + 1 := by simp; (first | lia | omega)
    rw [hl2] at this
    rw [this, Nat.sub_self, List.take_zero, List.append_nil]
    congr 1
    split
    · rename_i h; subst h; simp
    · rw [cut_mid _ _ _ hlen]; simp

theorem chk_go : ∀ (us : List U) (p : Nat) (o : Int), (∀ u ∈ us, u.ok) → chkSt (escIt p false (outU us)) o = chkB (plainU us) o
  | [], p, o, _ => by simp [outU, plainU, escIt, chkSt_1, chkSt_2, chkB_1, chkB_2]
  | .qu l :: us, p, o, hok => by
    have e0 : outU (.qu l :: us) = outU us := by simp [outU, U.out]
    have e1 : plainU (.qu l :: us) = plainU us := by simp [plainU, U.plain]
    rw [e0, e1]; exact chk_go us p o fun u hu => hok u (by simp [hu])
  | .sm q :: us, p, o, hok => by
    have hq : sOk q := hok (.sm q) (by simp)
    have e0 : outU (.sm q :: us) = sTxt q ++ outU us := by simp [outU, U.out]
    rw [e0]
    obtain ⟨p', e⟩ := esc_sm hq p (outU us)
    rw [e]
    have ih := fun o => chk_go us (p + (sTxt q).length) o fun u hu => hok u (by simp [hu])
    obtain ⟨b, c⟩ := q
    cases b with
    | true =>
      have e1 : plainU (.sm (true, c) :: us) = plainU us := by simp [plainU, U.plain]
      rw [e1, ← ih o]
      simp [chkSt_1, chkSt_2, sTxt]
    | false =>
      have e1 : plainU (.sm (false, c) :: us) = c :: plainU us := by simp [plainU, U.plain]
      rw [e1]
      simp only [chkB_1, chkB_2, chkSt_1, chkSt_2, sTxt, Bool.false_eq_true, if_false, List.cons.injEq, and_true]
      split
      · exact ih _
      · split
        · split
          · rfl
          · exact ih _
        · exact ih _
theorem strip_units {us : List U} (h : ∀ u ∈ us, u.ok) : stripF (txtU us) = outU us := by
  unfold stripF
  split
  · have := strip_go (cs := txtU us) us [] 0 [] h rfl (Nat.zero_le _)
    simpa using this
  · rename_i hn
    have key : ∀ us : List U, 34 ∉ txtU us → txtU us = outU us := by
      intro us
      induction us with
      | nil => intro _; rfl
      | cons u us ih =>
        intro h
        have e : txtU (u :: us) = u.txt ++ txtU us := by simp [txtU]
        have e' : outU (u :: us) = u.out ++ outU us := by simp [outU]
        rw [e] at h
        rw [e, e', ih fun q => h (List.mem_append_right _ q)]
        cases u with
        | sm q => rfl
        | qu l => exact absurd (List.mem_append_left _ (by simp [U.txt])) h
    exact key us hn
theorem check_units {us : List U} (h : ∀ u ∈ us, u.ok) : checkF (txtU us) = chkB (plainU us) 0 := by
  unfold checkF
  rw [strip_units h]; exact chk_go us 0 0 h
end


open PySem PySem.W PyProof.Rows PySem.Spec PySem.Calls
set_option maxRecDepth 100000
set_option maxHeartbeats 8000000

section
theorem txtU_append (a b : List U) : txtU (a ++ b) = txtU a ++ txtU b := by simp [txtU]
theorem plainU_append (a b : List U) : plainU (a ++ b) = plainU a ++ plainU b := by simp [plainU]
theorem out_le : ∀ us : List U, (outU us).length ≤ (txtU us).length
  | [] => Nat.le_refl _
  | u :: us => by
    have e : txtU (u :: us) = u.txt ++ txtU us := by simp [txtU]
    have e' : outU (u :: us) = u.out ++ outU us := by simp [outU]
    rw [e, e', List.length_append, List.length_append]
    have := out_le us
    have : u.out.length ≤ u.txt.length := by cases u <;> simp [U.out, U.txt]
    (first | lia | omega)
noncomputable def brC (c : Nat) : Bool := c == 40 || c == 41
theorem read_go : ∀ (us : List U) (p : Nat), (∀ u ∈ us, u.ok) → ((escIt p false (outU us)).map (·.2)).filter isBr = ((plainU us).filter brC).map fun c => [c]
  | [], p, _ => by simp [outU, plainU, escIt]
  | .qu l :: us, p, hok => by
    have e0 : outU (.qu l :: us) = outU us := by simp [outU, U.out]
    have e1 : plainU (.qu l :: us) = plainU us := by simp [plainU, U.plain]
    rw [e0, e1]; exact read_go us p fun u hu => hok u (by simp [hu])
  | .sm q :: us, p, hok => by
    have hq : sOk q := hok (.sm q) (by simp)
    have e0 : outU (.sm q :: us) = sTxt q ++ outU us := by simp [outU, U.out]
    rw [e0]
    obtain ⟨p', e⟩ := esc_sm hq p (outU us)
    rw [e]
    have ih := read_go us (p + (sTxt q).length) fun u hu => hok u (by simp [hu])
    obtain ⟨b, c⟩ := q
    cases b with
    | true =>
      have e1 : plainU (.sm (true, c) :: us) = plainU us := by simp [plainU, U.plain]
      rw [e1, ← ih, List.map_cons, List.filter_cons_of_neg (by simp [isBr, sTxt])]
    | false =>
      have e1 : plainU (.sm (false, c) :: us) = c :: plainU us := by simp [plainU, U.plain]
      rw [e1, List.map_cons]
      have e2 : isBr (sTxt (false, c)) = brC c := by simp [isBr, brC, sTxt]
      by_cases hc : brC c = true
      · rw [List.filter_cons_of_pos (by rw [e2]; exact hc), List.filter_cons_of_pos hc, List.map_cons, ih]; rfl
      · rw [List.filter_cons_of_neg (by rw [e2]; exact hc), List.filter_cons_of_neg hc, ih]
theorem read_units {us : List U} (h : ∀ u ∈ us, u.ok) : readF (txtU us) = ((plainU us).filter brC).map fun c => [c] := by
  unfold readF
  rw [strip_units h]; exact read_go us 0 h

theorem insK_map {α β : Type} (f : α → β) (xs : List (Int × α)) (h : Int) (p : α) : insK (xs.map fun q => (q.1, f q.2)) h (f p) = (insK xs h p).map fun q => (q.1, f q.2) := by
  have e : (xs.map fun q => (q.1, f q.2)).map (·.1) = xs.map (·.1) := by rw [List.map_map]; rfl
  simp [insK, e, List.map_take, List.map_drop]
theorem layS_map {α β : Type} (f : α → β) (up : β → Bool) : ∀ (ps : List α) (sh : List (Int × α)) (h : Int), layS up (ps.map f) (sh.map fun q => (q.1, f q.2)) h = (layS (fun a => up (f a)) ps sh h).map fun q => (q.1, f q.2)
  | [], sh, h => rfl
  | p :: ps, sh, h => by
    rw [List.map_cons, layS, layS, insK_map, layS_map f up ps]
theorem laid_map {α β : Type} (f : α → β) (up : β → Bool) (ps : List α) : laidF up (ps.map f) = (laidF (fun a => up (f a)) ps).map f := by
  have := layS_map f up ps [] 0
  simp only [List.map_nil] at this
  rw [laidF, this, laidF, List.map_map, List.map_map]; rfl

noncomputable def dress6U : List (List U) := [[], [.sm (true, 40)], [.qu [(false, 41)]], [.sm (true, 92)], [.sm (true, 34)], [.qu [(false, 40), (true, 34)]]]
noncomputable def dressU (n i : Nat) : List U := dress6U.getD (n / 512 / 6 ^ i % 6) []
theorem dressU_all (j : Nat) (h : j < 6) : txtU (dress6U.getD j []) = dress6.getD j [] ∧ plainU (dress6U.getD j []) = [] ∧ ∀ u ∈ dress6U.getD j [], u.ok := by
  have s1 : ∀ c, sOk (true, c) := fun c h => by cases h
  match j, h with
  | 0, _ => exact ⟨rfl, rfl, fun u hu => by cases hu⟩
  | 1, _ => exact ⟨rfl, rfl, fun u hu => by simp [dress6U] at hu; subst hu; exact s1 _⟩
  | 2, _ => exact ⟨rfl, rfl, fun u hu => by simp [dress6U] at hu; subst hu; intro q hq; simp at hq; subst hq; intro _; decide⟩
  | 3, _ => exact ⟨rfl, rfl, fun u hu => by simp [dress6U] at hu; subst hu; exact s1 _⟩
  | 4, _ => exact ⟨rfl, rfl, fun u hu => by simp [dress6U] at hu; subst hu; exact s1 _⟩
  | 5, _ => exact ⟨rfl, rfl, fun u hu => by
      simp [dress6U] at hu; subst hu; intro q hq; simp at hq
      rcases hq with rfl | rfl
      · intro _; decide
      · exact s1 _⟩
theorem dressU_ok (n i : Nat) : txtU (dressU n i) = dressAt n i ∧ plainU (dressU n i) = [] ∧ ∀ u ∈ dressU n i, u.ok := dressU_all _ (Nat.mod_lt _ (by decide))

noncomputable def pcAt (bs : List Nat) (n i : Nat) : List Nat := bs.getD i 0 :: dressAt n i
noncomputable def pcU (bs : List Nat) (n i : Nat) : List U := .sm (false, bs.getD i 0) :: dressU n i
noncomputable def good (bs : List Nat) : Prop := ∀ b ∈ bs, b = 40 ∨ b = 41
theorem good.at {bs : List Nat} (h : good bs) (i : Nat) : bs.getD i 0 ≠ 34 ∧ bs.getD i 0 ≠ 92 := by
  by_cases hi : i < bs.length
  · have e : bs.getD i 0 = bs[i] := by simp [List.getD, List.getElem?_eq_getElem hi]
    rw [e]
    rcases h _ (List.getElem_mem hi) with q | q <;> rw [q] <;> decide
  · have e : bs.getD i 0 = 0 := by simp [List.getD, List.getElem?_eq_none (Nat.le_of_not_lt hi)]
    rw [e]; decide
theorem flat_txt (bs : List Nat) (n : Nat) : ∀ J : List Nat, (J.map (pcAt bs n)).flatten = txtU (J.flatMap (pcU bs n))
  | [] => rfl
  | i :: J => by
    rw [List.map_cons, List.flatten_cons, List.flatMap_cons, txtU_append, ← flat_txt bs n J]
    have : txtU (pcU bs n i) = pcAt bs n i := by
      have := (dressU_ok n i).1
      show sTxt (false, bs.getD i 0) ++ txtU (dressU n i) = _
      rw [this]; rfl
    rw [this]
theorem flat_plain (bs : List Nat) (n : Nat) : ∀ J : List Nat, plainU (J.flatMap (pcU bs n)) = J.map (bs.getD · 0)
  | [] => rfl
  | i :: J => by
    rw [List.map_cons, List.flatMap_cons, plainU_append, flat_plain bs n J]
    have : plainU (pcU bs n i) = [bs.getD i 0] := by
      have := (dressU_ok n i).2.1
      show [bs.getD i 0] ++ plainU (dressU n i) = _
      rw [this]; rfl
    rw [this]; rfl
theorem flat_ok {bs : List Nat} (hg : good bs) (n : Nat) (J : List Nat) : ∀ u ∈ J.flatMap (pcU bs n), u.ok := by
  intro u hu
  obtain ⟨i, _, hu⟩ := List.mem_flatMap.mp hu
  rcases List.mem_cons.mp hu with rfl | hu
  · exact fun _ => hg.at i
  · exact (dressU_ok n i).2.2 u hu
theorem flat_len (bs : List Nat) (n : Nat) : ∀ J : List Nat, (J.map (pcAt bs n)).flatten.length ≤ 6 * J.length
  | [] => Nat.le_refl _
  | i :: J => by
    rw [List.map_cons, List.flatten_cons, List.length_append, List.length_cons]
    have := flat_len bs n J
    have := (dress_at n i).2
    simp only [pcAt, List.length_cons]; (first | lia | omega)
theorem ones_good {bs : List Nat} (h : good bs) : (bs.filter brC).map (fun c => [c]) = ones bs := by
  have : bs.filter brC = bs := List.filter_eq_self.mpr fun b hb => by rcases h b hb with q | q <;> rw [q] <;> rfl
  rw [this]; rfl
theorem range_getD : ∀ (bs : List Nat), (List.range bs.length).map (bs.getD · 0) = bs := by
  intro bs
  refine List.ext_getElem (by simp) fun i h1 h2 => ?_
  simp [List.getD, List.getElem?_eq_getElem h2]
end


open PySem PySem.W PyProof.Rows PySem.Spec PySem.Calls
set_option maxRecDepth 100000
set_option maxHeartbeats 8000000

section
noncomputable def brkL (pr n : Nat) : Nat → Nat → Int → Nat → List Nat
  | 0, _, _, _ => []
  | k + 1, i, h, o => if opens pr n i h o = true then 40 :: brkL pr n k (i + 1) (h + 1) (o + 1) else 41 :: brkL pr n k (i + 1) (h - 1) o
theorem brkL_1 (pr n : Nat) : ∀ w1 w2 w3, brkL pr n 0 w1 w2 w3 = ([]) := by intros; rfl
theorem brkL_2 (pr n : Nat) : ∀ k i h o, brkL pr n (k + 1) i h o = (if opens pr n i h o = true then 40 :: brkL pr n k (i + 1) (h + 1) (o + 1) else 41 :: brkL pr n k (i + 1) (h - 1) o) := by intros; rfl
theorem brkL_len (pr n : Nat) : ∀ k i h o, (brkL pr n k i h o).length = k
  | 0, i, h, o => rfl
  | k + 1, i, h, o => by
    simp only [brkL_2]
    split
    · rw [List.length_cons, brkL_len pr n k]
    · rw [List.length_cons, brkL_len pr n k]
theorem brkL_mem (pr n : Nat) : ∀ k i h o, brkL pr n k i h o ∈ dyckL pr k h o
  | 0, i, h, o => by simp [brkL_1, brkL_2, dyckL_1, dyckL_2]
  | k + 1, i, h, o => by
    have a := brkL_mem pr n k (i + 1) (h + 1) (o + 1)
    have b := brkL_mem pr n k (i + 1) (h - 1) o
    simp only [brkL_2, dyckL_2]
    by_cases ho : opens pr n i h o = true
    · rw [if_pos ho]
      have h1 : o < pr := by
        unfold opens at ho
        simp only [Bool.and_eq_true, decide_eq_true_eq] at ho
        exact ho.1
      rw [if_pos h1]
      exact List.mem_append_left _ (List.mem_map.mpr ⟨_, a, rfl⟩)
    · rw [if_neg ho]
      have h1 : ¬ (o < pr ∧ h = 0) := fun q => ho (by simp [opens, q.1, q.2])
      rw [if_neg h1]
      exact List.mem_append_right _ (List.mem_map.mpr ⟨_, b, rfl⟩)
theorem pcs_eq (pr n : Nat) : ∀ k i h o, pcsL pr n k i h o = (List.range k).map fun j => (brkL pr n k i h o).getD j 0 :: dressAt n (i + j)
  | 0, i, h, o => rfl
  | k + 1, i, h, o => by
    have a := pcs_eq pr n k (i + 1) (h + 1) (o + 1)
    have b := pcs_eq pr n k (i + 1) (h - 1) o
    simp only [pcsL_2, brkL_2]
    rw [List.range_succ_eq_map, List.map_cons, List.map_map]
    split
    · rw [a]
      refine congrArg (List.cons _) (List.map_congr_left fun j _ => ?_)
      show _ :: dressAt n (i + 1 + j) = _ :: dressAt n (i + (j + 1))
      rw [show i + 1 + j = i + (j + 1) by (first | lia | omega)]; rfl
    · rw [b]
      refine congrArg (List.cons _) (List.map_congr_left fun j _ => ?_)
      show _ :: dressAt n (i + 1 + j) = _ :: dressAt n (i + (j + 1))
      rw [show i + 1 + j = i + (j + 1) by (first | lia | omega)]; rfl
theorem heads_eq (bs : List Nat) (n : Nat) (J : List Nat) : headsF (J.map (pcAt bs n)) = ones (J.map (bs.getD · 0)) := by
  simp [headsF, ones, pcAt, Function.comp_def]
theorem andT {a b : Bool} (h : (a && b) = true) : a = true ∧ b = true := by
  rw [Bool.and_eq_true] at h; exact h
theorem sw_of {bs : List Nat} {n : Nat} (h : rowOk bs = true) : SwE ((List.range bs.length).map (pcAt bs n)) := by
  unfold rowOk rowG rowH at h
  have hJ : laidF upP ((List.range bs.length).map (pcAt bs n)) = (ldJ bs).map (pcAt bs n) := laid_map _ _ _
  generalize ldJ bs = J at h hJ
  generalize e1 : heightsF (ones bs) = h1 at h
  generalize e2 : heightsF (ones (J.map (bs.getD · 0))) = h2 at h
  obtain ⟨B, eB⟩ : ∃ B, ballL h2 20 [] [] 0 = B := ⟨_, rfl⟩
  obtain ⟨C, eC⟩ : ∃ C, cntL h1 [] 0 0 = C := ⟨_, rfl⟩
  rw [eB, eC] at h
  obtain ⟨low, climbs, ahead⟩ := B
  obtain ⟨like, higher, seen⟩ := C
  unfold rowB at h
  obtain ⟨g1, h⟩ := andT h
  obtain ⟨g2, h⟩ := andT h
  obtain ⟨g3, h⟩ := andT h
  obtain ⟨g4, g5⟩ := andT h
  simp only [Bool.and_eq_true, decide_eq_true_eq, beq_iff_eq, List.all_eq_true, Bool.or_eq_true] at g1 g2 g3 g4 g5
  obtain ⟨⟨⟨⟨⟨⟨a1, a2⟩, a3⟩, a4⟩, a5⟩, a6⟩, a7⟩ := g1
  obtain ⟨⟨⟨⟨⟨⟨⟨a8, a9⟩, a10⟩, a11⟩, a12⟩, a13⟩, a14⟩, a15⟩ := g2
  obtain ⟨⟨⟨a16, a17⟩, a18⟩, a19⟩ := g3
  obtain ⟨⟨⟨a20, a21⟩, a22⟩, a23⟩ := g4
  obtain ⟨⟨⟨⟨a24, a25⟩, a26⟩, a27⟩, a28⟩ := g5
  have hg : good bs := fun b hb => a4 b hb
  have hgJ : good (J.map (bs.getD · 0)) := fun b hb => by
    obtain ⟨i, hi, rfl⟩ := List.mem_map.mp hb
    have hl := a3 i hi
    have e : bs.getD i 0 = bs[i] := by simp [List.getD, List.getElem?_eq_getElem hl]
    rw [e]; exact hg _ (List.getElem_mem hl)
  have hr : ∀ J : List Nat, good (J.map (bs.getD · 0)) → readF (J.map (pcAt bs n)).flatten = ones (J.map (bs.getD · 0)) := fun J hJ => by
    rw [flat_txt, read_units (flat_ok hg n J), flat_plain, ones_good hJ]
  have hc : ∀ J : List Nat, checkF (J.map (pcAt bs n)).flatten = chkB (J.map (bs.getD · 0)) 0 := fun J => by
    rw [flat_txt, check_units (flat_ok hg n J), flat_plain]
  have hs : ∀ J : List Nat, J.length ≤ 20 → (stripF (J.map (pcAt bs n)).flatten).length ≤ 10000 := fun J hJ => by
    have h1 := flat_len bs n J
    have h2 : (stripF (J.map (pcAt bs n)).flatten).length ≤ (J.map (pcAt bs n)).flatten.length := by
      rw [flat_txt, strip_units (flat_ok hg n J)]; exact out_le _
    (first | lia | omega)
  have hR := range_getD bs
  have hne : ∀ J : List Nat, ∀ p ∈ J.map (pcAt bs n), p ≠ [] := fun J p hp => by
    obtain ⟨i, _, rfl⟩ := List.mem_map.mp hp
    simp [pcAt]
  cases hbk : backL climbs ((ones (J.map (bs.getD · 0))).drop (climbs.getD 0 0).toNat) (List.replicate (climbs.getD 0 0).toNat 0) 0 0 (-1) with
  | none => rw [hbk] at a28; cases a28
  | some bk =>
  rw [hbk] at a28
  simp only [Bool.and_eq_true, decide_eq_true_eq, beq_iff_eq] at a28
  refine ⟨J.map (pcAt bs n), ones bs, ones (J.map (bs.getD · 0)), h1, h2, low, climbs, seen, like, higher, ahead, 20, (climbs.getD 0 0).toNat, bk, ?_⟩
  have f1 := flat_len bs n (List.range bs.length)
  have f2 := flat_len bs n J
  rw [List.length_range] at f1
  refine { f_lp := hJ, f_psz := by simpa using a1, f_lsz := by simpa using a2, f_ne := hne _, f_pl := fun p hp => ?_, f_lne := hne _, f_t1 := by (first | lia | omega), f_t2 := by (first | lia | omega), f_s1 := hs _ (by simpa using a1), f_s2 := hs _ a2, f_us := ?_, f_ts := hr J hgJ, f_hu := ?_, f_ht := (heads_eq bs n J).symm, f_c1 := ?_, f_c2 := (hc J).trans a6, f_h1 := e1, f_h2 := e2, f_l1 := a7, f_l2 := a8, f_n0 := Nat.le_refl _, f_bt := a9, f_bl := eB, f_cn := eC, f_snl := a10, f_cll := a11, f_w0 := a12, f_w1 := a13, f_w2 := a14, f_w3 := a15, f_d0 := a16, f_d1 := a17, f_d2 := a18, f_d3 := a19, f_e1 := a20, f_e2 := a21, f_e3 := a22, f_e4 := a23, f_ct := a24, f_cz := (Int.toNat_of_nonneg a25).symm, f_cp := a27, f_cl := by (first | lia | omega), f_bk := hbk, f_bl5 := a28.1, f_be := a28.2 }
  · obtain ⟨i, _, rfl⟩ := List.mem_map.mp hp
    have := (dress_at n i).2
    simp only [pcAt, List.length_cons]; (first | lia | omega)
  · rw [hr _ (by rw [hR]; exact hg), hR]
  · rw [heads_eq, hR]
  · rw [hc, hR]; exact a5
theorem sum_nonneg : ∀ (l : List Int), (∀ x ∈ l, 0 ≤ x) → 0 ≤ l.sum
  | [], _ => by simp
  | a :: l, h => by
    have := sum_nonneg l fun x hx => h x (by simp [hx])
    have := h a (by simp)
    simp only [List.sum_cons]; (first | lia | omega)
theorem law_plain (xs : List Int) : ∃ n : Nat, codeI xs = (n : Int) ∧ SwE (piecesF (prF xs) n) := by
  have h0 : 0 ≤ codeI xs := by
    unfold codeI
    have := sum_nonneg (cellsF xs) (fun x hx => by
      obtain ⟨y, _, rfl⟩ := List.mem_map.mp hx
      rw [Int.fmod_eq_emod_of_nonneg _ (by decide)]; (first | lia | omega))
    (first | lia | omega)
  refine ⟨(codeI xs).toNat, (Int.toNat_of_nonneg h0).symm, ?_⟩
  generalize (codeI xs).toNat = n
  have key : ∀ pr, (dyckL pr (2 * pr) 0 0).all rowOk = true → SwE (piecesF pr n) := fun pr hpr => by
    have hm := brkL_mem pr n (2 * pr) 0 0 0
    have hl := brkL_len pr n (2 * pr) 0 0 0
    have hp : piecesF pr n = (List.range (brkL pr n (2 * pr) 0 0 0).length).map (pcAt (brkL pr n (2 * pr) 0 0 0) n) := by
      rw [piecesF, pcs_eq, hl]
      exact List.map_congr_left fun j _ => by rw [Nat.zero_add]; rfl
    rw [hp]
    exact sw_of (List.all_eq_true.mp hpr _ hm)
  unfold prF
  split
  · exact key 4 rows4
  · exact key 5 rows5
end


open PySem PySem.W PyProof.Rows PySem.Spec PySem.Calls
set_option maxRecDepth 100000
set_option maxHeartbeats 8000000

theorem ints_get : ∀ {vs : List Value} {xs : List Int}, IntsAre vs xs → vs.length = xs.length ∧ ∀ i, ∀ (h : i < vs.length) (h' : i < xs.length), ∃ t, vs[i] = .int xs[i] t := by
  intro vs xs h
  induction h
  case nil => exact ⟨rfl, fun i h => by cases h⟩
  case cons ih =>
    refine ⟨by simp [ih.1], fun i h1 h2 => ?_⟩
    cases i with
    | zero => exact ⟨_, rfl⟩
    | succ i => exact ih.2 i (by simpa using h1) (by simpa using h2)
noncomputable abbrev lamQ : Str := Str.ofString "_law_laid" ++ (".<locals>." : Str) ++ ("<lambda>" : Str)
theorem top1 : PySem.Challenge.rw_wj0046_01.Holds := hd (by
  k_fill
  intro w s₀ s₁ mg mb G Y fa o pm cd doc dV kV ho hd1 hcd hDf hmg hg args vals as hpre hlay hrd hwl hlo
  refine Ground.open G ?_
  intro T B D TE TW
  wrow_args hpre hlay hrd hwl hlo
  rename_i xs _ _ _ _ _ _ _ sc vs _ hL _ _ _ hI _ hcond _
  have hin := km_in_of Y
  have hgI : ∀ x, mg x = gFind w.params x := fun x => by
    obtain ⟨ob, es, ep, g1, g2, _, g4⟩ := T.g
    have e0 : ((hd.heap_39 w.params).lookup 3).isSome = true := by kernel_rfl
    unfold gFind
    cases hl : (hd.heap_39 w.params).lookup 3 with
    | none => rw [hl] at e0; cases e0
    | some o =>
      have g5 := hin 3 _ hl
      have g1' : s₁.heap.get? 3 = some ob := g1
      rw [g5] at g1'
      cases g1'
      show mg x = (match ob.data with | .dict es _ => nsFind es x | _ => none)
      rw [g2]
      exact (g4 x).symm
  have hTab := km_tabs_of Y 99 (by decide)
  let X : Cx := { prog := PySem.Challenge.rw_wj0046_01.row.prog, w := w, B := s₁.heap, ex := [99], TI := TabTI 99 163 48 lamQ, TI_mono := fun _ _ k t => t.mono k, ex_prot := fun h a ha t => (by rw [List.mem_singleton.mp ha]; exact t.tab), mg := mg, mb := mb, Gns := T.g, Bns := T.b, exg := by decide, exb := by decide, exc := by decide, nolimit := T.nolimit }
  have hbu : s₁.heap.BuiltinsAt mg 99 := by
    obtain ⟨bm, ob, b1, b2, b3, b4, b5, b6⟩ := T.bmain
    refine ⟨bm, ob, b1, b2, fun q => ?_, fun q => ?_, b3, b4, b5, b6⟩
    · obtain ⟨o, es, ep, e, hd, _⟩ := T.g
      rw [← q, b3] at e; cases e; rw [b6] at hd; cases hd
    · rw [q, hTab] at b3; cases b3; cases b6
  have hhd : CodeHd s₁.heap 101 99 := codeHd_of_K hin (by kernel_rfl)
  have hX : LawX X := ⟨hin, fun a h => List.mem_singleton.mp h, hgI, T.builtins, ⟨hhd, by decide, fun a => List.mem_singleton, rfl, hbu⟩⟩
  have hfa : fa = 145 := by
    have e1 := hmg
    have e2 := hgI (Str.ofString "law")
    have e3 : gFind w.params (Str.ofString "law") = some (.ref 145) := by kernel_rfl
    have e4 : mg (Str.ofString "law") = some (.ref fa) := hmg
    rw [e2, e3] at e4
    cases e4; rfl
  subst hfa
  have M : Match X (fun _ => none) s₁ := ⟨fun _ _ e _ => e, fun a xs e => (by cases e), fun a e => absurd rfl e, AllBare.of_eq hg, ⟨#[], hTab, .inl rfl⟩⟩
  obtain ⟨hl1, hl2⟩ := ints_get hI
  have hsc : sc ≠ 99 := fun q => by
    obtain ⟨ob, e1, e2, _⟩ := id hL
    rw [q, hTab] at e1
    cases e1
    cases e2
  have b : BL X sc xs := ⟨fun q => hsc (List.mem_singleton.mp q), vs, hL, hl1, hl2⟩
  have hlen : xs.length ≤ 63 := by (first | lia | omega)
  have R : Room callerA (20 + 13 + 1) := ⟨rfl, by decide, by decide⟩
  have C : CALL X (20 + 13 + 1) (.ref 145) [.raw (.ref sc)] [] (fun _ => none) fun p σ' => p = .bool true :=
    CALL.def (bn := [Str.ofString "script"]) (rest := [Str.ofString "code"]) (gs := [Str.ofString "sum", Str.ofString "len", Str.ofString "_law_swept", Str.ofString "_law_pieces"]) (F_law hX) rfl
      (BINDS.pos1 fun u => by kernel_rfl) rfl (EnvS.of rfl rfl rfl rfl (by kernel_rfl) · 145) (okNames.kinds (gs := []) (by kernel_rfl)) (W_law (k := 20) hX b hlen (law_plain xs))
  refine C callerA s₁ [.ref sc] [] _ _ R M (.cons (.raw _) .nil) .nil fun p σ' v s' hp M' r' t' => ?_
  subst hp
  cases r'
  refine ⟨.inl ⟨_, .bool true, [], rfl, fun _ => rfl, ?_, ?_, ?_⟩, ⟨fun b o e => ?_, fun b o e => ?_⟩, t'.os, M'.gens⟩
  · first | exact .bool _ | constructor
  · first | rfl | decide +kernel | kernel_rfl
  · intro _; exact ⟨List.nodup_nil, fun a h => (by cases h)⟩
  · by_cases hb : b = 99
    · subst hb
      have e0 : o = tabObj #[] := Option.some.inj (e.symm.trans hTab)
      subst e0
      obtain ⟨ps, h1, _⟩ := M'.ti
      exact .inr (.inl ⟨(hhd.tab hTab).isCodeTable, rfl, #[], ps, rfl, by rw [h1]; simp⟩)
    · exact .inl (t'.keep b o (by simp) (fun q => hb (List.mem_singleton.mp q)) rfl e)
  · by_cases hb : b = 99
    · subst hb
      obtain ⟨ps, h1, _⟩ := M'.ti
      exact ⟨_, h1⟩
    · exact ⟨o, t'.keep b o (by simp) (fun q => hb (List.mem_singleton.mp q)) rfl e⟩)


end Mine

theorem PySem.Challenge.cw_wj0046_01_holds : PySem.Challenge.rw_wj0046_01.Holds :=
  Mine.top1
