import PyProof.Rows.All
import Wide.All
import OpenK.AllK
import Wide.FinOn
import Lean
import PySem.Challenge.RW_op0050_01
set_option Elab.async false
set_option linter.all false
set_option tactic.hygienic false
noncomputable section
set_option hygiene false in
local macro_rules | `(tactic| x_close) => `(tactic| exact x_fin (by assumption) (by assumption) rfl rfl (by kernel_rfl))
section
open PySem PySem.W PyProof.Rows
namespace Mine
open PySem.Calls
inductive D where
 | none
 | bool (b : Bool)
 | int (i : Int)
 | str (s : Str)
 | list (l : List D)
 | tup (l : List D)
 | val (v : Value)
noncomputable abbrev listO (vs : List Value) (n : Nat) : Obj := { cls := .type "list", data := .seq vs.toArray n }
noncomputable abbrev tupO (vs : List Value) (n : Nat) : Obj := { cls := .type "tuple", data := .seq vs.toArray n }
mutual
noncomputable def Rep (X : List Addr) (h : Heap) : D → Value → Prop
 | .none, v => v = .none
 | .bool b, v => v = .bool b
 | .int i, v => ∃ t, v = .int i t
 | .str x, v => ∃ t, v = .str x t
 | .list l, v => ∃ a vs n, v = .ref a ∧ a ∉ X ∧ h.get? a = some (listO vs n) ∧ RepAll X h l vs
 | .tup l, v => ∃ a vs n, v = .ref a ∧ a ∉ X ∧ h.get? a = some (tupO vs n) ∧ RepAll X h l vs
 | .val x, v => v = x
noncomputable def RepAll (X : List Addr) (h : Heap) : List D → List Value → Prop
 | [], vs => vs = []
 | d :: ds, vs => ∃ v r, vs = v :: r ∧ Rep X h d v ∧ RepAll X h ds r
end
noncomputable def notFrame (o : Obj) : Prop := ∀ es n, o.data ≠ .dict es n
theorem notFrame_list {vs : List Value} {n : Nat} : notFrame (listO vs n) := fun o_ o_ h => by cases h
theorem notFrame_tup {vs : List Value} {n : Nat} : notFrame (tupO vs n) := fun o_ o_ h => by cases h
mutual
theorem Rep.mono {X X' : List Addr} {h h' : Heap} (k : ∀ a o, a ∉ X → h.get? a = some o → notFrame o → a ∉ X' ∧ h'.get? a = some o) : ∀ {d : D} {v : Value}, Rep X h d v → Rep X' h' d v
 | .none, _, r => r
 | .bool _, _, r => r
 | .int _, _, r => r
 | .str _, _, r => r
 | .val _, _, r => r
 | .list _, _, r => by
  obtain ⟨a, vs, n, rfl, ha, hg, hr⟩ := r
  obtain ⟨ha', hg'⟩ := k a _ ha hg notFrame_list
  exact ⟨a, vs, n, rfl, ha', hg', RepAll.mono k hr⟩
 | .tup _, _, r => by
  obtain ⟨a, vs, n, rfl, ha, hg, hr⟩ := r
  obtain ⟨ha', hg'⟩ := k a _ ha hg notFrame_tup
  exact ⟨a, vs, n, rfl, ha', hg', RepAll.mono k hr⟩
theorem RepAll.mono {X X' : List Addr} {h h' : Heap} (k : ∀ a o, a ∉ X → h.get? a = some o → notFrame o → a ∉ X' ∧ h'.get? a = some o) : ∀ {ds : List D} {vs : List Value}, RepAll X h ds vs → RepAll X' h' ds vs
 | [], _, r => r
 | _ :: _, _, r => by
  obtain ⟨v, r', rfl, h1, h2⟩ := r
  exact ⟨v, r', rfl, Rep.mono k h1, RepAll.mono k h2⟩
end
theorem RepAll.length {X : List Addr} {h : Heap} : ∀ {ds : List D} {vs : List Value}, RepAll X h ds vs → vs.length = ds.length
 | [], _, r => by cases r; rfl
 | _ :: _, _, r => by obtain ⟨v, r', rfl, _, h2⟩ := r; simp [RepAll.length h2]
theorem RepAll.cons {X : List Addr} {h : Heap} {d : D} {v : Value} {ds : List D} {vs : List Value} (a : Rep X h d v) (b : RepAll X h ds vs) : RepAll X h (d :: ds) (v :: vs) := ⟨v, vs, rfl, a, b⟩
theorem RepAll.append {X : List Addr} {h : Heap} : ∀ {ds es : List D} {vs us : List Value}, RepAll X h ds vs → RepAll X h es us → RepAll X h (ds ++ es) (vs ++ us)
 | [], _, _, _, a, b => by cases a; exact b
 | _ :: _, _, _, _, a, b => by obtain ⟨v, r', rfl, h1, h2⟩ := a; exact ⟨v, _, rfl, h1, RepAll.append h2 b⟩
theorem RepAll.get {X : List Addr} {h : Heap} : ∀ {ds : List D} {vs : List Value} {i : Nat} {d : D}, RepAll X h ds vs → ds[i]? = some d → ∃ v, vs[i]? = some v ∧ Rep X h d v
 | [], _, _, _, _, e => by simp at e
 | _ :: _, _, 0, _, a, e => by obtain ⟨v, r', rfl, h1, h2⟩ := a; cases e; exact ⟨v, rfl, h1⟩
 | _ :: _, _, i + 1, _, a, e => by
  obtain ⟨v, r', rfl, h1, h2⟩ := a
  obtain ⟨u, hu, hr⟩ := RepAll.get (i := i) h2 (by simpa using e)
  exact ⟨u, by simpa using hu, hr⟩
theorem RepAll.take {X : List Addr} {h : Heap} : ∀ {ds : List D} {vs : List Value} (n : Nat), RepAll X h ds vs → RepAll X h (ds.take n) (vs.take n)
 | _, _, 0, _ => by exact rfl
 | [], _, _ + 1, a => by cases a; exact rfl
 | _ :: _, _, n + 1, a => by obtain ⟨v, r', rfl, h1, h2⟩ := a; exact ⟨v, _, rfl, h1, RepAll.take n h2⟩
theorem RepAll.drop {X : List Addr} {h : Heap} : ∀ {ds : List D} {vs : List Value} (n : Nat), RepAll X h ds vs → RepAll X h (ds.drop n) (vs.drop n)
 | _, _, 0, a => a
 | [], _, _ + 1, a => by cases a; exact rfl
 | _ :: _, _, n + 1, a => by obtain ⟨v, r', rfl, h1, h2⟩ := a; exact RepAll.drop n h2
theorem RepAll.split {X : List Addr} {h : Heap} : ∀ {ds es : List D} {vs : List Value}, RepAll X h (ds ++ es) vs → ∃ us ws, vs = us ++ ws ∧ RepAll X h ds us ∧ RepAll X h es ws
 | [], _, vs, a => ⟨[], vs, rfl, rfl, a⟩
 | _ :: _, _, _, a => by
  obtain ⟨v, r', rfl, h1, h2⟩ := a
  obtain ⟨us, ws, rfl, h3, h4⟩ := RepAll.split h2
  exact ⟨v :: us, ws, rfl, ⟨v, us, rfl, h1, h3⟩, h4⟩
noncomputable def Kp (hb : Heap) (O : List Addr) (s s' : Shared) : Prop :=
 ∃ h tk, s' = { s with heap := h, toks := tk } ∧ ∀ b o, s.heap.get? b = some o → b ∉ O →
  h.get? b = some o ∨ (hb.get? b = none ∧ (∃ es n, o.data = .dict es n) ∧ ∃ sl, h.get? b = some { o with slots := sl })
theorem Kp.refl (hb : Heap) (O : List Addr) (s : Shared) : Kp hb O s s := ⟨s.heap, s.toks, rfl, fun o_ o_ e o_ => .inl e⟩
theorem Kp.toks {hb : Heap} {O : List Addr} {s s' : Shared} (k : Kp hb O s s') (t : Nat) : Kp hb O s { s' with toks := t } := by
 obtain ⟨h, tk, rfl, e⟩ := k; exact ⟨h, t, rfl, e⟩
theorem Kp.tok (hb : Heap) (O : List Addr) (s : Shared) (t : Nat) : Kp hb O s { s with toks := t } := (Kp.refl hb O s).toks t
theorem Kp.trans {hb : Heap} {O : List Addr} {s s' s'' : Shared} (k : Kp hb O s s') (k' : Kp hb O s' s'') : Kp hb O s s'' := by
 obtain ⟨h, tk, rfl, e⟩ := k
 obtain ⟨h', tk', rfl, e'⟩ := k'
 refine ⟨h', tk', rfl, fun b o ho hO => ?_⟩
 rcases e b o ho hO with e1 | ⟨n1, c1, sl, e1⟩
 ·exact e' b o e1 hO
 ·rcases e' b _ e1 hO with e2 | ⟨n2, c2, sl', e2⟩
  ·exact .inr ⟨n1, c1, sl, e2⟩
  ·exact .inr ⟨n1, c1, sl', e2⟩
theorem Kp.weaken {hb : Heap} {O O' : List Addr} {s s' : Shared} (k : Kp hb O s s') (hO : ∀ a ∈ O, a ∈ O') : Kp hb O' s s' := by
 obtain ⟨h, tk, rfl, e⟩ := k
 exact ⟨h, tk, rfl, fun b o ho hb => e b o ho fun q => hb (hO b q)⟩
theorem Kp.get {hb : Heap} {O : List Addr} {s s' : Shared} (k : Kp hb O s s') {b : Addr} {o : Obj} (ho : s.heap.get? b = some o) (hn : notFrame o) (hO : b ∉ O) : s'.heap.get? b = some o := by
 obtain ⟨h, tk, rfl, e⟩ := k
 rcases e b o ho hO with e1 | ⟨_, ⟨es, n, c⟩, _⟩
 ·exact e1
 ·exact absurd c (hn es n)
theorem Kp.data {hb : Heap} {O : List Addr} {s s' : Shared} (k : Kp hb O s s') {b : Addr} {o : Obj} (ho : s.heap.get? b = some o) (hO : b ∉ O) : ∃ o', s'.heap.get? b = some o' ∧ o'.data = o.data ∧ o'.cls = o.cls := by
 obtain ⟨h, tk, rfl, e⟩ := k
 rcases e b o ho hO with e1 | ⟨_, _, sl, e1⟩
 ·exact ⟨o, e1, rfl, rfl⟩
 ·exact ⟨_, e1, rfl, rfl⟩
theorem Kp.base {hb : Heap} {O : List Addr} {s s' : Shared} (k : Kp hb O s s') (st : hb.StaysIn s.heap) (hO : ∀ a ∈ O, hb.get? a = none) : hb.StaysIn s'.heap := fun b o e => by
 obtain ⟨h, tk, rfl, e'⟩ := k
 rcases e' b o (st b o e) (fun q => by rw [hO b q] at e; cases e) with e1 | ⟨n, _⟩
 ·exact e1
 ·cases e.symm.trans n
theorem Kp.ns {hb : Heap} {O : List Addr} {s s' : Shared} (k : Kp hb O s s') {a : Addr} {m : Str → Option Value} (hn : s.heap.Ns a m) (hO : a ∉ O) : s'.heap.Ns a m := by
 obtain ⟨o, es, ep, ho, hd, r⟩ := hn
 obtain ⟨o', ho', hd', _⟩ := k.data ho hO
 exact ⟨o', es, ep, ho', hd'.trans hd, r⟩
noncomputable def FF (h hb : Heap) (l : List Env) : Prop := h.FunFrames hb l ∧ ∀ a ∈ l.filterMap (·.frame), ∃ o es n, h.get? a = some o ∧ o.data = .dict es n
theorem FF.mem {h hb : Heap} {l : List Env} {a : Addr} (f : FF h hb l) (ha : a ∈ l.filterMap (·.frame)) : hb.get? a = none ∧ ∃ o, h.get? a = some o ∧ ∀ vs, o.data ≠ .fields vs := f.1.mem ha
theorem Kp.frames1 {hb : Heap} {O : List Addr} {s s' : Shared} (k : Kp hb O s s') {l : List Env} (hl : s.heap.FunFrames hb l) (hO : ∀ a ∈ l.filterMap (·.frame), a ∉ O) : s'.heap.FunFrames hb l := by
 induction l with
 | nil => trivial
 | cons env rest ih =>
  obtain ⟨hk, ⟨L, o, hf, hn, ho, hd⟩, hr⟩ := hl
  obtain ⟨o', ho', hd', _⟩ := k.data ho (hO L (by simp [hf]))
  exact ⟨hk, ⟨L, o', hf, hn, ho', fun vs => hd' ▸ hd vs⟩, ih hr fun a ha => hO a (by
   rw [List.filterMap_cons, hf]; exact List.mem_cons_of_mem _ ha)⟩
theorem Kp.frames {hb : Heap} {O : List Addr} {s s' : Shared} (k : Kp hb O s s') {l : List Env} (hl : FF s.heap hb l) (hO : ∀ a ∈ l.filterMap (·.frame), a ∉ O) : FF s'.heap hb l := by
 refine ⟨k.frames1 hl.1 hO, fun a ha => ?_⟩
 obtain ⟨o, es, n, ho, hd⟩ := hl.2 a ha
 obtain ⟨o', ho', hd', _⟩ := k.data ho (hO a ha)
 exact ⟨o', es, n, ho', hd'.trans hd⟩
theorem Kp.rep {hb : Heap} {O X : List Addr} {s s' : Shared} (k : Kp hb O s s') (hO : ∀ a ∈ O, a ∈ X) {d : D} {v : Value} (r : Rep X s.heap d v) : Rep X s'.heap d v :=
 r.mono fun a o_ ha ho hn => ⟨ha, k.get ho hn fun q => ha (hO a q)⟩
theorem Kp.repAll {hb : Heap} {O X : List Addr} {s s' : Shared} (k : Kp hb O s s') (hO : ∀ a ∈ O, a ∈ X) {ds : List D} {vs : List Value} (r : RepAll X s.heap ds vs) : RepAll X s'.heap ds vs :=
 r.mono fun a o_ ha ho hn => ⟨ha, k.get ho hn fun q => ha (hO a q)⟩
theorem Kp.rest {hb : Heap} {O : List Addr} {s s' : Shared} (k : Kp hb O s s') : ∃ h tk, s' = { s with heap := h, toks := tk } := by
 obtain ⟨h, tk, e, _⟩ := k; exact ⟨h, tk, e⟩
noncomputable def VarAt (env : Env) (h : Heap) (x : Str) (v : Value) : Prop :=
 (env.kindOf x = some .local ∧ ∃ m, h.Ns env.locals m ∧ m x = some v) ∨
 ((env.kindOf x = some .cell ∨ env.kindOf x = some .free) ∧ ∃ c, env.cells.lookup x = some c ∧ h.IsCell c (some v))
noncomputable def homes (env : Env) : List Addr := env.locals :: env.cells.map (·.2)
theorem VarAt.kp {hb : Heap} {O : List Addr} {s s' : Shared} {env : Env} {x : Str} {v : Value} (k : Kp hb O s s') (hO : ∀ a ∈ homes env, a ∉ O) (r : VarAt env s.heap x v) : VarAt env s'.heap x v := by
 rcases r with ⟨hk, m, hn, hm⟩ | ⟨hk, c, hc, o, ho, hd⟩
 ·exact .inl ⟨hk, m, k.ns hn (hO _ (by simp [homes])), hm⟩
 ·obtain hcm : c ∈ homes env := by
   refine List.mem_cons_of_mem _ (List.mem_map.mpr ⟨(x, c), ?_, rfl⟩)
   exact mem_of_lookup_some hc
  obtain ⟨o', ho', hd', _⟩ := k.data ho (hO c hcm)
  exact .inr ⟨hk, c, hc, o', ho', hd'.trans hd⟩
where
 mem_of_lookup_some {l : List (Str × Addr)} {x : Str} {c : Addr} (h : l.lookup x = some c) : (x, c) ∈ l := by
  induction l with
  | nil => cases h
  | cons p r ih =>
   obtain ⟨y, b⟩ := p
   rw [List.lookup_cons] at h
   cases q : x == y with
   | true => rw [q] at h; cases h; rw [eq_of_beq q]; exact .head _
   | false => rw [q] at h; exact .tail _ (ih h)
set_option genInjectivity false in
set_option genSizeOf false in
structure Cx where
 prog : Program
 w : World
 A : Around
 hb : Heap
 env : Env
 X : List Addr
 vars : List (Str × D)
 own : List (Addr × List D) := []
structure Ok (c : Cx) (s : Shared) : Prop where
 base : c.hb.StaysIn s.heap
 frames : ∃ l, c.A.frames = some l ∧ FF s.heap c.hb l
 xin : ∀ a ∈ c.X, ∃ o, s.heap.get? a = some o
 vars : ∀ x d, c.vars.lookup x = some d → ∃ v, VarAt c.env s.heap x v ∧ Rep c.X s.heap d v
 own : ∀ p ∈ c.own, p.1 ∈ c.X ∧ ∃ vs n, s.heap.get? p.1 = some (listO vs n) ∧ RepAll c.X s.heap p.2 vs
 home : ∀ a ∈ homes c.env, ∃ ob, s.heap.get? a = some ob
theorem Ok.kp {c : Cx} {s s' : Shared} (o : Ok c s) (k : Kp c.hb [] s s') : Ok c s' where
 base := k.base o.base fun o_ h => (nomatch h)
 frames := by obtain ⟨l, hl, hf⟩ := o.frames; exact ⟨l, hl, k.frames hf fun o_ o_ h => (nomatch h)⟩
 xin := fun a ha => by obtain ⟨o', ho⟩ := o.xin a ha; obtain ⟨o₂, h2, _⟩ := k.data ho fun h => (nomatch h); exact ⟨o₂, h2⟩
 vars := fun x d hx => by
  obtain ⟨v, hv, hr⟩ := o.vars x d hx
  exact ⟨v, hv.kp k fun o_ o_ h => (nomatch h), k.rep (fun o_ h => (nomatch h)) hr⟩
 own := fun p hp => by
  obtain ⟨hx, vs, n, hg, hr⟩ := o.own p hp
  exact ⟨hx, vs, n, k.get hg notFrame_list fun h => (nomatch h), k.repAll (fun o_ h => (nomatch h)) hr⟩
 home := fun a ha => by obtain ⟨o', ho⟩ := o.home a ha; obtain ⟨o₂, h2, _⟩ := k.data ho fun h => (nomatch h); exact ⟨o₂, h2⟩
inductive LstD (c : Cx) : D → List D → Prop
 | val {ds : List D} : LstD c (.list ds) ds
 | own {a : Addr} {ds : List D} : (a, ds) ∈ c.own → LstD c (.val (.ref a)) ds
theorem LstD.at {c : Cx} {s : Shared} {d : D} {ds : List D} {v : Value} (l : LstD c d ds) (o : Ok c s) (r : Rep c.X s.heap d v) : ∃ a vs n, v = .ref a ∧ s.heap.get? a = some (listO vs n) ∧ RepAll c.X s.heap ds vs := by
 cases l with
 | val => obtain ⟨a, vs, n, rfl, _, hg, hr⟩ := r; exact ⟨a, vs, n, rfl, hg, hr⟩
 | own hm => obtain ⟨_, vs, n, hg, hr⟩ := o.own _ hm; exact ⟨_, vs, n, r, hg, hr⟩
noncomputable def Ev (c : Cx) (e : Expr) (d : D) : Prop :=
 ∀ s E, Ok c s → wpAny (model c.prog c.w) c.A (eval e c.env) (fun v s' => Kp c.hb [] s s' ∧ Rep c.X s'.heap d v) E s
noncomputable def Et (c : Cx) (e : Expr) (b : Bool) : Prop :=
 ∀ s E, Ok c s → wpAny (model c.prog c.w) c.A (isTrue e c.env (eval e c.env)) (fun r s' => Kp c.hb [] s s' ∧ r = b) E s
noncomputable def Room (A : Around) (k : Nat) : Prop := A.handled = none ∧ A.depth + k < 900 ∧ A.units + 100 * k < 9700
theorem Room.deeper {A : Around} {k : Nat} (r : Room A (k + 1)) (env : Env) : Room (A.deeper env) k := by
 obtain ⟨a, b, c⟩ := r
 refine ⟨a, ?_, ?_⟩
 ·show A.depth + 1 + k < 900; grind
 ·show A.units + 3 + 100 * k < 9700; grind
theorem Room.mono {A : Around} {k k' : Nat} (r : Room A k) (h : k' ≤ k) : Room A k' := by
 obtain ⟨a, b, c⟩ := r; exact ⟨a, by grind, by grind⟩
theorem Room.depth {A : Around} {k : Nat} (r : Room A k) : A.depth < recursionLimit := by
 obtain ⟨_, b, _⟩ := r; show A.depth < 1000; grind
theorem Room.units {A : Around} {k : Nat} (r : Room A k) : A.units + 64 < cLine := by
 obtain ⟨_, _, b⟩ := r; show A.units + 64 < 9900; grind
theorem cutQ {α : Type} {M : Model} {A : Around} {m : Sem α} {Q : α → Shared → Prop} {E : Value → Shared → Prop} {s : Shared} (h : ∀ (Q' : α → Shared → Prop) (E' : Value → Shared → Prop), (∀ a s, Q a s → Q' a s) → (∀ e s, E e s → E' e s) → wpAny M A m Q' E' s) : wpAny M A m Q E s :=
 h Q E (fun o_ o_ x => x) fun o_ o_ x => x
theorem cutR {M : Model} {A : Around} {c : Code} {R : Result → Shared → Prop} {s : Shared} (h : ∀ R' : Result → Shared → Prop, (∀ r s, R r s → R' r s) → codeAny M A c R' s) : codeAny M A c R s :=
 h R fun o_ o_ x => x
theorem all_one {α : Type} {P : α → Prop} {x : α} (h : P x) : ∀ a ∈ [x], P a := fun o_ ha => (List.mem_singleton.mp ha).symm ▸ h
theorem no_nil {α : Type} {a : α} {P : Prop} (h : a ∈ ([] : List α)) : P := by cases h
theorem mem_c {α : Type} {a x : α} {l : List α} (h : a ∈ x :: l) : x = a ∨ a ∈ l := (List.mem_cons.mp h).imp Eq.symm id
theorem mem_1 {α : Type} {a x : α} (h : a ∈ [x]) : x = a := (List.mem_singleton.mp h).symm
theorem no_some {α : Type} {x : α} {P : Prop} (h : none = some x) : P := by cases h
theorem clash {h : Heap} {a b : Addr} {o : Obj} {P : Prop} (z : a = b) (n : h.get? b = none) (e : h.get? a = some o) : P := by rw [z, n] at e; cases e
theorem in_1 {α : Type} {a x : α} {l : List α} (h : a ∈ [x]) (hx : x ∈ l) : a ∈ l := mem_1 h ▸ hx
theorem all_cons {α : Type} {P : α → Prop} {x : α} {l : List α} (h : P x) (H : ∀ a ∈ l, P a) : ∀ a ∈ x :: l, P a := List.forall_mem_cons.mpr ⟨h, H⟩
theorem all_nil {α : Type} {P : α → Prop} : ∀ a ∈ ([] : List α), P a := fun a h => no_nil h
theorem or_b {a b : Bool} (h : (a || b) = true) : a = true ∨ b = true := by cases a; exact .inr h; exact .inl rfl
theorem and_b {a b : Bool} (h : (a && b) = true) : a = true ∧ b = true := by cases a; cases h; exact ⟨rfl, h⟩
theorem cutG {G : Prop} (h : ∀ P : Prop, (G → P) → P) : G := h G id
end Mine
end
section
open PySem PySem.W PyProof.Rows
namespace Mine
open PySem.Calls
theorem Kp.push (hb : Heap) (s : Shared) (o : Obj) : Kp hb [] s { s with heap := s.heap.push o } :=
 ⟨_, s.toks, rfl, fun o_ o_ e o_ => .inl (Heap.get?_push_of_some _ e)⟩
theorem xfresh {X : List Addr} {h : Heap} (hx : ∀ a ∈ X, ∃ o, h.get? a = some o) : h.objs.size ∉ X := fun q => by
 obtain ⟨o, e⟩ := hx _ q; exact absurd (Heap.lt_size e) (Nat.lt_irrefl _)
theorem RepAll.push {X : List Addr} {h : Heap} {ds : List D} {vs : List Value} (r : RepAll X h ds vs) (o : Obj) : RepAll X (h.push o) ds vs :=
 r.mono fun o_ o_ ha e o_ => ⟨ha, Heap.get?_push_of_some _ e⟩
theorem rep_new_list {X : List Addr} {h : Heap} {ds : List D} {vs : List Value} {n : Nat} (hx : ∀ a ∈ X, ∃ o, h.get? a = some o) (r : RepAll X h ds vs) : Rep X (h.push (listO vs n)) (.list ds) (.ref h.objs.size) :=
 ⟨_, vs, n, rfl, xfresh hx, Heap.get?_push_size _ rfl, r.push _⟩
theorem rep_new_tup {X : List Addr} {h : Heap} {ds : List D} {vs : List Value} {n : Nat} (hx : ∀ a ∈ X, ∃ o, h.get? a = some o) (r : RepAll X h ds vs) : Rep X (h.push (tupO vs n)) (.tup ds) (.ref h.objs.size) :=
 ⟨_, vs, n, rfl, xfresh hx, Heap.get?_push_size _ rfl, r.push _⟩
section
variable {c : Cx}
theorem Ev.weak {e : Expr} {d d' : D} (h : Ev c e d) (eq : d = d') : Ev c e d' := eq ▸ h
theorem Et.weak {e : Expr} {d d' : Bool} (h : Et c e d) (eq : d = d') : Et c e d' := eq ▸ h
theorem ev_int {i : Int} {k : Nat} {pos : Pos} : Ev c (.Constant (.int i) k pos) (.int i) := fun o_ o_ o_ =>
 wpAny_Constant_int ⟨Kp.tok _ _ _ _, _, rfl⟩
theorem ev_str {x : Str} {k : Nat} {pos : Pos} : Ev c (.Constant (.str x) k pos) (.str x) := fun s o_ o_ => by
 show wpAny _ _ (mkText x) _ _ s
 exact wpAny_mkText ⟨Kp.tok _ _ _ _, _, rfl⟩
theorem ev_none {k : Nat} {pos : Pos} : Ev c (.Constant .none k pos) .none := fun o_ o_ o_ => Constant_none ⟨Kp.refl _ _ _, rfl⟩
theorem ev_bool {b : Bool} {k : Nat} {pos : Pos} : Ev c (.Constant (.bool b) k pos) (.bool b) := fun o_ o_ o_ => Constant_bool ⟨Kp.refl _ _ _, rfl⟩
theorem ld_var {x : Str} {d : D} (hv : c.vars.lookup x = some d) (hk : c.env.scope.kind = .function) (hn : (x == ("__classdict__" : Str)) = false)
  {s : Shared} {E : Value → Shared → Prop} (o : Ok c s) : wpAny (model c.prog c.w) c.A (loadName c.env x) (fun v s' => Kp c.hb [] s s' ∧ Rep c.X s'.heap d v) E s := by
 obtain ⟨v, hv, hr⟩ := o.vars x d hv
 rcases hv with ⟨hkx, m, hm, hx⟩ | ⟨hkx, a, ha, hc⟩
 ·exact wpAny_loadName_local hk hkx hm hx ⟨Kp.refl _ _ _, hr⟩
 ·rcases hkx with hkx | hkx
  ·exact wpAny_loadName_cell hk hkx ha hc ⟨Kp.refl _ _ _, hr⟩
  ·exact wpAny_loadName_free hk hkx ha hc ⟨Kp.refl _ _ _, hr⟩ hn
theorem ev_var {x : Str} {d : D} {pos : Pos} (hv : c.vars.lookup x = some d) (hk : c.env.scope.kind = .function := by rfl) (hn : (x == ("__classdict__" : Str)) = false := by decide) (hd : (x == ("__debug__" : Str)) = false := by decide) :
  Ev c (.Name x pos) d := fun o_ o_ o => wpAny_Name (ld_var hv hk hn o) hd
structure Names (hb : Heap) (mg mb : Str → Option Value) : Prop where
 g : hb.Ns mainGlobals mg
 b : hb.Ns builtinsNs mb
 nolimit : hb.NoLimit
theorem ev_global {mg mb : Str → Option Value} (N : Names c.hb mg mb) {x : Str} {v : Value} {pos : Pos} (hv : mg x = some v) (hk : c.env.scope.kind = .function := by rfl) (hg : c.env.globals = mainGlobals := by rfl)
  (hx : c.env.kindOf x = some .globalImplicit := by rfl) (hd : (x == ("__debug__" : Str)) = false := by decide) : Ev c (.Name x pos) (.val v) := fun s o_ o =>
 Name_function_global hk hx (loadGlobal_global (env := c.env) (by rw [hg]; exact N.g.keeps o.base) hv ⟨Kp.refl _ _ _, rfl⟩) hd
theorem ev_builtin {mg mb : Str → Option Value} (N : Names c.hb mg mb) {x : Str} {v : Value} {pos : Pos} (hn : mg x = none) (hv : mb x = some v) (hk : c.env.scope.kind = .function := by rfl) (hg : c.env.globals = mainGlobals := by rfl) (hb : c.env.builtins = builtinsNs := by rfl)
  (hx : c.env.kindOf x = some .globalImplicit := by rfl) (hd : (x == ("__debug__" : Str)) = false := by decide) : Ev c (.Name x pos) (.val v) := fun s o_ o =>
 Name_function_global hk hx (loadGlobal_builtin (env := c.env) (by rw [hg]; exact N.g.keeps o.base) hn (by rw [hb]; exact N.b.keeps o.base) hv ⟨Kp.refl _ _ _, rfl⟩) hd
theorem ev_bin {l r : Expr} {op : Operator} {pos : Pos} {dl dr d : D} (hl : Ev c l dl) (hr : Ev c r dr)
  (h : ∀ s E a b, Ok c s → Rep c.X s.heap dl a → Rep c.X s.heap dr b → wpAny (model c.prog c.w) c.A (binaryOp op a b) (fun v s' => Kp c.hb [] s s' ∧ Rep c.X s'.heap d v) E s) : Ev c (.BinOp l op r pos) d := fun s E o => by
 refine wpAny_BinOp (wpAny_mono (hl s E o) (fun a s₁ h₁ => ?_) fun o_ o_ e => e)
 refine wpAny_mono (hr s₁ E (o.kp h₁.1)) (fun b s₂ h₂ => ?_) fun o_ o_ e => e
 refine wpAny_mono (h s₂ E a b ((o.kp h₁.1).kp h₂.1) (h₂.1.rep (fun o_ h => (nomatch h)) h₁.2) h₂.2) (fun v s₃ h₃ => ⟨(h₁.1.trans h₂.1).trans h₃.1, h₃.2⟩) fun o_ o_ e => e
section
variable {l r : Expr} {pos : Pos} {i j : Int}
theorem ev_add (hl : Ev c l (.int i)) (hr : Ev c r (.int j)) : Ev c (.BinOp l .Add r pos) (.int (i + j)) := ev_bin hl hr fun s E a b o_ ha hb => by
 obtain ⟨t, rfl⟩ := ha; obtain ⟨u, rfl⟩ := hb; exact add_int ⟨Kp.tok _ _ _ _, _, rfl⟩
theorem ev_sub (hl : Ev c l (.int i)) (hr : Ev c r (.int j)) : Ev c (.BinOp l .Sub r pos) (.int (i - j)) := ev_bin hl hr fun s E a b o_ ha hb => by
 obtain ⟨t, rfl⟩ := ha; obtain ⟨u, rfl⟩ := hb; exact sub_int ⟨Kp.tok _ _ _ _, _, rfl⟩
theorem ev_mod (hl : Ev c l (.int i)) (hr : Ev c r (.int j)) (hj : j ≠ 0) : Ev c (.BinOp l .Mod r pos) (.int (i.fmod j)) := ev_bin hl hr fun s E a b o_ ha hb => by
 obtain ⟨t, rfl⟩ := ha; obtain ⟨u, rfl⟩ := hb; exact mod_int' hj ⟨Kp.tok _ _ _ _, _, rfl⟩
theorem ev_fdiv (hl : Ev c l (.int i)) (hr : Ev c r (.int j)) (hj : j ≠ 0) (hs : j.natAbs < 1073741824) : Ev c (.BinOp l .FloorDiv r pos) (.int (i.fdiv j)) := ev_bin hl hr fun s E a b o_ ha hb => by
 obtain ⟨t, rfl⟩ := ha; obtain ⟨u, rfl⟩ := hb; exact floordiv_int hj ⟨Kp.tok _ _ _ _, _, rfl⟩ (.inl (PyProof.noPylong_small hs))
theorem ev_and (hl : Ev c l (.int i)) (hr : Ev c r (.int j)) : Ev c (.BinOp l .BitAnd r pos) (.int (Builtin.bitAnd i j)) := ev_bin hl hr fun s E a b o_ ha hb => by
 obtain ⟨t, rfl⟩ := ha; obtain ⟨u, rfl⟩ := hb; exact and_int ⟨Kp.tok _ _ _ _, _, rfl⟩
theorem ev_or (hl : Ev c l (.int i)) (hr : Ev c r (.int j)) : Ev c (.BinOp l .BitOr r pos) (.int (Builtin.bitOr i j)) := ev_bin hl hr fun s E a b o_ ha hb => by
 obtain ⟨t, rfl⟩ := ha; obtain ⟨u, rfl⟩ := hb; exact or_int ⟨Kp.tok _ _ _ _, _, rfl⟩
theorem ev_shl (hl : Ev c l (.int i)) (hr : Ev c r (.int j)) (h0 : 0 ≤ j) (h1 : j ≤ 1000000) (h2 : i.natAbs < 2 ^ 64) : Ev c (.BinOp l .LShift r pos) (.int (i * 2 ^ j.toNat)) := ev_bin hl hr fun s E a b o_ ha hb => by
 obtain ⟨t, rfl⟩ := ha; obtain ⟨u, rfl⟩ := hb; exact lshift_int_small h0 h1 h2 ⟨Kp.tok _ _ _ _, _, rfl⟩
theorem ev_shr (hl : Ev c l (.int i)) (hr : Ev c r (.int j)) (h0 : 0 ≤ j) : Ev c (.BinOp l .RShift r pos) (.int (i.fdiv (2 ^ j.toNat))) := ev_bin hl hr fun s E a b o_ ha hb => by
 obtain ⟨t, rfl⟩ := ha; obtain ⟨u, rfl⟩ := hb; exact rshift_int h0 ⟨Kp.tok _ _ _ _, _, rfl⟩
theorem ev_subb {p q : Bool} (hl : Ev c l (.bool p)) (hr : Ev c r (.bool q)) : Ev c (.BinOp l .Sub r pos) (.int (b2i p - b2i q)) := ev_bin hl hr fun s E a b o_ ha hb => by
 cases ha; cases hb; exact sub_bool ⟨Kp.tok _ _ _ _, _, rfl⟩
end
theorem ev_neg {e : Expr} {pos : Pos} {i : Int} (h : Ev c e (.int i)) : Ev c (.UnaryOp .USub e pos) (.int (-i)) := fun s E o =>
 UnaryOp_ (wpAny_mono (h s E o) (fun v s₁ h₁ => by obtain ⟨t, rfl⟩ := h₁.2; exact PyProof.Rows.neg_int ⟨h₁.1.trans (Kp.tok _ _ _ _), _, rfl⟩) fun o_ o_ e => e)
noncomputable def Cmp (c : Cx) (op : CmpOp) (dl dr : D) (b : Bool) : Prop :=
 ∀ s E x y, Ok c s → Rep c.X s.heap dl x → Rep c.X s.heap dr y → wpAny (model c.prog c.w) c.A (compareOp op x y) (fun v s' => Kp c.hb [] s s' ∧ v = .bool b) E s
theorem ev_cmp {l r : Expr} {op : CmpOp} {pos : Pos} {dl dr : D} {b : Bool} (hl : Ev c l dl) (hr : Ev c r dr) (h : Cmp c op dl dr b)
  (hm : behindInMarks op r = false := by rfl) : Ev c (.Compare l [op] [r] pos) (.bool b) := fun s E o => by
 refine wpAny_Compare1 (wpAny_mono (hl s E o) (fun x s₁ h₁ => ?_) fun o_ o_ e => e) hm
 refine wpAny_mono (hr s₁ E (o.kp h₁.1)) (fun y s₂ h₂ => ?_) fun o_ o_ e => e
 exact wpAny_mono (h s₂ E x y ((o.kp h₁.1).kp h₂.1) (h₂.1.rep (fun o_ h => (nomatch h)) h₁.2) h₂.2) (fun v s₃ h₃ => ⟨(h₁.1.trans h₂.1).trans h₃.1, h₃.2⟩) fun o_ o_ e => e
theorem et_cmp {l r : Expr} {op : CmpOp} {pos : Pos} {dl dr : D} {b : Bool} (hl : Ev c l dl) (hr : Ev c r dr) (h : Cmp c op dl dr b)
  (hm : behindInMarks op r = false := by rfl) : Et c (.Compare l [op] [r] pos) b := fun s E o => by
 refine wpAny_isTrue_Compare1 (wpAny_mono (hl s E o) (fun x s₁ h₁ => ?_) fun o_ o_ e => e) hm
 refine wpAny_mono (hr s₁ E (o.kp h₁.1)) (fun y s₂ h₂ => ?_) fun o_ o_ e => e
 exact wpAny_mono (h s₂ E x y ((o.kp h₁.1).kp h₂.1) (h₂.1.rep (fun o_ h => (nomatch h)) h₁.2) h₂.2) (fun v s₃ h₃ => by
  obtain ⟨k, rfl⟩ := h₃; exact wpAny_truthy_bool ⟨(h₁.1.trans h₂.1).trans k, rfl⟩) fun o_ o_ e => e
theorem cmp_lt {i j : Int} : Cmp c .Lt (.int i) (.int j) (decide (i < j)) := fun s E x y o_ hx hy => by
 obtain ⟨t, rfl⟩ := hx; obtain ⟨u, rfl⟩ := hy; exact lt_int ⟨Kp.refl _ _ _, rfl⟩
theorem cmp_gt {i j : Int} : Cmp c .Gt (.int i) (.int j) (decide (j < i)) := fun s E x y o_ hx hy => by
 obtain ⟨t, rfl⟩ := hx; obtain ⟨u, rfl⟩ := hy; exact gt_int ⟨Kp.refl _ _ _, rfl⟩
theorem cmp_eq_int {i j : Int} : Cmp c .Eq (.int i) (.int j) (i == j) := fun s E x y o_ hx hy => by
 obtain ⟨t, rfl⟩ := hx; obtain ⟨u, rfl⟩ := hy; exact eq_int ⟨Kp.refl _ _ _, rfl⟩
theorem cmp_is_none {d : D} (h : ∀ X h v, Rep X h d v → v ≠ .none) : Cmp c .Is d .none false := fun s E x y o_ hx hy => by
 cases hy; exact is_none_ne (h _ _ _ hx) ⟨Kp.refl _ _ _, rfl⟩
theorem cmp_is_none_none : Cmp c .Is .none .none true := fun s E x y o_ hx hy => by
 cases hx; cases hy; exact is_none_none ⟨Kp.refl _ _ _, rfl⟩
theorem cmp_isnot_bool {p q : Bool} : Cmp c .IsNot (.bool p) (.bool q) (!(p == q)) := fun s E x y o_ hx hy => by
 cases hx; cases hy
 refine wpAny_isNot_plain (by cases p <;> cases q <;> rfl) ⟨Kp.refl _ _ _, ?_⟩
 cases p <;> cases q <;> rfl
theorem cmp_is_self {a : Addr} : Cmp c .Is (.val (.ref a)) (.val (.ref a)) true := fun s E x y o_ hx hy => by
 cases hx; cases hy; exact wpAny_is_ref_self ⟨Kp.refl _ _ _, rfl⟩
mutual
noncomputable def D.py : D → PyData
 | .none => .none
 | .bool b => .bool b
 | .int i => .int i
 | .str x => .str x
 | .list l => .list (D.pys l)
 | .tup l => .tuple (D.pys l)
 | .val _ => .none
noncomputable def D.pys : List D → List PyData
 | [] => []
 | d :: ds => d.py :: D.pys ds
end
mutual
noncomputable def D.plain : D → Bool
 | .none | .bool _ | .int _ => true
 | .str x => PyData.strOk x
 | .list l => D.plains l
 | .tup l => D.plains l
 | .val _ => false
noncomputable def D.plains : List D → Bool
 | [] => true
 | d :: ds => d.plain && D.plains ds
end
mutual
theorem D.canLay : ∀ {d : D}, d.plain = true → d.py.canLay0 = true
 | .none, _ | .bool _, _ | .int _, _ => rfl
 | .str _, h => h
 | .list l, h => by exact D.canLays (ds := l) h
 | .tup l, h => by exact D.canLays (ds := l) h
 | .val _, h => by cases h
theorem D.canLays : ∀ {ds : List D}, D.plains ds = true → PyData.canLayAll0 (D.pys ds) = true
 | [], _ => rfl
 | d :: ds, h => by
  show (PyData.canLay0 d.py && PyData.canLayAll0 (D.pys ds)) = true
  rw [D.canLay (and_b h).1, D.canLays (and_b h).2]; rfl
end
mutual
theorem Rep.reads {X : List Addr} {h : Heap} : ∀ {d : D} {v : Value}, Rep X h d v → d.plain = true → ∃ as, Reads h v d.py as
 | .none, _, r, _ => by cases r; exact ⟨[], .none⟩
 | .bool _, _, r, _ => by cases r; exact ⟨[], .bool _⟩
 | .int _, _, r, _ => by obtain ⟨t, rfl⟩ := r; exact ⟨[], .int _ _⟩
 | .str _, _, r, _ => by obtain ⟨t, rfl⟩ := r; exact ⟨[], .str _ _⟩
 | .list _, _, r, p => by
  refine cutG fun P_ hP_ => ?_
  obtain ⟨a, vs, n, rfl, _, hg, hr⟩ := r
  obtain ⟨as, ha⟩ := RepAll.reads hr p
  refine hP_ ?_
  clear hP_ P_
  exact ⟨a :: as, .list hg rfl rfl ha⟩
 | .tup _, _, r, p => by
  refine cutG fun P_ hP_ => ?_
  obtain ⟨a, vs, n, rfl, _, hg, hr⟩ := r
  obtain ⟨as, ha⟩ := RepAll.reads hr p
  refine hP_ ?_
  clear hP_ P_
  exact ⟨as, .tuple hg rfl rfl ha⟩
 | .val _, _, _, p => by cases p
theorem RepAll.reads {X : List Addr} {h : Heap} : ∀ {ds : List D} {vs : List Value}, RepAll X h ds vs → D.plains ds = true → ∃ as, ReadsAll h vs (D.pys ds) as
 | [], _, r, _ => by cases r; exact ⟨[], .nil⟩
 | d :: ds, _, r, p => by
  refine cutG fun P_ hP_ => ?_
  obtain ⟨v, r', rfl, h1, h2⟩ := r
  have h' : d.plain = true ∧ D.plains ds = true := and_b p
  obtain ⟨as, ha⟩ := Rep.reads h1 h'.1
  obtain ⟨bs, hb⟩ := RepAll.reads h2 h'.2
  refine hP_ ?_
  clear hP_ P_
  exact ⟨_, .cons ha hb⟩
end
theorem lst_reads {ds : List D} {s : Shared} {a : Addr} {vs : List Value} {n : Nat} (hg : s.heap.get? a = some (listO vs n)) (hr : RepAll c.X s.heap ds vs) (p : D.plains ds = true) : ∃ as, Reads s.heap (.ref a) (.list (D.pys ds)) as := by
 obtain ⟨as, ha⟩ := hr.reads p
 exact ⟨a :: as, .list hg rfl rfl ha⟩
theorem cmp_eq {k : Nat} (hr : Room c.A k) {dl dr : D} (pl : dl.plain = true) (pr : dr.plain = true) (hd : dl.py.depth ≤ 60) : Cmp c .Eq dl dr (PyData.eqv dl.py dr.py) := fun s E x y o_ hx hy => by
 obtain ⟨as, ra⟩ := hx.reads pl
 obtain ⟨bs, rb⟩ := hy.reads pr
 obtain hu := hr.units
 exact SeqAt.compareEq_reads ra rb (D.canLay pl) (D.canLay pr) (by have : min dl.py.depth dr.py.depth ≤ dl.py.depth := Nat.min_le_left _ _; grind) ⟨Kp.refl _ _ _, rfl⟩
theorem cmp_ne {k : Nat} (hr : Room c.A k) {dl dr : D} (pl : dl.plain = true) (pr : dr.plain = true) (hd : dl.py.depth ≤ 60) : Cmp c .NotEq dl dr (!PyData.eqv dl.py dr.py) := fun s E x y o_ hx hy => by
 obtain ⟨as, ra⟩ := hx.reads pl
 obtain ⟨bs, rb⟩ := hy.reads pr
 obtain hu := hr.units
 exact SeqAt.compareNe_reads ra rb (D.canLay pl) (D.canLay pr) (by have : min dl.py.depth dr.py.depth ≤ dl.py.depth := Nat.min_le_left _ _; grind) ⟨Kp.refl _ _ _, rfl⟩
theorem cmp_in {k : Nat} (hr : Room c.A k) {d dr : D} {ds : List D} (l : LstD c dr ds) (pd : d.plain = true) (pl : D.plains ds = true) (hd : d.py.depth ≤ 60) : Cmp c .In d dr ((D.pys ds).any fun y => PyData.eqv y d.py) := fun s E x y o hx hy => by
 refine cutG fun P_ hP_ => ?_
 obtain ⟨a, vs, n, rfl, hg, hr'⟩ := l.at o hy
 obtain ⟨as, ra⟩ := lst_reads hg hr' pl
 obtain ⟨bs, rb⟩ := hx.reads pd
 refine hP_ ?_
 clear hP_ P_
 obtain hu := hr.units
 exact SeqAt.in_list_reads ra rb (D.canLays pl) (D.canLay pd) (by have : min (PyData.depthAll (D.pys ds)) d.py.depth ≤ d.py.depth := Nat.min_le_right _ _; grind) ⟨Kp.refl _ _ _, rfl⟩
theorem cmp_notin {k : Nat} (hr : Room c.A k) {d dr : D} {ds : List D} (l : LstD c dr ds) (pd : d.plain = true) (pl : D.plains ds = true) (hd : d.py.depth ≤ 60) : Cmp c .NotIn d dr (!(D.pys ds).any fun y => PyData.eqv y d.py) := fun s E x y o hx hy => by
 refine cutG fun P_ hP_ => ?_
 obtain ⟨a, vs, n, rfl, hg, hr'⟩ := l.at o hy
 obtain ⟨as, ra⟩ := lst_reads hg hr' pl
 obtain ⟨bs, rb⟩ := hx.reads pd
 refine hP_ ?_
 clear hP_ P_
 obtain hu := hr.units
 exact SeqAt.notIn_list_reads ra rb (D.canLays pl) (D.canLay pd) (by have : min (PyData.depthAll (D.pys ds)) d.py.depth ≤ d.py.depth := Nat.min_le_right _ _; grind) ⟨Kp.refl _ _ _, rfl⟩
theorem et_not {e : Expr} {pos : Pos} {b : Bool} (h : Et c e b) : Et c (.UnaryOp .Not e pos) (!b) := fun s E o =>
 isTrue_not (wpAny_mono (h s E o) (fun r s' hr => by obtain ⟨k, rfl⟩ := hr; exact ⟨k, rfl⟩) fun o_ o_ e => e)
theorem et_or_nil {pos : Pos} : Et c (.BoolOp .Or [] pos) false := fun o_ o_ o_ => isTrue_or_nil ⟨Kp.refl _ _ _, rfl⟩
theorem et_and_nil {pos : Pos} : Et c (.BoolOp .And [] pos) true := fun o_ o_ o_ => isTrue_and_nil ⟨Kp.refl _ _ _, rfl⟩
theorem et_or {e : Expr} {rest : List Expr} {pos : Pos} {p q : Bool} (h : Et c e p) (h2 : p = false → Et c (.BoolOp .Or rest pos) q) (hw : ∀ (w w' : Sem Value), isTrue (.BoolOp .Or rest pos) c.env w = isTrue (.BoolOp .Or rest pos) c.env w' := by intros; rfl) :
  Et c (.BoolOp .Or (e :: rest) pos) (p || q) := fun s E o => isTrue_or (wpAny_mono (h s E o) (fun r s' hr => by
   obtain ⟨k, rfl⟩ := hr
   cases r with
   | true => exact ⟨k, rfl⟩
   | false =>
    rw [if_neg Bool.false_ne_true]
    rw [hw _ (eval (.BoolOp .Or rest pos) c.env)]
    exact wpAny_mono (h2 rfl s' E (o.kp k)) (fun r s'' h' => ⟨k.trans h'.1, h'.2⟩) fun o_ o_ e => e) fun o_ o_ e => e)
theorem et_and {e : Expr} {rest : List Expr} {pos : Pos} {p q : Bool} (h : Et c e p) (h2 : p = true → Et c (.BoolOp .And rest pos) q) (hw : ∀ (w w' : Sem Value), isTrue (.BoolOp .And rest pos) c.env w = isTrue (.BoolOp .And rest pos) c.env w' := by intros; rfl) :
  Et c (.BoolOp .And (e :: rest) pos) (p && q) := fun s E o => isTrue_and (wpAny_mono (h s E o) (fun r s' hr => by
   obtain ⟨k, rfl⟩ := hr
   cases r with
   | false => exact ⟨k, rfl⟩
   | true =>
    rw [if_pos rfl]
    rw [hw _ (eval (.BoolOp .And rest pos) c.env)]
    exact wpAny_mono (h2 rfl s' E (o.kp k)) (fun r s'' h' => ⟨k.trans h'.1, h'.2⟩) fun o_ o_ e => e) fun o_ o_ e => e)
theorem et_bool {e : Expr} {b : Bool} (h : Ev c e (.bool b)) (he : ∀ whole, isTrue e c.env whole = (do let v ← whole; standAt e.pos; holding [v] (truthy v)) := by intro _; rfl) : Et c e b := fun s E o =>
 isTrue_plain (wpAny_mono (h s E o) (fun v s' hv => by obtain ⟨k, rfl⟩ := hv; exact wpAny_truthy_bool ⟨k, rfl⟩) fun o_ o_ e => e) (he _)
theorem et_int {e : Expr} {i : Int} (h : Ev c e (.int i)) (he : ∀ whole, isTrue e c.env whole = (do let v ← whole; standAt e.pos; holding [v] (truthy v)) := by intro _; rfl) : Et c e (i != 0) := fun s E o =>
 isTrue_plain (wpAny_mono (h s E o) (fun v s' hv => by obtain ⟨k, t, rfl⟩ := hv; exact PyProof.Rows.truthy_int ⟨k, rfl⟩) fun o_ o_ e => e) (he _)
theorem et_list {e : Expr} {d : D} {ds : List D} (h : Ev c e d) (l : LstD c d ds) (hsz : ds.length ≤ sizeLine) (he : ∀ whole, isTrue e c.env whole = (do let v ← whole; standAt e.pos; holding [v] (truthy v)) := by intro _; rfl) : Et c e (!ds.isEmpty) := fun s E o =>
 isTrue_plain (wpAny_mono (h s E o) (fun v s' hv => by
  refine cutG fun P_ hP_ => ?_
  obtain ⟨a, vs, n, rfl, hg, hr⟩ := l.at (o.kp hv.1) hv.2
  refine hP_ ?_
  clear hP_ P_
  obtain hl := hr.length
  refine wpAny_truthy_list ⟨_, hg, rfl, n, rfl⟩ (by rw [List.size_toArray, hl]; unfold sizeLine at hsz; grind) ⟨hv.1.trans (Kp.tok _ _ _ _), ?_⟩
  cases vs <;> cases ds <;> simp_all) fun o_ o_ e => e) (he _)
theorem ev_if {t a b : Expr} {pos : Pos} {p : Bool} {d : D} (ht : Et c t p) (ha : p = true → Ev c a d) (hb : p = false → Ev c b d) : Ev c (.IfExp t a b pos) d := fun s E o =>
 IfExp_ (wpAny_mono (ht s E o) (fun r s' hr => by
  obtain ⟨k, rfl⟩ := hr
  cases r with
  | true => exact wpAny_mono (ha rfl s' E (o.kp k)) (fun v s'' h' => ⟨k.trans h'.1, h'.2⟩) fun o_ o_ e => e
  | false => exact wpAny_mono (hb rfl s' E (o.kp k)) (fun v s'' h' => ⟨k.trans h'.1, h'.2⟩) fun o_ o_ e => e) fun o_ o_ e => e)
end
end Mine
end
section
open PySem PySem.W PyProof.Rows
namespace Mine
open PySem.Calls
theorem pick_from (items : Array Value) (a : Nat) : slicePick items (some (a : Int)) none none = (items.toList.drop a).toArray := by
 rcases Nat.le_total a items.size with h | h
 ·exact slicePick_from items a h
 ·obtain e1 : slicePick items (some (a : Int)) none none = slicePick items (some (items.size : Int)) none none := by
   unfold slicePick
   obtain this : sliceBounds (some (a : Int)) none none items.size = sliceBounds (some (items.size : Int)) none none items.size := by
    simp only [sliceBounds, Option.getD_none]
    obtain this : max (0 : Int) (min (if (a : Int) < 0 then (a : Int) + items.size else a) items.size) = max (0 : Int) (min (if (items.size : Int) < 0 then (items.size : Int) + items.size else items.size) items.size) := by
     rw [if_neg (by grind), if_neg (by grind)]; grind
    simp [this]
   rw [this]
  rw [e1, slicePick_from items _ (Nat.le_refl _)]
  obtain this : items.toList.length = items.size := by simp
  rw [List.drop_eq_nil_of_le (by grind), List.drop_eq_nil_of_le (by grind)]
theorem pick_upto (items : Array Value) (b : Nat) : slicePick items none (some (b : Int)) none = (items.toList.take b).toArray := by
 rcases Nat.le_total b items.size with h | h
 ·exact slicePick_upto items b h
 ·obtain e1 : slicePick items none (some (b : Int)) none = slicePick items none (some (items.size : Int)) none := by
   unfold slicePick
   obtain this : sliceBounds none (some (b : Int)) none items.size = sliceBounds none (some (items.size : Int)) none items.size := by
    simp only [sliceBounds, Option.getD_none]
    obtain this : max (0 : Int) (min (if (b : Int) < 0 then (b : Int) + items.size else b) items.size) = max (0 : Int) (min (if (items.size : Int) < 0 then (items.size : Int) + items.size else items.size) items.size) := by
     rw [if_neg (by grind), if_neg (by grind)]; grind
    simp [this]
   rw [this]
  rw [e1, slicePick_upto items _ (Nat.le_refl _)]
  obtain this : items.toList.length = items.size := by simp
  rw [List.take_of_length_le (by grind), List.take_of_length_le (by grind)]
section
variable {c : Cx}
theorem ev_item {v i : Expr} {pos : Pos} {d : D} {ds : List D} {k : Int} {x : D} (hv : Ev c v d) (l : LstD c d ds) (hi : Ev c i (.int k)) (h0 : 0 ≤ k) (h1 : k < 2 ^ 63) (hx : ds[k.toNat]? = some x)
  (hs : ∀ o j, subscripted i false o j = operate [o, j] (getItem o j) := by intro _ _; rfl) : Ev c (.Subscript v i pos) x := fun s E o => by
 refine Subscript_ (wpAny_mono (hv s E o) (fun w s₁ h₁ => ?_) fun o_ o_ e => e)
 refine wpAny_mono (hi s₁ E (o.kp h₁.1)) (fun j s₂ h₂ => ?_) fun o_ o_ e => e
 refine cutG fun P_ hP_ => ?_
 obtain ⟨t, rfl⟩ := h₂.2
 obtain ⟨a, vs, n, rfl, hg, hr⟩ := l.at ((o.kp h₁.1).kp h₂.1) (h₂.1.rep (fun o_ h => (nomatch h)) h₁.2)
 obtain ⟨u, hu, hru⟩ := hr.get hx
 refine hP_ ?_
 clear hP_ P_
 obtain hl : s₂.heap.IsList a vs.toArray := ⟨_, hg, rfl, n, rfl⟩
 exact tail_any hl.typeIs slot_list_getitem.lookup (wpAny_getItem_list hl h0 h1 (by simpa using hu) ⟨h₁.1.trans h₂.1, hru⟩) (hs _ _)
theorem ev_item_neg {v i : Expr} {pos : Pos} {d : D} {ds : List D} {k : Int} {x : D} (hv : Ev c v d) (l : LstD c d ds) (hi : Ev c i (.int k)) (h0 : k < 0) (h1 : -(ds.length : Int) ≤ k) (h2 : -(2 ^ 63) ≤ k) (hx : ds[(k + ds.length).toNat]? = some x)
  (hs : ∀ o j, subscripted i false o j = operate [o, j] (getItem o j) := by intro _ _; rfl) : Ev c (.Subscript v i pos) x := fun s E o => by
 refine Subscript_ (wpAny_mono (hv s E o) (fun w s₁ h₁ => ?_) fun o_ o_ e => e)
 refine wpAny_mono (hi s₁ E (o.kp h₁.1)) (fun j s₂ h₂ => ?_) fun o_ o_ e => e
 refine cutG fun P_ hP_ => ?_
 obtain ⟨t, rfl⟩ := h₂.2
 obtain ⟨a, vs, n, rfl, hg, hr⟩ := l.at ((o.kp h₁.1).kp h₂.1) (h₂.1.rep (fun o_ h => (nomatch h)) h₁.2)
 obtain ⟨u, hu, hru⟩ := hr.get hx
 refine hP_ ?_
 clear hP_ P_
 obtain hl : s₂.heap.IsList a vs.toArray := ⟨_, hg, rfl, n, rfl⟩
 obtain hlen := hr.length
 exact tail_any hl.typeIs slot_list_getitem.lookup (wpAny_getItem_list_neg hl h0 (by simpa [hlen] using h1) h2 (by simpa [hlen] using hu) ⟨h₁.1.trans h₂.1, hru⟩) (hs _ _)
noncomputable def Part (c : Cx) (e : Option Expr) (k : Option Int) : Prop :=
 ∀ s E, Ok c s → wpAny (model c.prog c.w) c.A (valueOrNone (evalOpt e c.env)) (fun v s' => Kp c.hb [] s s' ∧ IsPart v k) E s
theorem part_none : Part c none none := fun s E o => by
 show wpAny _ _ (pure Value.none) _ _ s
 exact wpAny_pure ⟨Kp.refl _ _ _, .none⟩
theorem part_int {e : Expr} {k : Int} (h : Ev c e (.int k)) : Part c (some e) (some k) := fun s E o =>
 wpAny_mono (h s E o) (fun v s' hv => by obtain ⟨hk, t, rfl⟩ := hv; exact ⟨hk, .int _ _⟩) fun o_ o_ e => e
theorem ev_slice {v : Expr} {lo hi : Option Expr} {sp pos : Pos} {d : D} {ds ds' : List D} {kl kh : Option Int} (hv : Ev c v d) (l : LstD c d ds) (hl : Part c lo kl) (hh : Part c hi kh)
  (hp : ∀ X h vs, RepAll X h ds vs → RepAll X h ds' (slicePick vs.toArray kl kh none).toList) (hsz : ds.length ≤ sizeLine) (ht : ∀ o r, letTemporaryGo v (.ref o) r = pure () := by intro _ _; rfl) : Ev c (.Subscript v (.Slice lo hi none sp) pos) (.list ds') := fun s E o => by
 refine Subscript_ (wpAny_mono (hv s E o) (fun w s₁ h₁ => ?_) fun o_ o_ e => e)
 show wpAny _ _ (do
  let l ← valueOrNone (evalOpt lo c.env)
  let u ← holding [l] (valueOrNone (evalOpt hi c.env))
  let s ← holding [l, u] (valueOrNone (evalOpt none c.env))
  newFields "slice" [l, u, s]) _ _ s₁
 refine wpAny_bind (wpAny_mono (hl s₁ E (o.kp h₁.1)) (fun vl s₂ h₂ => ?_) fun o_ o_ e => e)
 refine wpAny_bind (wpAny_holding (wpAny_mono (hh s₂ E ((o.kp h₁.1).kp h₂.1)) (fun vu s₃ h₃ => ?_) fun o_ o_ e => e))
 have k3 := (h₁.1.trans h₂.1).trans h₃.1
 refine wpAny_bind (wpAny_holding (wpAny_pure (a := Value.none) ?_))
 refine wpAny_newObj_type ?_
 refine cutG fun P_ hP_ => ?_
 obtain ⟨a, vs, n, rfl, hg, hr⟩ := l.at (o.kp k3) ((h₂.1.trans h₃.1).rep (fun o_ h => (nomatch h)) h₁.2)
 refine hP_ ?_
 clear hP_ P_
 have hl' : s₃.heap.IsList a vs.toArray := ⟨_, hg, rfl, n, rfl⟩
 obtain hlen := hr.length
 have key := wpAny_getItem_list_slice (prog := c.prog) (w := c.w) (A := c.A) (E := E) (s := { s₃ with heap := s₃.heap.push { cls := .type "slice", data := .fields #[vl, vu, .none] } }) (Q := fun v s' => Kp c.hb [] s s' ∧ Rep c.X s'.heap (.list ds') v)
  (hl'.push _) (Heap.IsSliceOf.new ..) h₂.2 h₃.2 .none (by simp) ?_ (by rw [List.size_toArray, hlen]; exact hsz)
 ·exact subscriptTail_ops (Heap.IsList.typeIs (s := { s₃ with heap := s₃.heap.push { cls := .type "slice", data := .fields #[vl, vu, .none] } }) (hl'.push _)) list_getitem_lookup key (by rfl) (ht _)
 ·have kk := (k3.trans (Kp.push c.hb s₃ { cls := .type "slice", data := .fields #[vl, vu, .none] }))
  refine ⟨kk.trans (Kp.push c.hb _ _), ?_⟩
  obtain this := rep_new_list (n := 0) (X := c.X) (h := s₃.heap.push { cls := .type "slice", data := .fields #[vl, vu, .none] }) (o.kp kk).xin ((hp c.X _ vs hr).push _)
  simpa using this
theorem ev_slice_from {v : Expr} {lo : Expr} {sp pos : Pos} {d : D} {ds : List D} {k : Nat} (hv : Ev c v d) (l : LstD c d ds) (hl : Ev c lo (.int k)) (hsz : ds.length ≤ sizeLine) (ht : ∀ o r, letTemporaryGo v (.ref o) r = pure () := by intro _ _; rfl) :
  Ev c (.Subscript v (.Slice (some lo) none none sp) pos) (.list (ds.drop k)) :=
 ev_slice hv l (part_int hl) part_none (fun X h vs hr => by rw [pick_from]; simpa using hr.drop k) hsz ht
theorem ev_slice_upto {v : Expr} {hi : Expr} {sp pos : Pos} {d : D} {ds : List D} {k : Nat} (hv : Ev c v d) (l : LstD c d ds) (hl : Ev c hi (.int k)) (hsz : ds.length ≤ sizeLine) (ht : ∀ o r, letTemporaryGo v (.ref o) r = pure () := by intro _ _; rfl) :
  Ev c (.Subscript v (.Slice none (some hi) none sp) pos) (.list (ds.take k)) :=
 ev_slice hv l part_none (part_int hl) (fun X h vs hr => by rw [pick_upto]; simpa using hr.take k) hsz ht
noncomputable def Evs (c : Cx) (es : List Expr) (ds : List D) : Prop :=
 ∀ pos s E, Ok c s → wpAny (model c.prog c.w) c.A (spliced (backTo pos (starEach es c.env))) (fun vs s' => Kp c.hb [] s s' ∧ RepAll c.X s'.heap ds vs) E s
theorem evs_nil : Evs c [] [] := fun o_ o_ o_ o_ => spliced_none ⟨Kp.refl _ _ _, rfl⟩
theorem evs_cons {e : Expr} {es : List Expr} {d : D} {ds : List D} (h : Ev c e d) (h2 : Evs c es ds) (he : starEach (e :: es) c.env = (false, eval e c.env) :: starEach es c.env := by rfl) : Evs c (e :: es) (d :: ds) := fun pos s E o =>
 spliced_more (wpAny_mono (h s E o) (fun v s₁ h₁ => wpAny_mono (h2 pos s₁ E (o.kp h₁.1)) (fun vs s₂ h₂ => ⟨h₁.1.trans h₂.1, .cons (h₂.1.rep (fun o_ h => (nomatch h)) h₁.2) h₂.2⟩) fun o_ o_ e => e) fun o_ o_ e => e) he
theorem ev_list {es : List Expr} {pos : Pos} {ds : List D} (h : Evs c es ds) (hsz : ds.length ≤ sizeLine) : Ev c (.List es pos) (.list ds) := fun s E o =>
 List_ (wpAny_mono (h pos s E o) (fun vs s₁ h₁ => wpAny_newObj_type ⟨h₁.1.trans (Kp.push _ _ _), rep_new_list (o.kp h₁.1).xin h₁.2⟩ (by show vs.toArray.size ≤ sizeLine; rw [List.size_toArray, h₁.2.length]; exact hsz)) fun o_ o_ e => e)
theorem ev_tuple {es : List Expr} {k : Nat} {pos : Pos} {ds : List D} (h : Evs c es ds) (hsz : ds.length ≤ sizeLine) : Ev c (.Tuple es k pos) (.tup ds) := fun s E o =>
 Tuple_ (wpAny_mono (h pos s E o) (fun vs s₁ h₁ => wpAny_newObj_type ⟨h₁.1.trans (Kp.push _ _ _), rep_new_tup (o.kp h₁.1).xin h₁.2⟩ (by show vs.toArray.size ≤ sizeLine; rw [List.size_toArray, h₁.2.length]; exact hsz)) fun o_ o_ e => e)
theorem ev_cat {l r : Expr} {pos : Pos} {dl dr : D} {xs ys : List D} (hl : Ev c l dl) (ll : LstD c dl xs) (hr : Ev c r dr) (lr : LstD c dr ys) (hsz : xs.length + ys.length ≤ sizeLine) : Ev c (.BinOp l .Add r pos) (.list (xs ++ ys)) :=
 ev_bin hl hr fun s E x y o hx hy => by
  refine cutG fun P_ hP_ => ?_
  obtain ⟨a, vs, n, rfl, hg, hv⟩ := ll.at o hx
  obtain ⟨b, us, m, rfl, hg', hu⟩ := lr.at o hy
  refine hP_ ?_
  clear hP_ P_
  refine concat_meets ⟨_, hg, rfl⟩ ⟨_, hg', rfl⟩ noFill_list_add seq_list_add PySem.F.slot_list_add PySem.F.entry_list_add (PySem.F.args_list_add_2 _ _) (list_addW a b vs.toArray us.toArray n m none none #[] #[] (by simpa [hv.length, hu.length] using hsz)) ⟨hg, hg', ?_⟩
  refine ⟨Kp.push _ _ _, ?_⟩
  obtain this := rep_new_list (n := 0) o.xin (hv.append hu)
  simpa using this
theorem ev_times {l r : Expr} {pos : Pos} {dl : D} {d : D} {k : Int} (hl : Ev c l dl) (ll : LstD c dl [d]) (hr : Ev c r (.int k)) (h0 : 0 ≤ k) (h1 : k ≤ 1000) : Ev c (.BinOp l .Mult r pos) (.list (List.replicate k.toNat d)) :=
 ev_bin hl hr fun s E x y o hx hy => by
  refine cutG fun P_ hP_ => ?_
  obtain ⟨a, vs, n, rfl, hg, hv⟩ := ll.at o hx
  obtain ⟨u, rfl⟩ := hy
  obtain ⟨v, _, rfl, hv1, rfl⟩ := hv
  refine hP_ ?_
  clear hP_ P_
  refine wpAny_binaryOp_repeat_ref (T := "list") (U := "int") (by decide) ⟨_, hg, rfl⟩ (fun s' => typeIs_int s' k u) noFill_list_mul F.fills_int_mul F.slot_int_rmul repeat_list F.slot_int_index.lookup
   (call_meets F.slot_int_rmul (typeIs_int s k u) F.entry_int_rmul (F.args_int_rmul_2 _ _) (int___rmul___int_list k u a [v].toArray n)
    ⟨hg, rfl, ⟨_, hg, rfl⟩, call_meets F.slot_list_mul ⟨_, hg, rfl⟩ F.entry_list_mul (F.args_list_mul_2 _ _)
     (AutoListH.list___mul___list_int_3 a [v].toArray n k u (by simp [Builtin.List.listFitsIndex]; grind) (by show ¬ 1 * k.toNat > _; grind) (by have hs : ([v].toArray).size * k.toNat ≤ 2 ^ 24 := (by show 1 * k.toNat ≤ _; grind); generalize ([v].toArray) = q at hs ⊢; simp [Builtin.List.listTooLong, sizeLine]; grind))
     ⟨hg, ?_⟩⟩)
  refine ⟨Kp.push _ _ _, ?_⟩
  obtain hrep : ∀ j : Nat, RepAll c.X s.heap (List.replicate j d) (List.replicate j v) := fun j => by
   induction j with
   | zero => rfl
   | succ j ih => exact ⟨v, _, rfl, hv1, ih⟩
  obtain e : ∀ (j : Nat) (acc : List Value), (List.replicate j [v].toArray).foldl (fun x1 x2 => x1 ++ x2) acc.toArray = (acc ++ List.replicate j v).toArray := fun j => by
   induction j with
   | zero => intro acc; simp
   | succ j ih => intro acc; rw [List.replicate_succ, List.foldl_cons, List.append_toArray, ih]; simp [List.replicate_succ]
  obtain this := rep_new_list (n := 0) o.xin (hrep k.toNat)
  obtain e2 := e k.toNat []
  simp only [List.nil_append] at e2
  rw [show (#[] : Array Value) = ([] : List Value).toArray from rfl]
  simp only [show ([v].toArray.isEmpty = true) = False from by simp, if_false]
  rw [e2]
  exact this
end
end Mine
end
section
open PySem PySem.W PyProof.Rows
namespace Mine
open PySem.Calls
noncomputable def framesOf (A : Around) : List Addr := (A.frames.getD []).filterMap (·.frame)
structure Off (c : Cx) (O : List Addr) : Prop where
 x : ∀ a ∈ O, a ∈ c.X
 home : ∀ a ∈ O, a ∉ homes c.env
 base : ∀ a ∈ O, c.hb.get? a = none
 frame : ∀ a ∈ O, a ∉ framesOf c.A
theorem Ok.off {c : Cx} {s s' : Shared} {O : List Addr} (o : Ok c s) (k : Kp c.hb O s s') (f : Off c O) (hex : ∀ a ∈ O, ∃ ob, s'.heap.get? a = some ob) {own' : List (Addr × List D)}
  (hown : ∀ p ∈ own', p.1 ∈ c.X ∧ ∃ vs n, s'.heap.get? p.1 = some (listO vs n) ∧ RepAll c.X s'.heap p.2 vs) : Ok { c with own := own' } s' where
 base := k.base o.base f.base
 frames := by
  obtain ⟨l, hl, hf⟩ := o.frames
  refine ⟨l, hl, k.frames hf fun a ha hO => f.frame a hO ?_⟩
  unfold framesOf
  rw [hl]; exact ha
 xin := fun a ha => by
  by_cases hO : a ∈ O
  ·exact hex a hO
  ·obtain ⟨o', ho⟩ := o.xin a ha; obtain ⟨o₂, h2, _⟩ := k.data ho hO; exact ⟨o₂, h2⟩
 vars := fun x d hx => by
  obtain ⟨v, hv, hr⟩ := o.vars x d hx
  exact ⟨v, hv.kp k (fun a ha hO => f.home a hO ha), k.rep f.x hr⟩
 own := hown
 home := fun a ha => by obtain ⟨o', ho⟩ := o.home a ha; obtain ⟨o₂, h2, _⟩ := k.data ho fun hO => f.home a hO ha; exact ⟨o₂, h2⟩
theorem Ok.offX {c : Cx} {s s' : Shared} {O X' : List Addr} (o : Ok c s) (k : Kp c.hb O s s') (f : Off c O) (hX : ∀ a ∈ X', a ∈ c.X) (hex : ∀ a ∈ O, a ∈ X' → ∃ ob, s'.heap.get? a = some ob) {own' : List (Addr × List D)}
  (hown : ∀ p ∈ own', p.1 ∈ X' ∧ ∃ vs n, s'.heap.get? p.1 = some (listO vs n) ∧ RepAll X' s'.heap p.2 vs) : Ok { c with X := X', own := own' } s' where
 base := k.base o.base f.base
 frames := by
  obtain ⟨l, hl, hf⟩ := o.frames
  refine ⟨l, hl, k.frames hf fun a ha hO => f.frame a hO ?_⟩
  unfold framesOf
  rw [hl]; exact ha
 xin := fun a ha => by
  by_cases hO : a ∈ O
  ·exact hex a hO ha
  ·obtain ⟨o', ho⟩ := o.xin a (hX a ha); obtain ⟨o₂, h2, _⟩ := k.data ho hO; exact ⟨o₂, h2⟩
 vars := fun x d hx => by
  obtain ⟨v, hv, hr⟩ := o.vars x d hx
  exact ⟨v, hv.kp k (fun a ha hO => f.home a hO ha), (k.rep f.x hr).mono fun a o_ ha e o_ => ⟨fun q => ha (hX a q), e⟩⟩
 own := hown
 home := fun a ha => by obtain ⟨o', ho⟩ := o.home a ha; obtain ⟨o₂, h2, _⟩ := k.data ho fun hO => f.home a hO ha; exact ⟨o₂, h2⟩
theorem Ok.ownKeep {c : Cx} {s s' : Shared} {O : List Addr} (o : Ok c s) (k : Kp c.hb O s s') (f : ∀ a ∈ O, a ∈ c.X) {p : Addr × List D} (hp : p ∈ c.own) (hO : p.1 ∉ O) : p.1 ∈ c.X ∧ ∃ vs n, s'.heap.get? p.1 = some (listO vs n) ∧ RepAll c.X s'.heap p.2 vs := by
 refine cutG fun P_ hP_ => ?_
 obtain ⟨hx, vs, n, hg, hr⟩ := o.own p hp
 refine hP_ ?_
 clear hP_ P_
 exact ⟨hx, vs, n, k.get hg notFrame_list hO, k.repAll f hr⟩
noncomputable def Evo (c : Cx) (O : List Addr) (own' : List (Addr × List D)) (e : Expr) (d : D) : Prop :=
 ∀ s E, Ok c s → wpAny (model c.prog c.w) c.A (eval e c.env) (fun v s' => Kp c.hb O s s' ∧ Rep c.X s'.heap d v ∧ Ok { c with own := own' } s') E s
theorem Ev.evo {c : Cx} {e : Expr} {d : D} (h : Ev c e d) : Evo c [] c.own e d := fun s E o => wpAny_mono (h s E o) (fun o_ o_ hv => ⟨hv.1, hv.2, o.kp hv.1⟩) fun o_ o_ e => e
structure Tree (T : Heap → Value → List Addr → Prop) : Prop where
 stab : ∀ {h h' : Heap} {v : Value} {N : List Addr}, T h v N → (∀ a ∈ N, ∀ o, h.get? a = some o → notFrame o → h'.get? a = some o) → T h' v N
 ex : ∀ {h : Heap} {v : Value} {N : List Addr}, T h v N → ∀ a ∈ N, ∃ o, h.get? a = some o
noncomputable def noT : Heap → Value → List Addr → Prop := fun o_ o_ N => N = []
theorem tree_noT : Tree noT := ⟨fun h o_ => h, fun h a ha => by cases h; cases ha⟩
noncomputable def Trees (T : Heap → Value → List Addr → Prop) (h : Heap) : List Value → List (List Addr) → Prop
 | [], [] => True
 | v :: vs, N :: Ns => T h v N ∧ Trees T h vs Ns
 | _, _ => False
theorem Trees.stab {T : Heap → Value → List Addr → Prop} (t : Tree T) {h h' : Heap} : ∀ {vs : List Value} {Ns : List (List Addr)}, Trees T h vs Ns → (∀ a ∈ Ns.flatten, ∀ o, h.get? a = some o → notFrame o → h'.get? a = some o) → Trees T h' vs Ns
 | [], [], _, _ => trivial
 | _ :: _, _ :: _, ⟨h1, h2⟩, k => ⟨t.stab h1 fun a ha => k a (by simp [ha]), Trees.stab t h2 fun a ha => k a (by rw [List.flatten_cons]; exact List.mem_append_right _ ha)⟩
 | [], _ :: _, h, _ => h.elim
 | _ :: _, [], h, _ => h.elim
theorem Trees.ex {T : Heap → Value → List Addr → Prop} (t : Tree T) {h : Heap} : ∀ {vs : List Value} {Ns : List (List Addr)}, Trees T h vs Ns → ∀ a ∈ Ns.flatten, ∃ o, h.get? a = some o
 | [], [], _, _, ha => by cases ha
 | _ :: _, _ :: _, ⟨h1, h2⟩, a, ha => by
  rw [List.flatten_cons] at ha
  rcases List.mem_append.mp ha with z | z
  ·exact t.ex h1 a z
  ·exact Trees.ex t h2 a z
 | [], _ :: _, h, _, _ => h.elim
 | _ :: _, [], h, _, _ => h.elim
theorem Trees.snoc {T : Heap → Value → List Addr → Prop} {h : Heap} {v : Value} {N : List Addr} : ∀ {vs : List Value} {Ns : List (List Addr)}, Trees T h vs Ns → T h v N → Trees T h (vs ++ [v]) (Ns ++ [N])
 | [], [], _, h => ⟨h, trivial⟩
 | _ :: _, _ :: _, ⟨h1, h2⟩, h => ⟨h1, Trees.snoc h2 h⟩
 | [], _ :: _, h, _ => h.elim
 | _ :: _, [], h, _ => h.elim
noncomputable def Acc (T : Heap → Value → List Addr → Prop) (h₀ : Heap) (V : List Addr) (h : Heap) (ys : List Value) : Prop := ∃ Ns, Trees T h ys Ns ∧ Ns.flatten.Nodup ∧ ∀ a ∈ Ns.flatten, h₀.get? a = none ∧ a ∉ V
theorem Acc.nil {T : Heap → Value → List Addr → Prop} {h₀ h : Heap} {V : List Addr} : Acc T h₀ V h [] := ⟨[], trivial, by simp, fun o_ h => by cases h⟩
theorem Acc.step {T : Heap → Value → List Addr → Prop} (t : Tree T) {h₀ h h' : Heap} {V : List Addr} {ys : List Value} (x : Acc T h₀ V h ys) (k : ∀ a o, a ∉ V → h.get? a = some o → notFrame o → h'.get? a = some o) : Acc T h₀ V h' ys := by
 obtain ⟨Ns, h1, h2, h3⟩ := x
 exact ⟨Ns, h1.stab t fun a ha o => k a o (h3 a ha).2, h2, h3⟩
theorem Acc.add {T : Heap → Value → List Addr → Prop} (t : Tree T) {h₀ hm h : Heap} {V N : List Addr} {ys : List Value} {y : Value} (x : Acc T h₀ V hm ys) (k : ∀ a o, a ∉ V → hm.get? a = some o → notFrame o → h.get? a = some o)
  (hy : T h y N) (hn : N.Nodup) (hN : ∀ a ∈ N, hm.get? a = none) (hV : ∀ a, hm.get? a = none → h₀.get? a = none ∧ a ∉ V) : Acc T h₀ V h (ys ++ [y]) := by
 refine cutG fun P_ hP_ => ?_
 obtain ⟨Ns, h1, h2, h3⟩ := x
 refine hP_ ?_
 clear hP_ P_
 refine ⟨Ns ++ [N], (h1.stab t fun a ha o => k a o (h3 a ha).2).snoc hy, ?_, fun a ha => ?_⟩
 ·rw [List.flatten_append, List.nodup_append]
  refine ⟨h2, by simpa using hn, fun a ha b hb e => ?_⟩
  subst e
  obtain ⟨o, e⟩ := h1.ex t a ha
  rw [hN a (by simpa using hb)] at e; cases e
 ·rw [List.flatten_append] at ha
  rcases List.mem_append.mp ha with z | z
  ·exact h3 a z
  ·exact hV a (hN a (by simpa using z))
theorem Acc.weak {T : Heap → Value → List Addr → Prop} {h₀ h₁ h : Heap} {V V' : List Addr} {ys : List Value} (x : Acc T h₀ V h ys) (k : ∀ a, h₀.get? a = none → a ∉ V → h₁.get? a = none ∧ a ∉ V') : Acc T h₁ V' h ys := by
 obtain ⟨Ns, h1, h2, h3⟩ := x
 exact ⟨Ns, h1, h2, fun a ha => k a (h3 a ha).1 (h3 a ha).2⟩
noncomputable def TL (T : Heap → Value → List Addr → Prop) : Heap → Value → List Addr → Prop := fun h v N => ∃ a ys n Ns, v = .ref a ∧ h.get? a = some (listO ys n) ∧ Trees T h ys Ns ∧ N = a :: Ns.flatten
theorem tree_TL {T : Heap → Value → List Addr → Prop} (t : Tree T) : Tree (TL T) where
 stab := fun {h h' v N} x k => by
  obtain ⟨a, ys, n, Ns, rfl, hg, ht, rfl⟩ := x
  exact ⟨a, ys, n, Ns, rfl, k a (.head _) _ hg notFrame_list, ht.stab t fun b hb => k b (.tail _ hb), rfl⟩
 ex := fun {h v N} x b hb => by
  obtain ⟨a, ys, n, Ns, rfl, hg, ht, rfl⟩ := x
  rcases List.mem_cons.mp hb with z | z
  ·rw [z]; exact ⟨_, hg⟩
  ·exact ht.ex t b z
noncomputable def EvoT (T : Heap → Value → List Addr → Prop) (c : Cx) (O : List Addr) (own' : List (Addr × List D)) (e : Expr) (d : D) : Prop :=
 ∀ s E, Ok c s → wpAny (model c.prog c.w) c.A (eval e c.env) (fun v s' => Kp c.hb O s s' ∧ Rep c.X s'.heap d v ∧ Ok { c with own := own' } s' ∧ ∃ N, T s'.heap v N ∧ N.Nodup ∧ ∀ a ∈ N, s.heap.get? a = none) E s
theorem Evo.t {c : Cx} {O : List Addr} {own' : List (Addr × List D)} {e : Expr} {d : D} (h : Evo c O own' e d) : EvoT noT c O own' e d := fun s E o =>
 wpAny_mono (h s E o) (fun o_ o_ q => ⟨q.1, q.2.1, q.2.2, [], rfl, .nil, fun o_ h => by cases h⟩) fun o_ o_ e => e
noncomputable def clOf (scope : Scope) (env : Env) : List (Str × Addr) :=
 scope.names.foldl (fun cs x => if x.2 == .free then (x.1, (env.cells.lookup x.1).getD 0) :: cs else cs) []
theorem closure_go (env : Env) : ∀ (names : List (Str × NameKind)) (acc : List (Str × Addr)), (∀ x ∈ names, x.2 = .free → (env.cells.lookup x.1).isSome = true) →
  (forIn names acc fun x (cs : List (Str × Addr)) => do
   if x.2 == .free then
    let a ← cellOf env x.1
    pure (ForInStep.yield ((x.1, a) :: cs))
   else pure (ForInStep.yield cs) : Sem (List (Str × Addr))) = pure (names.foldl (fun cs x => if x.2 == .free then (x.1, (env.cells.lookup x.1).getD 0) :: cs else cs) acc)
 | [], _, _ => rfl
 | (n, k) :: r, acc, h => by
  rw [List.forIn_cons, List.foldl_cons]
  by_cases hk : k = .free
  ·subst hk
   obtain ⟨a, ha⟩ := Option.isSome_iff_exists.mp (h (n, .free) (.head _) rfl)
   obtain e1 : cellOf env n = pure a := by unfold cellOf; rw [ha]
   dsimp only [beq_self_eq_true, if_true]
   rw [e1, ha]
   exact closure_go env r _ fun x hx => h x (.tail _ hx)
  ·obtain hb : (k == NameKind.free) = false := by simpa using hk
   simp only [hb, Bool.false_eq_true, if_false]
   exact closure_go env r _ fun x hx => h x (.tail _ hx)
theorem closureFor_is {scope : Scope} {env : Env} (h : ∀ x ∈ scope.names, x.2 = .free → (env.cells.lookup x.1).isSome = true) : closureFor scope env = pure (clOf scope env) := by
 have := closure_go env scope.names [] h
 unfold clOf
 rw [← this]
 unfold closureFor
 dsimp only
 rw [show (forIn scope.names ([] : List (Str × Addr)) fun x (cs : List (Str × Addr)) => do
   if x.2 == .free then
    let a ← cellOf env x.1
    pure (ForInStep.yield ((x.1, a) :: cs))
   else pure (ForInStep.yield cs) : Sem (List (Str × Addr))) = _ from rfl]
 exact bind_pure _
theorem clOf_lookup {scope : Scope} {env : Env} {x : Str} {a : Addr} (hx : (x, NameKind.free) ∈ scope.names) (ha : env.cells.lookup x = some a) : (clOf scope env).lookup x = some a := by
 unfold clOf
 obtain go : ∀ (names : List (Str × NameKind)) (acc : List (Str × Addr)), ((x, NameKind.free) ∈ names ∨ acc.lookup x = some a) →
   (names.foldl (fun cs (y : Str × NameKind) => if y.2 == .free then (y.1, (env.cells.lookup y.1).getD 0) :: cs else cs) acc).lookup x = some a := by
  intro names
  induction names with
  | nil => intro acc h; exact h.elim (fun q => (nomatch q)) id
  | cons p r ih =>
   intro acc h
   obtain ⟨n, k⟩ := p
   rw [List.foldl_cons]
   by_cases hr : (x, NameKind.free) ∈ r
   ·exact ih _ (.inl hr)
   ·refine ih _ (.inr ?_)
    rcases h with h | h
    ·rcases List.mem_cons.mp h with e | e
     ·cases e; simp [ha]
     ·exact absurd e hr
    ·by_cases hk : k = .free
     ·subst hk
      simp only [beq_self_eq_true, if_true, List.lookup_cons]
      by_cases hn : x = n
      ·subst hn; simp [ha]
      ·simp [beq_eq_false_iff_ne.mpr hn, h]
     ·obtain hb : (k == NameKind.free) = false := by simpa using hk
      simp only [hb, Bool.false_eq_true, if_false]; exact h
 exact go _ _ (.inl hx)
theorem clOf_sub {scope : Scope} {env : Env} (h : ∀ x ∈ scope.names, x.2 = .free → (env.cells.lookup x.1).isSome = true) : ∀ a ∈ (clOf scope env).map (·.2), a ∈ env.cells.map (·.2) := by
 unfold clOf
 obtain go : ∀ (names : List (Str × NameKind)) (acc : List (Str × Addr)), (∀ x ∈ names, x.2 = .free → (env.cells.lookup x.1).isSome = true) → (∀ a ∈ acc.map (·.2), a ∈ env.cells.map (·.2)) →
   ∀ a ∈ (names.foldl (fun cs (y : Str × NameKind) => if y.2 == .free then (y.1, (env.cells.lookup y.1).getD 0) :: cs else cs) acc).map (·.2), a ∈ env.cells.map (·.2) := by
  intro names
  induction names with
  | nil => intro acc _ h2; exact h2
  | cons p r ih =>
   intro acc h1 h2
   obtain ⟨n, k⟩ := p
   rw [List.foldl_cons]
   refine ih _ (fun x hx => h1 x (.tail _ hx)) ?_
   by_cases hk : k = .free
   ·subst hk
    obtain ⟨a, ha⟩ := Option.isSome_iff_exists.mp (h1 (n, .free) (.head _) rfl)
    simp only [beq_self_eq_true, if_true, ha, Option.getD_some, List.map_cons]
    intro b hb
    rcases List.mem_cons.mp hb with e | hb
    ·rw [e]; exact List.mem_map.mpr ⟨(n, a), VarAt.kp.mem_of_lookup_some ha, rfl⟩
    ·exact h2 b hb
   ·obtain hb : (k == NameKind.free) = false := by simpa using hk
    simp only [hb, Bool.false_eq_true, if_false]; exact h2
 exact go _ _ h (fun o_ h => (nomatch h))
noncomputable def inVars (scope : Scope) (x : Str) (d : D) (vars : List (Str × D)) : List (Str × D) := (x, d) :: vars.filter fun y => scope.names.contains (y.1, NameKind.free)
noncomputable def inCx (c : Cx) (scope : Scope) (x : Str) (d : D) (C D₀ I : Addr) : Cx :=
 { c with env := compEnvC scope (clOf scope c.env) C c.env, X := C :: D₀ :: I :: c.X, vars := inVars scope x d c.vars }
noncomputable def blockOk (scope : Scope) (env : Env) (x : Str) : Bool :=
 scope.names.all (fun y => y.2 != .cell) && scope.kind == .function && scope.names.lookup x == some .local &&
 scope.names.all (fun y => y.2 != .local || scope.names.lookup y.1 == some .local) &&
 scope.names.all (fun y => y.2 != .free || ((env.cells.lookup y.1).isSome && (env.kindOf y.1 == some .cell || env.kindOf y.1 == some .free) && scope.names.lookup y.1 == some .free && y.1 != x))
theorem lookup_relabel_free {env : Env} : ∀ {names : List (Str × NameKind)} {x : Str}, names.lookup x = some .free →
  (names.map fun (n, k) => if (k == NameKind.free && env.scope.kind == .function && env.kindOf n == some .cell) then (n, NameKind.cell) else (n, k)).lookup x = some .cell ∨
  (names.map fun (n, k) => if (k == NameKind.free && env.scope.kind == .function && env.kindOf n == some .cell) then (n, NameKind.cell) else (n, k)).lookup x = some .free
 | [], _, h => by simp at h
 | (n, k) :: r, x, h => by
  obtain ih := @lookup_relabel_free env r x
  show List.lookup x ((if (k == NameKind.free && env.scope.kind == .function && env.kindOf n == some .cell) = true then (n, NameKind.cell) else (n, k)) :: _) = _ ∨ List.lookup x ((if (k == NameKind.free && env.scope.kind == .function && env.kindOf n == some .cell) = true then (n, NameKind.cell) else (n, k)) :: _) = _
  cases hx : x == n with
  | true =>
   simp only [List.lookup_cons, hx] at h
   cases h
   by_cases hc : (NameKind.free == NameKind.free && env.scope.kind == .function && env.kindOf n == some .cell) = true
   ·rw [if_pos hc]; left; simp [List.lookup_cons, hx]
   ·rw [if_neg hc]; right; simp [List.lookup_cons, hx]
  | false =>
   simp only [List.lookup_cons, hx] at h
   by_cases hc : (k == NameKind.free && env.scope.kind == .function && env.kindOf n == some .cell) = true
   ·rw [if_pos hc]; simp only [List.lookup_cons, hx]; exact ih h
   ·rw [if_neg hc]; simp only [List.lookup_cons, hx]; exact ih h
theorem block_free {scope : Scope} {env : Env} {x : Str} (b : blockOk scope env x = true) : ∀ y ∈ scope.names, y.2 = .free → (env.cells.lookup y.1).isSome = true := fun y hy hk => by
 simp only [blockOk, Bool.and_eq_true, List.all_eq_true] at b
 have := b.2 y hy
 simp only [hk, bne_self_eq_false, Bool.false_or, Bool.and_eq_true] at this
 exact this.1.1.1
theorem varAt_in {scope : Scope} {env : Env} {x y : Str} {C : Addr} {h : Heap} {v : Value} (b : blockOk scope env x = true) (hy : (y, NameKind.free) ∈ scope.names) (hv : VarAt env h y v) : VarAt (compEnvC scope (clOf scope env) C env) h y v := by
 simp only [blockOk, Bool.and_eq_true, List.all_eq_true] at b
 obtain hb := b.2 _ hy
 simp only [bne_self_eq_false, Bool.false_or, Bool.and_eq_true, Bool.or_eq_true, beq_iff_eq, bne_iff_ne] at hb
 refine cutG fun P_ hP_ => ?_
 obtain ⟨⟨⟨hs, hk⟩, hl⟩, _⟩ := hb
 obtain ⟨a, ha⟩ := Option.isSome_iff_exists.mp hs
 obtain hc : ∃ cc, env.cells.lookup y = some cc ∧ h.IsCell cc (some v) := by
  rcases hv with ⟨hk', _⟩ | ⟨_, cc, hcc, hcell⟩
  ·rw [hk'] at hk; rcases hk with hk | hk <;> cases hk
  ·exact ⟨cc, hcc, hcell⟩
 obtain ⟨cc, hcc, hcell⟩ := hc
 refine hP_ ?_
 clear hP_ P_
 refine .inr ⟨?_, cc, clOf_lookup hy hcc, hcell⟩
 obtain this := lookup_relabel_free (env := env) hl
 exact this
end Mine
end
section
open PySem PySem.W PyProof.Rows
namespace Mine
open PySem.Calls
structure Walker (c : Cx) (Ob : List Addr) (I : Addr) (fp : List Addr) (xs : List D) (P : Nat → Value → Prop) (St : Nat → Heap → Prop) (s₂ : Shared) : Prop where
 W : Walks c.prog c.w c.A I fp [I] xs.length P St
 st : St 0 s₂.heap
 nf : ∀ i h, St i h → ∀ b ∈ fp, ∃ o, h.get? b = some o ∧ notFrame o
 items : ∀ i v d, xs[i]? = some d → P i v → Rep (I :: c.X) s₂.heap d v
 apart : ∀ b ∈ fp, b ≠ I → b ∉ Ob
 self : I ∈ fp
noncomputable def Src (c : Cx) (Ob : List Addr) (iter : Expr) (xs : List D) : Prop :=
 ∀ s E, Ok c s → wpAny (model c.prog c.w) c.A (eval iter c.env) (fun v s₁ => wpAny (model c.prog c.w) c.A (pyIter v) (fun it s₂ =>
  Kp c.hb [] s s₂ ∧ ∃ I fp P St, it = .ref I ∧ s.heap.get? I = none ∧ Walker c Ob I fp xs P St s₂) E s₁) E s
noncomputable def TestsOk (c : Cx) (ifs : List Expr) (b : Bool) : Prop :=
 ∀ s E, Ok c s → wpAny (model c.prog c.w) c.A (forIn ifs true fun e r => if r = true then do let ok ← isTrue e c.env (eval e c.env); pure (ForInStep.yield ok) else pure (ForInStep.yield r)) (fun ok s' => Kp c.hb [] s s' ∧ ok = b) E s
theorem tests_nil {c : Cx} : TestsOk c [] true := fun s E o_ => by
 show wpAny _ _ (pure true) _ _ s
 exact wpAny_pure ⟨Kp.refl _ _ _, rfl⟩
theorem tests_one {c : Cx} {t : Expr} {b : Bool} (h : Et c t b) : TestsOk c [t] b := fun s E o => by
 rw [List.forIn_cons]
 rw [if_pos rfl]
 refine wpAny_bind (wpAny_bind (wpAny_mono (h s E o) (fun r s' hr => wpAny_pure ?_) fun o_ o_ e => e))
 show wpAny _ _ (pure r) _ _ s'
 exact wpAny_pure hr
noncomputable def outs (p : D → Bool) (f : Nat → D → D) : Nat → List D → List D
 | _, [] => []
 | i, d :: r => if p d then f i d :: outs p f (i + 1) r else outs p f (i + 1) r
theorem outs_snoc (p : D → Bool) (f : Nat → D → D) (d : D) : ∀ (xs : List D) (i : Nat), outs p f i (xs ++ [d]) = outs p f i xs ++ (if p d then [f (i + xs.length) d] else [])
 | [], i => by simp [outs]
 | x :: r, i => by
  obtain ih := outs_snoc p f d r (i + 1)
  obtain e : i + 1 + r.length = i + (r.length + 1) := by grind
  simp only [List.cons_append, outs, ih, List.length_cons, e]
  split <;> rfl
theorem outs_const (p : D → Bool) (f : D → D) : ∀ (xs : List D) (i : Nat), outs p (fun o_ d => f d) i xs = (xs.filter p).map f
 | [], _ => rfl
 | x :: r, i => by
  obtain ih := outs_const p f r (i + 1)
  simp only [outs, List.filter_cons, ih]
  split <;> rfl
theorem outs_take {p : D → Bool} {f : Nat → D → D} {xs : List D} {i : Nat} {d : D} (h : xs[i]? = some d) : outs p f 0 (xs.take (i + 1)) = outs p f 0 (xs.take i) ++ (if p d then [f i d] else []) := by
 obtain hi : i < xs.length := by
  rcases Nat.lt_or_ge i xs.length with q | q
  ·exact q
  ·rw [List.getElem?_eq_none q] at h; cases h
 rw [List.take_add_one, h]
 simp only [Option.toList_some]
 rw [outs_snoc, List.length_take, Nat.min_eq_left (Nat.le_of_lt hi), Nat.zero_add]
theorem sameBut_kp {hb : Heap} {s : Shared} {a : Addr} {h' : Heap} (hs : Heap.SameBut a s.heap h') (t : Nat) : Kp hb [a] s { s with heap := h', toks := t } :=
 ⟨h', t, rfl, fun b o e hb => .inl ((hs.2 b (fun q => hb (by rw [q]; exact .head _))).trans e)⟩
noncomputable def inCxE (c : Cx) (cenv : Env) (scope : Scope) (x : Str) (d : D) (C D₀ I : Addr) : Cx :=
 { c with env := cenv, X := C :: D₀ :: I :: c.X, vars := inVars scope x d c.vars }
structure Binder (c : Cx) (scope : Scope) (x : Str) (C : Addr) (cenv : Env) (H₀ : Heap → Prop) : Prop where
 bind : ∀ (s : Shared) (v : Value) {Q : Unit → Shared → Prop} {E : Value → Shared → Prop}, H₀ s.heap → (∀ h' t, H₀ h' → VarAt cenv h' x v → Heap.SameBut C s.heap h' → Q () { s with heap := h', toks := t }) → wpAny (model c.prog c.w) c.A (storeName cenv x v) Q E s
 still : ∀ {h h' : Heap}, H₀ h → (∀ o, h.get? C = some o → h'.get? C = some o) → H₀ h'
 kp : ∀ {O : List Addr} {s s' : Shared}, H₀ s.heap → Kp c.hb O s s' → C ∉ O → H₀ s'.heap
 here : ∀ {h : Heap}, H₀ h → ∃ o, h.get? C = some o
 homes : ∀ a ∈ homes cenv, a = C ∨ a ∈ homes c.env ∨ a ∈ c.X
 free : ∀ {y : Str} {h : Heap} {u : Value}, (y, NameKind.free) ∈ scope.names → VarAt c.env h y u → VarAt cenv h y u
section
variable {c : Cx}
theorem binder_local {scope : Scope} {x : Str} {C : Addr} (b : blockOk scope c.env x = true) : Binder c scope x C (compEnvC scope (clOf scope c.env) C c.env) (fun h => ∃ m, h.Ns C m) := by
 have hlocal : (compEnvC scope (clOf scope c.env) C c.env).kindOf x = some .local := by
  simp only [blockOk, Bool.and_eq_true] at b
  exact lookup_relabel_local (by simpa using b.1.1.2)
 obtain hkind : scope.kind = .function := by
  simp only [blockOk, Bool.and_eq_true] at b
  simpa using b.1.1.1.2
 refine ⟨fun s v Q E hm h => ?_, fun {h h'} hm e => ?_, fun {O s s'} hm k hO => ?_, fun {h} hm => ?_, fun a ha => ?_, fun {y h u} hy hu => varAt_in b hy hu⟩
 ·obtain ⟨m, hm⟩ := hm
  exact wpAny_storeName_local (m := m) hlocal hm (fun h₂ hn₂ hs₂ => h h₂ _ ⟨_, hn₂⟩ (.inl ⟨hlocal, _, hn₂, by simp⟩) hs₂) (by simp [compEnvC, relabel, hkind])
 ·obtain ⟨m, hm⟩ := hm; exact ⟨m, hm.at' e⟩
 ·obtain ⟨m, hm⟩ := hm; exact ⟨m, k.ns hm hO⟩
 ·obtain ⟨m, ob, _, _, e, _⟩ := hm; exact ⟨ob, e⟩
 ·rcases List.mem_cons.mp ha with e | ha
  ·exact .inl e
  ·exact .inr (.inl (.tail _ (clOf_sub (block_free b) a ha)))
theorem comp_loop {O Ob : List Addr} {own : Nat → List (Addr × List D)} {elt iter : Expr} {x : Str} {px : Pos} {ifs : List Expr} {scope : Scope} {pos : Pos} {xs : List D} {f : Nat → D → D} {p : D → Bool} {I Dd C : Addr} {fp : List Addr} {P : Nat → Value → Prop} {St : Nat → Heap → Prop} {s₂ s₄ : Shared} {R : Result → Shared → Prop} {cenv : Env} {H₀ : Heap → Prop} {T : Heap → Value → List Addr → Prop} (hT : Tree T)
  (W : Walker c Ob I fp xs P St s₂) (hO : Off c O) (hOb : ∀ a ∈ O, a ∈ Ob) (hIx : I ∉ c.X) (B : Binder c scope x C cenv H₀)
  (hx2 : ∀ a ∈ I :: c.X, a ≠ C ∧ a ≠ Dd) (hCD : C ≠ Dd)
  (hf : Off { c with X := C :: Dd :: I :: c.X } [C, Dd, I]) (hs2C : s₂.heap.get? C = none) (hs2D : s₂.heap.get? Dd = none) (hfpC : ∀ q ∈ fp, q ≠ C ∧ q ≠ Dd)
  (o : Ok { c with X := C :: Dd :: I :: c.X, own := own 0 } s₄) (k24 : Kp c.hb [] s₂ s₄) (hacc : s₄.heap.PlainList Dd #[]) (hn : H₀ s₄.heap)
  (hown : ∀ i, ∀ q ∈ own i, q.1 ∈ c.X)
  (tests : ∀ i d, xs[i]? = some d → TestsOk { inCxE c cenv scope x d C Dd I with own := own i } ifs (p d))
  (elts : ∀ i d, xs[i]? = some d → p d = true → EvoT T { inCxE c cenv scope x d C Dd I with own := own i } O (own (i + 1)) elt (f i d))
  (skip : ∀ i d, xs[i]? = some d → p d = false → own (i + 1) = own i) (hsz : xs.length ≤ sizeLine)
  (done : ∀ s' ys, Acc T s₂.heap (C :: Dd :: I :: c.X) s'.heap ys → Kp c.hb (C :: Dd :: I :: O) s₄ s' → Kp c.hb (I :: O) s₂ s' → Ok { c with X := C :: Dd :: c.X, own := own xs.length } s' → s'.heap.PlainList Dd (List.toArray ys) → RepAll (C :: Dd :: I :: c.X) s'.heap (outs p f 0 xs) ys → H₀ s'.heap → R (.ok .next) s') :
  codeAny (model c.prog c.w) c.A (.compLoop (.ListComp elt [⟨.Name x px, iter, ifs, 0⟩] scope pos) 0 (.ref I) (.ref Dd) cenv) R s₄ := by
 have hCx : ∀ a ∈ c.X, a ≠ C ∧ a ≠ Dd ∧ a ≠ I := fun a ha => ⟨(hx2 a (.tail _ ha)).1, (hx2 a (.tail _ ha)).2, fun e => hIx (e ▸ ha)⟩
 have hOn : ∀ a, a = C ∨ a = Dd ∨ a = I → a ∉ O := fun a ha hm => by
  have h1 := hCx a (hO.x a hm)
  rcases ha with e | e | e
  ·exact h1.1 e
  ·exact h1.2.1 e
  ·exact h1.2.2 e
 refine codeAny_compLoop_tests
  (fun n s' => ∃ i ys, Acc T s₂.heap (C :: Dd :: I :: c.X) s'.heap ys ∧ Kp c.hb (C :: Dd :: I :: O) s₄ s' ∧ n = xs.length + 1 - i ∧ i ≤ xs.length ∧ Kp c.hb (I :: O) s₂ s' ∧ Ok { c with X := C :: Dd :: I :: c.X, own := own i } s' ∧ St i s'.heap ∧
   s'.heap.PlainList Dd (List.toArray ys) ∧ RepAll (C :: Dd :: I :: c.X) s'.heap (outs p f 0 (xs.take i)) ys ∧ H₀ s'.heap) ?_ (xs.length + 1)
  ⟨0, [], .nil, Kp.refl _ _ _, rfl, Nat.zero_le _, k24.weaken (fun o_ h => (nomatch h)), o, W.W.frame _ _ _ W.st (fun q hq ob e => k24.get e (by
    obtain ⟨o', e', h'⟩ := W.nf _ _ W.st q hq; obtain rfl := Option.some.inj (e.symm.trans e'); exact h') (fun h => (nomatch h))), hacc, by simp [outs, RepAll], hn⟩
 rintro n s' ⟨i, ys, hacc', k4, rfl, hi, k, o', st, hD, hY, hC⟩
 by_cases hlt : i < xs.length
 ·have hd : xs[i]? = some xs[i] := by simp [hlt]
  refine W.W.item i s' _ _ hlt st fun v h₁ tk₁ hPv st₁ hk₁ => ?_
  dsimp only
  refine cutQ fun Q₁ E₁ hQ hE => ?_
  -- the iterator went on
  have kI : Kp c.hb [I] s' { s' with heap := h₁, toks := tk₁ } := ⟨h₁, tk₁, rfl, fun q ob e hq => .inl (hk₁ q ob (fun z => hq z) e)⟩
  have o₁ : Ok { c with X := C :: Dd :: I :: c.X, own := own i } { s' with heap := h₁, toks := tk₁ } := by
   refine o'.off kI ⟨fun a ha => ?_, all_one (hf.home _ (.tail _ (.tail _ (.head _)))), all_one (hf.base _ (.tail _ (.tail _ (.head _)))), all_one (hf.frame _ (.tail _ (.tail _ (.head _))))⟩ (fun a ha => ?_) (fun q hq => o'.ownKeep kI (fun a ha => ?_) hq ?_)
   ·exact in_1 ha (.tail _ (.tail _ (.head _)))
   ·rcases mem_c ha with rfl | z
    ·obtain ⟨ob, e, _⟩ := W.nf _ _ st₁ I W.self; exact ⟨ob, e⟩
    ·exact no_nil z
   ·exact in_1 ha (.tail _ (.tail _ (.head _)))
   ·intro hm
    rcases mem_c hm with z | z
    ·exact (hCx _ (hown i q hq)).2.2 z.symm
    ·exact no_nil z
  have hD₁ : h₁.PlainList Dd (List.toArray ys) := hD.at fun ob e => hk₁ _ ob (fun z => by exact (hx2 I (.head _)).2 (mem_1 z)) e
  have hC₁ : H₀ h₁ := B.still hC fun ob e => hk₁ _ ob (fun z => by exact (hx2 I (.head _)).1 (mem_1 z)) e
  have hY₁ := kI.repAll (X := C :: Dd :: I :: c.X) (all_one (.tail _ (.tail _ (.head _)))) hY
  -- the item is bound
  refine wpAny_assign_Name (B.bind { s' with heap := h₁, toks := tk₁ } v hC₁ (fun h₂ tk₂ hn₂ hvar hs₂ => ?_))
  dsimp only
  have hs₂' : Heap.SameBut C h₁ h₂ := hs₂
  have kC : Kp c.hb [C] { s' with heap := h₁, toks := tk₁ } { s' with heap := h₂, toks := tk₂ } := sameBut_kp (s := { s' with heap := h₁, toks := tk₁ }) hs₂' tk₂
  have o₂ : Ok { c with X := C :: Dd :: I :: c.X, own := own i } { s' with heap := h₂, toks := tk₂ } := by
   refine o₁.off kC ⟨fun a ha => ?_, all_one (hf.home _ (.head _)), all_one (hf.base _ (.head _)), all_one (hf.frame _ (.head _))⟩ (fun a ha => ?_) (fun q hq => o₁.ownKeep kC (fun a ha => ?_) hq ?_)
   ·exact in_1 ha (.head _)
   ·rcases mem_c ha with rfl | z
    ·exact B.here hn₂
    ·exact no_nil z
   ·exact in_1 ha (.head _)
   ·intro hm
    rcases mem_c hm with z | z
    ·exact (hCx _ (hown i q hq)).1 z.symm
    ·exact no_nil z
  have hD₂ : h₂.PlainList Dd (List.toArray ys) := hD₁.at fun ob e => (hs₂'.2 _ (Ne.symm hCD)).trans e
  have hY₂ := kC.repAll (X := C :: Dd :: I :: c.X) (all_one (.head _)) hY₁
  have kall : Kp c.hb (C :: I :: O) s₂ { s' with heap := h₂, toks := tk₂ } := ((k.weaken (fun a ha => .tail _ ha)).trans (kI.weaken (all_one (by simp)))).trans (kC.weaken (all_one (by simp)))
  have oin : Ok { inCxE c cenv scope x xs[i] C Dd I with own := own i } { s' with heap := h₂, toks := tk₂ } := by
   refine ⟨o₂.base, o₂.frames, o₂.xin, fun y d hy => ?_, o₂.own, fun a ha => ?_⟩
   rotate_left
   ·rcases B.homes a ha with e | ha | ha
    ·rw [e]; exact B.here hn₂
    ·exact o₂.home a ha
    ·exact o₂.xin a (.tail _ (.tail _ (.tail _ ha)))
   have hy' : (inVars scope x xs[i] c.vars).lookup y = some d := hy
   unfold inVars at hy'
   rw [List.lookup_cons] at hy'
   cases q : y == x with
   | true =>
    rw [q] at hy'
    cases hy'
    refine ⟨v, by rw [eq_of_beq q]; exact hvar, ?_⟩
    have r := W.items i v _ hd hPv
    refine r.mono fun a ob ha e hnf => ⟨fun hm => ?_, kall.get e hnf fun hm => ?_⟩
    ·rcases mem_c hm with z | hm
     ·exact clash z.symm hs2C e
     ·rcases mem_c hm with z | hm
      ·exact clash z.symm hs2D e
      ·exact ha hm
    ·rcases mem_c hm with z | hm
     ·exact clash z.symm hs2C e
     ·rcases mem_c hm with rfl | hm
      ·exact ha (.head _)
      ·exact ha (.tail _ (hO.x a hm))
   | false =>
    rw [q] at hy'
    have hm : scope.names.contains (y, NameKind.free) = true ∧ c.vars.lookup y = some d := by
     revert hy'
     generalize c.vars = vs
     intro hy'
     induction vs with
     | nil => simp at hy'
     | cons z r ih =>
      obtain ⟨z1, z2⟩ := z
      rw [List.filter_cons] at hy'
      by_cases hz : scope.names.contains (z1, NameKind.free) = true
      ·simp only [hz, if_true] at hy'
       rw [List.lookup_cons] at hy' ⊢
       cases q2 : y == z1 with
       | true => rw [q2] at hy'; have e := eq_of_beq q2; subst e; exact ⟨hz, hy'⟩
       | false => rw [q2] at hy'; exact ih hy'
      ·simp only [hz, Bool.false_eq_true, if_false] at hy'
       have h1 := ih hy'
       refine ⟨h1.1, ?_⟩
       rw [List.lookup_cons]
       cases q2 : y == z1 with
       | true => have e := eq_of_beq q2; subst e; exact absurd h1.1 hz
       | false => exact h1.2
    obtain ⟨u, hu, hr⟩ := o₂.vars y d hm.2
    exact ⟨u, B.free (by simpa using hm.1) hu, hr⟩
  refine hQ _ _ ?_
  refine cutQ fun Q₂ E₂ hQ₂ hE₂ => ?_
  refine wpAny_mono (tests i _ hd _ _ oin) (fun ok s₃ h₃ => ?_) fun o_ o_ e => e
  refine hQ₂ _ _ ?_
  obtain ⟨k₃, rfl⟩ := h₃
  have stx : ∀ {sa sb : Shared} {Q : List Addr}, St (i + 1) sa.heap → Kp c.hb Q sa sb → (∀ q ∈ fp, q ∉ Q) → St (i + 1) sb.heap := fun {sa sb Q} hst kk hq => W.W.frame _ _ _ hst fun q hqf ob e => kk.get e (by
   obtain ⟨o', e', h'⟩ := W.nf _ _ hst q hqf; obtain rfl := Option.some.inj (e.symm.trans e'); exact h') (hq q hqf)
  have st₂ : St (i + 1) ({ s' with heap := h₂, toks := tk₂ } : Shared).heap := W.W.frame _ _ _ st₁ fun q hq ob e => (hs₂'.2 q (hfpC q hq).1).trans e
  have st₃ : St (i + 1) s₃.heap := stx st₂ k₃ fun o_ o_ h => (nomatch h)
  have nDd : notFrame (listO ys 0) := notFrame_list
  have hD₃ : s₃.heap.PlainList Dd (List.toArray ys) := by obtain ⟨nn, e⟩ := hD₂; exact ⟨nn, k₃.get (o := listO ys nn) e notFrame_list fun h => (nomatch h)⟩
  have hC₃ := B.kp hn₂ k₃ (fun h => (nomatch h))
  have hY₃ := k₃.repAll (X := C :: Dd :: I :: c.X) (fun o_ h => (nomatch h)) hY₂
  have o₃ : Ok { c with X := C :: Dd :: I :: c.X, own := own i } s₃ := o₂.kp k₃
  have knm : Kp c.hb (C :: I :: O) s₂ s₃ := kall.trans (k₃.weaken fun o_ h => (nomatch h))
  have drop : ∀ {sz : Shared}, Kp c.hb (C :: I :: O) s₂ sz → Kp c.hb (I :: O) s₂ sz := fun {sz} ⟨hh, tt, e, kk⟩ => ⟨hh, tt, e, fun q ob eq hq => kk q ob eq fun hm => by
   rcases mem_c hm with z | hm
   ·exact clash z.symm hs2C eq
   ·exact hq hm⟩
  have k4' : Kp c.hb (C :: Dd :: I :: O) s₄ s₃ := ((k4.trans (kI.weaken fun a ha => by rw [List.mem_singleton.mp ha]; simp)).trans (kC.weaken fun a ha => by rw [List.mem_singleton.mp ha]; simp)).trans (k₃.weaken fun o_ h => (nomatch h))
  have acc₃ : Acc T s₂.heap (C :: Dd :: I :: c.X) s₃.heap ys := hacc'.step hT fun a o ha e hn => k₃.get (kC.get (kI.get e hn fun z => ha (by rw [List.mem_singleton.mp z]; simp)) hn fun z => ha (by rw [List.mem_singleton.mp z]; simp)) hn fun h => (nomatch h)
  have hV : ∀ a, s₃.heap.get? a = none → s₂.heap.get? a = none ∧ a ∉ C :: Dd :: I :: c.X := fun a ha => by
   have hno : ∀ b ∈ C :: Dd :: I :: c.X, a ≠ b := fun b hb e => by
    obtain ⟨ob, e'⟩ := o₃.xin b hb
    exact clash e.symm ha e'
   refine ⟨?_, fun hm => hno a hm rfl⟩
   cases q : s₂.heap.get? a with
   | none => rfl
   | some ob =>
    obtain ⟨o', e', _⟩ := knm.data q (fun hm => by
     simp only [List.mem_cons] at hm
     rcases hm with z | z | z
     ·exact hno C (.head _) z
     ·exact hno I (.tail _ (.tail _ (.head _))) z
     ·exact hno a (by simp [hO.x a z]) rfl)
    exact no_some (ha.symm.trans e')
  cases hp : p xs[i] with
  | false =>
   rw [if_neg Bool.false_ne_true]
   refine ⟨xs.length + 1 - (i + 1), by grind, i + 1, ys, acc₃, k4', rfl, hlt, drop knm, ?_, st₃, hD₃, ?_, hC₃⟩
   ·rw [skip i _ hd hp]; exact o₃
   ·rw [outs_take hd, hp]; simpa using hY₃
  | true =>
   rw [if_pos rfl]
   have oin₃ : Ok { inCxE c cenv scope x xs[i] C Dd I with own := own i } s₃ := oin.kp k₃
   refine wpAny_mono (elts i _ hd hp s₃ _ oin₃) (fun y s₅ h₅ => ?_) fun o_ o_ e => e
   refine cutG fun P_ hP_ => ?_
   obtain ⟨k₅, r₅, o₅, N₅, t₅, n₅, f₅⟩ := h₅
   refine hP_ ?_
   clear hP_ P_
   have hDO : Dd ∉ O := hOn Dd (.inr (.inl rfl))
   have hCO : C ∉ O := hOn C (.inl rfl)
   have st₅ : St (i + 1) s₅.heap := stx st₃ k₅ fun q hq hm => by
    by_cases hqI : q = I
    ·exact hOn q (.inr (.inr hqI)) hm
    ·exact W.apart q hq hqI (hOb q hm)
   have hD₅ : s₅.heap.PlainList Dd (List.toArray ys) := by obtain ⟨nn, e⟩ := hD₃; exact ⟨nn, k₅.get (o := listO ys nn) e notFrame_list hDO⟩
   have hC₅ := B.kp hC₃ k₅ hCO
   have hOX : ∀ a ∈ O, a ∈ C :: Dd :: I :: c.X := fun a ha => .tail _ (.tail _ (.tail _ (hO.x a ha)))
   have hY₅ := k₅.repAll (X := C :: Dd :: I :: c.X) hOX hY₃
   have hys : ys.length ≤ sizeLine := by
    have e1 := hY₅.length
    have e2 : ∀ (l : List D) (j : Nat), (outs p f j l).length ≤ l.length := fun l => by
     induction l with
     | nil => intro j; simp [outs]
     | cons z r ih => intro j; have := ih (j + 1); dsimp only [outs]; split <;> simp <;> grind
    have e3 := e2 (xs.take i) 0
    rw [List.length_take] at e3
    grind
   refine wpAny_list_append_plain (hsz := by simpa using hys) hD₅ fun h₆ hl₆ hs₆ => ?_
   have kD : Kp c.hb [Dd] s₅ { s₅ with heap := h₆ } := sameBut_kp (s := s₅) hs₆ s₅.toks
   have o₅' : Ok { c with X := C :: Dd :: I :: c.X, own := own (i + 1) } s₅ := by
    refine o₃.off k₅ ⟨hOX, fun a ha => hO.home a ha, fun a ha => hO.base a ha, fun a ha => hO.frame a ha⟩ (fun a ha => ?_) o₅.own
    exact o₅.xin a (hOX a ha)
   refine ⟨xs.length + 1 - (i + 1), by grind, i + 1, ys ++ [y], ?_, (k4'.trans (k₅.weaken fun a ha => .tail _ (.tail _ (.tail _ ha)))).trans (kD.weaken fun a ha => in_1 ha (.tail _ (.head _))), rfl, hlt, ?_, ?_, ?_, ?_, ?_, ?_⟩
   ·have acc₅ := acc₃.add hT (fun a o ha e hn => k₅.get e hn fun z => ha (by simp [hO.x a z])) t₅ n₅ f₅ hV
    exact acc₅.step hT fun a o ha e hn => kD.get e hn fun z => ha (in_1 z (.tail _ (.head _)))
   ·refine cutG fun P_ hP_ => ?_
    obtain ⟨hh, tt, e, kk⟩ := (knm.trans (k₅.weaken (fun a ha => .tail _ (.tail _ ha))))
    refine hP_ ?_
    clear hP_ P_
    subst e
    refine ⟨h₆, tt, rfl, fun q ob eq hq => ?_⟩
    have hqD : q ≠ Dd := fun z => by exact clash z hs2D eq
    rcases kk q ob eq (fun hm => by
     rcases mem_c hm with z | hm
     ·exact clash z.symm hs2C eq
     ·exact hq hm) with z | ⟨z1, z2, sl, z3⟩
    ·exact .inl ((hs₆.2 q hqD).trans z)
    ·exact .inr ⟨z1, z2, sl, (hs₆.2 q hqD).trans z3⟩
   ·refine o₅'.off kD ⟨fun a ha => ?_, all_one (hf.home _ (.tail _ (.head _))), all_one (hf.base _ (.tail _ (.head _))), all_one (hf.frame _ (.tail _ (.head _)))⟩ (fun a ha => ?_) (fun q hq => o₅'.ownKeep kD (fun a ha => ?_) hq ?_)
    ·exact in_1 ha (.tail _ (.head _))
    ·rcases mem_c ha with rfl | z
     ·obtain ⟨nn, e⟩ := hl₆; exact ⟨_, e⟩
     ·exact no_nil z
    ·exact in_1 ha (.tail _ (.head _))
    ·intro hm
     rcases mem_c hm with z | z
     ·exact (hCx _ (hown (i + 1) q hq)).2.1 z.symm
     ·exact no_nil z
   ·exact W.W.frame _ _ _ st₅ fun q hq ob e => (hs₆.2 q (hfpC q hq).2).trans e
   ·simpa using hl₆
   ·rw [outs_take hd, hp]
    dsimp only [if_true]
    exact (kD.repAll (X := C :: Dd :: I :: c.X) (all_one (.tail _ (.head _))) hY₅).append (.cons (kD.rep (X := C :: Dd :: I :: c.X) (all_one (.tail _ (.head _))) r₅) rfl)
   ·exact B.still hC₅ fun ob e => (hs₆.2 C hCD).trans e
 ·have hin : i = xs.length := by grind
  subst hin
  refine W.W.done s' _ _ st fun h₁ tk₁ hk₁ => ?_
  dsimp only
  have kI : Kp c.hb [I] s' { s' with heap := h₁, toks := tk₁ } := ⟨h₁, tk₁, rfl, fun q ob e hq => .inl (hk₁ q ob (fun z => hq z) e)⟩
  refine done _ ys (hacc'.step hT fun a o ha e hn => kI.get e hn fun z => ha (in_1 z (.tail _ (.tail _ (.head _))))) (k4.trans (kI.weaken fun a ha => in_1 ha (.tail _ (.tail _ (.head _))))) (k.trans (kI.weaken (all_one (.head _)))) ?_ ?_ ?_ ?_
  ·have hsub : ∀ a ∈ C :: Dd :: c.X, a ∈ C :: Dd :: I :: c.X := fun a ha => by
    rcases mem_c ha with rfl | ha
    ·exact .head _
    ·rcases mem_c ha with rfl | ha
     ·exact .tail _ (.head _)
     ·exact .tail _ (.tail _ (.tail _ ha))
   have hIn : I ∉ C :: Dd :: c.X := fun hm => by
    rcases mem_c hm with z | hm
    ·exact (hx2 I (.head _)).1 z.symm
    ·rcases mem_c hm with z | hm
     ·exact (hx2 I (.head _)).2 z.symm
     ·exact hIx hm
   refine o'.offX kI ⟨fun a ha => ?_, all_one (hf.home _ (.tail _ (.tail _ (.head _)))), all_one (hf.base _ (.tail _ (.tail _ (.head _)))), all_one (hf.frame _ (.tail _ (.tail _ (.head _))))⟩ hsub (fun a ha hm => ?_) (fun q hq => ?_)
   ·exact in_1 ha (.tail _ (.tail _ (.head _)))
   ·rcases mem_c ha with rfl | z
    ·exact absurd hm hIn
    ·exact no_nil z
   ·refine cutG fun P_ hP_ => ?_
    obtain ⟨_, vs, nn, hg, hr⟩ := o'.ownKeep kI (all_one (.tail _ (.tail _ (.head _)))) hq (fun hm => by
     rcases mem_c hm with z | z
     ·exact (hCx _ (hown _ q hq)).2.2 z.symm
     ·cases z)
    refine hP_ ?_
    clear hP_ P_
    exact ⟨.tail _ (.tail _ (hown _ q hq)), vs, nn, hg, hr.mono fun a o_ ha e o_ => ⟨fun q => ha (hsub a q), e⟩⟩
  ·exact hD.at fun ob e => hk₁ _ ob (fun z => by exact (hx2 I (.head _)).2 (mem_1 z)) e
  ·rw [List.take_length] at hY
   exact kI.repAll (X := C :: Dd :: I :: c.X) (all_one (.tail _ (.tail _ (.head _)))) hY
  ·exact B.still hC fun ob e => hk₁ _ ob (fun z => by exact (hx2 I (.head _)).1 (mem_1 z)) e
end
end Mine
end
section
open PySem PySem.W PyProof.Rows
namespace Mine
open PySem.Calls
section
variable {c : Cx}
noncomputable def Kpr (c : Cx) (f : Value) : Prop := ∀ s, Ok c s → ∃ k, (k = Keeper.frame ∨ k = Keeper.machine ∨ k = Keeper.boundFrame) ∧ Looks (model c.prog c.w) s.heap (keeperOf f) k
theorem kpr_builtin {id : String} : Kpr c (.builtin id) := fun s o_ => ⟨.machine, .inr (.inl rfl), fun o_ o_ o_ o_ o_ q => by unfold keeperOf; exact wpAny_pure q⟩
theorem kpr_type {T : String} : Kpr c (.type T) := fun s o_ => ⟨.machine, .inr (.inl rfl), fun o_ o_ o_ o_ o_ q => by unfold keeperOf; exact wpAny_pure q⟩
theorem kpr_fn {a : Addr} {o : Obj} {fd : FuncData} (ho : c.hb.get? a = some o) (hd : o.data = .func fd) : Kpr c (.ref a) := fun s ok => ⟨.frame, .inl rfl, fun A Q E s' k q => by
 unfold keeperOf
 refine wpAny_bind (wpAny_load (k _ _ (ok.base _ _ ho)) ?_)
 rw [hd]; exact wpAny_pure q⟩
noncomputable def CallP (c : Cx) (f : Value) (ds : List D) (d : D) : Prop :=
 ∀ s E vs, Ok c s → RepAll c.X s.heap ds vs → wpAny (model c.prog c.w) c.A (call f vs) (fun v s' => Kp c.hb [] s s' ∧ Rep c.X s'.heap d v) E s
noncomputable def CallO (c : Cx) (f : Value) (ds : List D) (O : List Addr) (own' : List (Addr × List D)) (d : D) : Prop :=
 ∀ s E vs, Ok c s → RepAll c.X s.heap ds vs → wpAny (model c.prog c.w) c.A (call f vs) (fun v s' => Kp c.hb O s s' ∧ Rep c.X s'.heap d v ∧ Ok { c with own := own' } s') E s
theorem callWith_data {f : Value} {e : Expr} {es : List Expr} {pos : Pos} {ds : List D} {s : Shared} {E : Value → Shared → Prop} {Q : Value → Shared → Prop} (o : Ok c s) (hk : Kpr c f) (ha : Evs c (e :: es) ds)
  (h : ∀ s₁ vs, Kp c.hb [] s s₁ → RepAll c.X s₁.heap ds vs → wpAny (model c.prog c.w) c.A (call f vs) Q E s₁)
  (he : starEach (e :: es) c.env = (false, eval e c.env) :: starEach es c.env := by rfl) (hplain : ((starEach (e :: es) c.env).any (·.1)) = false := by rfl) :
  wpAny (model c.prog c.w) c.A (callWith pos f [] (backTo pos (starEach (e :: es) c.env)) []) Q E s := by
 have hp : ((backTo pos (starEach (e :: es) c.env)).any (·.1) || ([] : List (Option Str × Sem Value)).any (·.1.isNone)) = false := by
  obtain this : ∀ l : List (Bool × Sem Value), (backTo pos l).any (·.1) = l.any (·.1) := fun l => by
   unfold backTo; rw [List.any_map]; rfl
  rw [this, hplain]; rfl
 refine callWith_of (P := fun hp => ∃ s', Ok c s' ∧ s'.heap = hp) hp (fun hh z1_ => by obtain ⟨s', o', e'⟩ := z1_; exact e' ▸ hk s' o') ?_
 obtain key := ha pos s E o
 rw [he] at key ⊢
 refine evalArgs_plain (wpAny_mono key (fun vs s₁ h₁ => ⟨⟨s₁, o.kp h₁.1, rfl⟩, ?_⟩) fun o_ o_ e => e)
 exact h s₁ vs h₁.1 h₁.2
theorem ev_call {x : Str} {p pos : Pos} {e : Expr} {es : List Expr} {f : Value} {ds : List D} {d : D} (hf : Ev c (.Name x p) (.val f)) (ha : Evs c (e :: es) ds) (hk : Kpr c f) (h : CallP c f ds d)
  (he : starEach (e :: es) c.env = (false, eval e c.env) :: starEach es c.env := by rfl) (hplain : ((starEach (e :: es) c.env).any (·.1)) = false := by rfl) : Ev c (.Call (.Name x p) (e :: es) [] pos) d := fun s E o => by
 refine Call_Name rfl (wpAny_mono (hf s E o) (fun f' s₁ h₁ => ?_) fun o_ o_ e => e)
 obtain ⟨k₁, rfl⟩ := h₁
 exact callWith_data (o.kp k₁) hk ha (fun s₂ vs k₂ r => wpAny_mono (h s₂ E vs ((o.kp k₁).kp k₂) r) (fun v s₃ h₃ => ⟨(k₁.trans k₂).trans h₃.1, h₃.2⟩) fun o_ o_ e => e) he hplain
theorem evo_call {x : Str} {p pos : Pos} {e : Expr} {es : List Expr} {f : Value} {ds : List D} {d : D} {O : List Addr} {own' : List (Addr × List D)} (hf : Ev c (.Name x p) (.val f)) (ha : Evs c (e :: es) ds) (hk : Kpr c f) (h : CallO c f ds O own' d)
  (he : starEach (e :: es) c.env = (false, eval e c.env) :: starEach es c.env := by rfl) (hplain : ((starEach (e :: es) c.env).any (·.1)) = false := by rfl) : Evo c O own' (.Call (.Name x p) (e :: es) [] pos) d := fun s E o => by
 refine Call_Name rfl (wpAny_mono (hf s E o) (fun f' s₁ h₁ => ?_) fun o_ o_ e => e)
 obtain ⟨k₁, rfl⟩ := h₁
 exact callWith_data (o.kp k₁) hk ha (fun s₂ vs k₂ r => wpAny_mono (h s₂ E vs ((o.kp k₁).kp k₂) r) (fun v s₃ h₃ => ⟨((k₁.trans k₂).weaken fun o_ h => (nomatch h)).trans h₃.1, h₃.2⟩) fun o_ o_ e => e) he hplain
theorem src_list {e : Expr} {ds : List D} {k : Nat} (hr : Room c.A k) (h : Ev c e (.list ds)) : Src c c.X e ds := fun s E o => by
 refine wpAny_mono (h s E o) (fun v s₁ h₁ => ?_) fun o_ o_ e => e
 refine cutG fun P_ hP_ => ?_
 obtain ⟨k₁, a, vs, n, rfl, hax, hg, hv⟩ := h₁
 refine hP_ ?_
 clear hP_ P_
 obtain hl : s₁.heap.IsList a vs.toArray := ⟨_, hg, rfl, n, rfl⟩
 obtain hne : a ≠ s₁.heap.objs.size := Nat.ne_of_lt (Heap.lt_size hg)
 refine wpAny_pyIter_list hl ⟨k₁.trans (Kp.push _ _ _), s₁.heap.objs.size, [s₁.heap.objs.size, a], fun i v => vs.toArray[i]? = some v, fun i h => h.IsListIter s₁.heap.objs.size a i ∧ h.IsList a vs.toArray, rfl, ?_, ?_⟩
 ·cases q : s.heap.get? s₁.heap.objs.size with
  | none => rfl
  | some ob => obtain ⟨o', e', _⟩ := k₁.data q (fun h => (nomatch h)); exact absurd (Heap.lt_size e') (Nat.lt_irrefl _)
 ·obtain hlen : vs.toArray.size = ds.length := by simp [hv.length]
  obtain W := Walks.list (prog := c.prog) (w := c.w) hr.1 s₁.heap.objs.size a hne vs.toArray
  rw [hlen] at W
  refine ⟨W, ⟨⟨_, Heap.get?_push_size _ rfl, rfl, rfl⟩, hl.push _⟩, ?_, ?_, ?_, .head _⟩
  ·rintro i h ⟨⟨o1, e1, c1, d1⟩, o2, e2, c2, n2, d2⟩ b hb
   rcases mem_c hb with rfl | hb
   ·exact ⟨o1, e1, fun es n h => by cases d1.symm.trans h⟩
   ·rcases mem_c hb with rfl | z
    ·exact ⟨o2, e2, fun es n h => by cases d2.symm.trans h⟩
    ·exact no_nil z
  ·intro i v d hd hP
   obtain ⟨u, hu, hru⟩ := hv.get hd
   obtain this : v = u := by
    have hP' : vs[i]? = some v := by simpa using hP
    rw [hu] at hP'; exact (Option.some.inj hP').symm
   subst this
   refine hru.mono fun b ob hb e' o_ => ⟨fun hm => ?_, Heap.get?_push_of_some _ e'⟩
   rcases mem_c hm with rfl | z
   ·exact absurd (Heap.lt_size e') (Nat.lt_irrefl _)
   ·exact hb z
  ·intro b hb hne'
   rcases mem_c hb with rfl | hb
   ·exact absurd rfl hne'
   ·rcases mem_c hb with rfl | z
    ·exact hax
    ·exact no_nil z
theorem src_own {e : Expr} {a : Addr} {ds : List D} {k : Nat} (hr : Room c.A k) (h : Ev c e (.val (.ref a))) (hm : (a, ds) ∈ c.own) {Ob : List Addr} (hOb : a ∉ Ob) : Src c Ob e ds := fun s E o => by
 refine wpAny_mono (h s E o) (fun v s₁ h₁ => ?_) fun o_ o_ e => e
 refine cutG fun P_ hP_ => ?_
 obtain ⟨k₁, rfl⟩ := h₁
 obtain ⟨_, vs, n, hg, hv⟩ := (o.kp k₁).own _ hm
 refine hP_ ?_
 clear hP_ P_
 obtain hl : s₁.heap.IsList a vs.toArray := ⟨_, hg, rfl, n, rfl⟩
 obtain hne : a ≠ s₁.heap.objs.size := Nat.ne_of_lt (Heap.lt_size hg)
 refine wpAny_pyIter_list hl ⟨k₁.trans (Kp.push _ _ _), s₁.heap.objs.size, [s₁.heap.objs.size, a], fun i v => vs.toArray[i]? = some v, fun i h => h.IsListIter s₁.heap.objs.size a i ∧ h.IsList a vs.toArray, rfl, ?_, ?_⟩
 ·cases q : s.heap.get? s₁.heap.objs.size with
  | none => rfl
  | some ob => obtain ⟨o', e', _⟩ := k₁.data q (fun h => (nomatch h)); exact absurd (Heap.lt_size e') (Nat.lt_irrefl _)
 ·obtain hlen : vs.toArray.size = ds.length := by simp [hv.length]
  obtain W := Walks.list (prog := c.prog) (w := c.w) hr.1 s₁.heap.objs.size a hne vs.toArray
  rw [hlen] at W
  refine ⟨W, ⟨⟨_, Heap.get?_push_size _ rfl, rfl, rfl⟩, hl.push _⟩, ?_, ?_, ?_, .head _⟩
  ·rintro i h ⟨⟨o1, e1, c1, d1⟩, o2, e2, c2, n2, d2⟩ b hb
   rcases mem_c hb with rfl | hb
   ·exact ⟨o1, e1, fun es n h => by cases d1.symm.trans h⟩
   ·rcases mem_c hb with rfl | z
    ·exact ⟨o2, e2, fun es n h => by cases d2.symm.trans h⟩
    ·exact no_nil z
  ·intro i v d hd hP
   obtain ⟨u, hu, hru⟩ := hv.get hd
   obtain this : v = u := by
    have hP' : vs[i]? = some v := by simpa using hP
    rw [hu] at hP'; exact (Option.some.inj hP').symm
   subst this
   refine hru.mono fun b ob hb e' o_ => ⟨fun hm => ?_, Heap.get?_push_of_some _ e'⟩
   rcases mem_c hm with rfl | z
   ·exact absurd (Heap.lt_size e') (Nat.lt_irrefl _)
   ·exact hb z
  ·intro b hb hne'
   rcases mem_c hb with rfl | hb
   ·exact absurd rfl hne'
   ·rcases mem_c hb with rfl | z
    ·exact hOb
    ·exact no_nil z
theorem src_tup {e : Expr} {ds : List D} {k : Nat} (hr : Room c.A k) (h : Ev c e (.tup ds)) : Src c c.X e ds := fun s E o => by
 refine wpAny_mono (h s E o) (fun v s₁ h₁ => ?_) fun o_ o_ e => e
 refine cutG fun P_ hP_ => ?_
 obtain ⟨k₁, a, vs, n, rfl, hax, hg, hv⟩ := h₁
 refine hP_ ?_
 clear hP_ P_
 obtain hl : s₁.heap.IsTuple a vs.toArray := ⟨_, hg, rfl, n, rfl⟩
 obtain hne : a ≠ s₁.heap.objs.size := Nat.ne_of_lt (Heap.lt_size hg)
 refine wpAny_pyIter_tuple hl ⟨k₁.trans (Kp.push _ _ _), s₁.heap.objs.size, [s₁.heap.objs.size, a], fun i v => vs.toArray[i]? = some v, fun i h => h.IsTupleIter s₁.heap.objs.size a i ∧ h.IsTuple a vs.toArray, rfl, ?_, ?_⟩
 ·cases q : s.heap.get? s₁.heap.objs.size with
  | none => rfl
  | some ob => obtain ⟨o', e', _⟩ := k₁.data q (fun h => (nomatch h)); exact absurd (Heap.lt_size e') (Nat.lt_irrefl _)
 ·obtain hlen : vs.toArray.size = ds.length := by simp [hv.length]
  obtain W := Walks.tuple (prog := c.prog) (w := c.w) hr.1 s₁.heap.objs.size a hne vs.toArray
  rw [hlen] at W
  refine ⟨W, ⟨⟨_, Heap.get?_push_size _ rfl, rfl, rfl⟩, hl.at fun ob e => Heap.get?_push_of_some _ e⟩, ?_, ?_, ?_, .head _⟩
  ·rintro i h ⟨⟨o1, e1, c1, d1⟩, o2, e2, c2, n2, d2⟩ b hb
   rcases mem_c hb with rfl | hb
   ·exact ⟨o1, e1, fun es n h => by cases d1.symm.trans h⟩
   ·rcases mem_c hb with rfl | z
    ·exact ⟨o2, e2, fun es n h => by cases d2.symm.trans h⟩
    ·exact no_nil z
  ·intro i v d hd hP
   obtain ⟨u, hu, hru⟩ := hv.get hd
   obtain this : v = u := by
    have hP' : vs[i]? = some v := by simpa using hP
    rw [hu] at hP'; exact (Option.some.inj hP').symm
   subst this
   refine hru.mono fun b ob hb e' o_ => ⟨fun hm => ?_, Heap.get?_push_of_some _ e'⟩
   rcases mem_c hm with rfl | z
   ·exact absurd (Heap.lt_size e') (Nat.lt_irrefl _)
   ·exact hb z
  ·intro b hb hne'
   rcases mem_c hb with rfl | hb
   ·exact absurd rfl hne'
   ·rcases mem_c hb with rfl | z
    ·exact hax
    ·exact no_nil z
noncomputable def rangeD (a : Int) (n : Nat) (st : Int) : List D := (List.range n).map fun (i : Nat) => D.int (a + i * st)
theorem walk_range {a b st : Int} {t u v : Tok} {n : Nat} {k : Nat} (hr : Room c.A k) {s s₁ : Shared} {E : Value → Shared → Prop} {r : Addr} {Ob : List Addr} (k₁ : Kp c.hb [] s s₁) (hrange : IsRange s₁.heap r a b st t u v) (hsmall : Builtin.Range.small a b st = true) (hn : Builtin.Range.rangeSize a b st = n) :
  wpAny (model c.prog c.w) c.A (pyIter (.ref r)) (fun it s₂ => Kp c.hb [] s s₂ ∧ ∃ I fp P St, it = .ref I ∧ s.heap.get? I = none ∧ Walker c Ob I fp (rangeD a n st) P St s₂) E s₁ := by
 refine wpAny_pyIter_range hrange hsmall ⟨k₁.trans (Kp.push _ _ _), s₁.heap.objs.size, [s₁.heap.objs.size], fun i w => ∃ t, w = .int (a + i * st) t, fun i h => IsRangeIter h s₁.heap.objs.size (a + (i : Nat) * st) ((n : Int) - (i : Nat)) st, rfl, ?_, ?_⟩
 ·cases q : s.heap.get? s₁.heap.objs.size with
  | none => rfl
  | some ob => obtain ⟨o', e', _⟩ := k₁.data q (fun h => (nomatch h)); exact absurd (Heap.lt_size e') (Nat.lt_irrefl _)
 ·obtain W := Walks.range (prog := c.prog) (w := c.w) hr.1 s₁.heap.objs.size a st n
  obtain hlen : (rangeD a n st).length = n := by simp [rangeD]
  refine ⟨by rw [hlen]; exact W, ?_, ?_, ?_, ?_, .head _⟩
  ·show IsRangeIter _ _ _ _ _
   rw [hn]
   obtain e1 : a + ((0 : Nat) : Int) * st = a := by simp
   obtain e2 : (n : Int) - ((0 : Nat) : Int) = n := by rfl
   rw [e1, e2]
   exact Heap.get?_push_size _ rfl
  ·intro i h hst q hq
   rcases mem_c hq with rfl | z
   ·exact ⟨_, hst, fun es n h => by cases h⟩
   ·exact no_nil z
  ·intro i w d hd hP
   obtain ⟨tk, rfl⟩ := hP
   obtain this : d = .int (a + i * st) := by
    unfold rangeD at hd
    rw [List.getElem?_map] at hd
    rcases Nat.lt_or_ge i n with q | q
    ·rw [List.getElem?_range q] at hd; cases hd; rfl
    ·rw [List.getElem?_eq_none (by simpa using q)] at hd; cases hd
   subst this
   exact ⟨_, rfl⟩
  ·intro q hq hne
   rcases mem_c hq with rfl | z
   ·exact absurd rfl hne
   ·exact no_nil z
theorem src_range1 {x : Str} {p pos : Pos} {e : Expr} {n : Nat} {k : Nat} {Ob : List Addr} (hr : Room c.A k) (hf : Ev c (.Name x p) (.val (.type "range"))) (he : Ev c e (.int n)) (hn : (n : Int) < 2 ^ 62)
  (hs : starEach [e] c.env = [(false, eval e c.env)] := by rfl) : Src c Ob (.Call (.Name x p) [e] [] pos) (rangeD 0 n 1) := fun s E o => by
 refine Call_Name rfl (wpAny_mono (hf s E o) (fun f' s₁ h₁ => ?_) fun o_ o_ e => e)
 obtain ⟨k₁, rfl⟩ := h₁
 refine callWith_data (o.kp k₁) kpr_type (evs_cons he evs_nil hs) (fun s₂ vs k₂ r => ?_) hs (by rw [hs]; rfl)
 obtain ⟨v, _, rfl, ⟨t, rfl⟩, rfl⟩ := r
 refine call_range_1 ?_
 refine walk_range hr (((k₁.trans k₂).trans (Kp.push _ _ _)).toks _) (IsRange.new ..) (small_one (by grind) (by grind) (by grind) (by grind)) ?_
 rw [rangeSize_one]; split <;> grind
theorem src_range2 {x : Str} {p pos : Pos} {e e' : Expr} {a b : Int} {k : Nat} {Ob : List Addr} (hr : Room c.A k) (hf : Ev c (.Name x p) (.val (.type "range"))) (he : Ev c e (.int a)) (he' : Ev c e' (.int b)) (ha : -(2 ^ 62) ≤ a) (ha' : a < 2 ^ 62) (hb : -(2 ^ 62) ≤ b) (hb' : b < 2 ^ 62)
  (hs : starEach [e, e'] c.env = [(false, eval e c.env), (false, eval e' c.env)] := by rfl) (hs' : starEach [e'] c.env = [(false, eval e' c.env)] := by rfl) : Src c Ob (.Call (.Name x p) [e, e'] [] pos) (rangeD a (b - a).toNat 1) := fun s E o => by
 refine Call_Name rfl (wpAny_mono (hf s E o) (fun f' s₁ h₁ => ?_) fun o_ o_ e => e)
 obtain ⟨k₁, rfl⟩ := h₁
 refine callWith_data (o.kp k₁) kpr_type (evs_cons he (evs_cons he' evs_nil hs') (by rw [hs, hs'])) (fun s₂ vs k₂ r => ?_) (by rw [hs, hs']) (by rw [hs]; rfl)
 obtain ⟨v, _, rfl, ⟨t, rfl⟩, u, _, rfl, ⟨t', rfl⟩, rfl⟩ := r
 refine call_range_2 ?_
 refine walk_range hr (((k₁.trans k₂).trans (Kp.push _ _ _)).toks _) (IsRange.new ..) (small_one ha ha' hb hb') ?_
 rw [rangeSize_one]; split <;> grind
end
end Mine
end
section
open PySem PySem.W PyProof.Rows
namespace Mine
open PySem.Calls
section
variable {c : Cx}
noncomputable def CompRuns (T : Heap → Value → List Addr → Prop) (c : Cx) (O : List Addr) (own : Nat → List (Addr × List D)) (elt iter : Expr) (x : Str) (px : Pos) (ifs : List Expr) (scope : Scope) (pos : Pos) (xs out : List D) : Prop :=
 ∀ {I : Addr} {Ob fp : List Addr} {P : Nat → Value → Prop} {St : Nat → Heap → Prop} {s s₂ : Shared} {E : Value → Shared → Prop} {RR : Value → Addr → Result → Shared → Prop},
  Ok { c with own := own 0 } s → Kp c.hb [] s s₂ → s.heap.get? I = none → Walker c Ob I fp xs P St s₂ → (∀ a ∈ O, a ∈ Ob) →
  (∀ Dd C s' m, s.heap.get? Dd = none → s.heap.get? C = none → Dd ≠ C → Kp c.hb O s s' → Ok { c with X := C :: c.X, own := own xs.length } s' → (∃ ys n, s'.heap.get? Dd = some (listO ys n) ∧ RepAll (C :: Dd :: c.X) s'.heap out ys ∧ Acc T s.heap [C, Dd] s'.heap ys) → s'.heap.Ns C m → RR (.ref Dd) C (.ok .next) s') →
  wpAny (model c.prog c.w) c.A (newList []) (fun acc s₃ => wpAny (model c.prog c.w) c.A (newFunctionEnv scope c.env.globals (clOf scope c.env) [] c.env.qual none .none (some c.env)) (fun cenv s₄ =>
   codeAny (model c.prog c.w) c.A (.compStart (.ListComp elt [⟨.Name x px, iter, ifs, 0⟩] scope pos) 0 (.ref I) acc { cenv with scope := relabel scope c.env }) (RR acc cenv.locals) s₄) E s₃) E s₂
theorem comp_block {T : Heap → Value → List Addr → Prop} (hT : Tree T) {O : List Addr} {own : Nat → List (Addr × List D)} {elt iter : Expr} {x : Str} {px : Pos} {ifs : List Expr} {scope : Scope} {pos : Pos} {xs : List D} {f : Nat → D → D} {p : D → Bool}
  (hO : Off c O) (b : blockOk scope c.env x = true) (hown : ∀ i, ∀ q ∈ own i, q.1 ∈ c.X)
  (tests : ∀ i d C Dd I, xs[i]? = some d → TestsOk { inCx c scope x d C Dd I with own := own i } ifs (p d))
  (elts : ∀ i d C Dd I, xs[i]? = some d → p d = true → EvoT T { inCx c scope x d C Dd I with own := own i } O (own (i + 1)) elt (f i d))
  (skip : ∀ i d, xs[i]? = some d → p d = false → own (i + 1) = own i) (hsz : xs.length ≤ sizeLine) : CompRuns T c O own elt iter x px ifs scope pos xs (outs p f 0 xs) := by
 intro I Ob fp P St s s₂ E RR o k02 hI W hOb done
 obtain hkind : scope.kind = .function := by simp only [blockOk, Bool.and_eq_true] at b; simpa using b.1.1.1.2
 obtain hcell : ∀ y ∈ scope.names, y.2 ≠ .cell := by
  simp only [blockOk, Bool.and_eq_true, List.all_eq_true] at b
  intro y hy; simpa using b.1.1.1.1 y hy
 refine wpAny_newObj_type (wpAny_newFunctionEnv hcell (by intro y hy; simp at hy) (fun h₁ hns₁ hsb₁ => ?_) hkind)
 dsimp only at hns₁ hsb₁ ⊢
 generalize hH2 : s₂.heap.push { cls := .type "list", dict := none, data := .seq ([] : List Value).toArray } = H2 at hns₁ hsb₁ ⊢
 have hC : H2.objs.size = s₂.heap.objs.size + 1 := by rw [← hH2, Heap.size_push]
 have hDC : s₂.heap.objs.size ≠ H2.objs.size := by rw [hC]; exact Nat.ne_of_lt (Nat.lt_succ_self _)
 have below : ∀ q, q < s₂.heap.objs.size → q ≠ H2.objs.size ∧ q ≠ s₂.heap.objs.size := fun q hb => ⟨by rw [hC]; exact Nat.ne_of_lt (Nat.lt_succ_of_lt hb), Nat.ne_of_lt hb⟩
 have old : ∀ q ob, s₂.heap.get? q = some ob → h₁.get? q = some ob := fun q ob e => hsb₁.extBut q ob (below q (Heap.lt_size e)).1 (Heap.get?_push_of_some _ (hH2 ▸ Heap.get?_push_of_some _ e))
 have hacc : h₁.PlainList s₂.heap.objs.size #[] := ⟨_, hsb₁.extBut _ _ hDC (Heap.get?_push_of_some _ (hH2 ▸ Heap.get?_push_size _ rfl))⟩
 obtain fresh : ∀ a, s₂.heap.objs.size ≤ a → s₂.heap.get? a = none := fun a ha => Heap.get?_none_of_le ha
 obtain hs2D := fresh _ (Nat.le_refl s₂.heap.objs.size)
 obtain hs2C : s₂.heap.get? H2.objs.size = none := fresh _ (by rw [hC]; exact Nat.le_succ _)
 have hsD : s.heap.get? s₂.heap.objs.size = none := by
  cases q : s.heap.get? s₂.heap.objs.size with
  | none => rfl
  | some ob => obtain ⟨o', e', _⟩ := k02.data q (fun h => (nomatch h)); exact no_some (hs2D.symm.trans e')
 have hsC : s.heap.get? H2.objs.size = none := by
  cases q : s.heap.get? H2.objs.size with
  | none => rfl
  | some ob => obtain ⟨o', e', _⟩ := k02.data q (fun h => (nomatch h)); exact no_some (hs2C.symm.trans e')
 obtain hIx : I ∉ c.X := fun hm => by obtain ⟨ob, e⟩ := o.xin I hm; exact no_some (hI.symm.trans e)
 have hIs₂ : ∃ ob, s₂.heap.get? I = some ob := by obtain ⟨ob, e, _⟩ := W.nf _ _ W.st I W.self; exact ⟨ob, e⟩
 obtain hx2 : ∀ a ∈ I :: c.X, a ≠ H2.objs.size ∧ a ≠ s₂.heap.objs.size := fun a ha => by
  refine below a ?_
  rcases mem_c ha with rfl | ha
  ·obtain ⟨ob, e⟩ := hIs₂; exact Heap.lt_size e
  ·obtain ⟨ob, e⟩ := o.xin a ha; obtain ⟨o', e', _⟩ := k02.data e (fun h => (nomatch h)); exact Heap.lt_size e'
 have hnone : ∀ a ∈ [H2.objs.size, s₂.heap.objs.size, I], s.heap.get? a = none := fun a ha => by
  rcases mem_c ha with rfl | ha
  ·exact hsC
  ·rcases mem_c ha with rfl | ha
   ·exact hsD
   ·rcases mem_c ha with rfl | z
    ·exact hI
    ·exact no_nil z
 obtain hf : Off { c with X := H2.objs.size :: s₂.heap.objs.size :: I :: c.X } [H2.objs.size, s₂.heap.objs.size, I] := by
  refine ⟨fun a ha => ?_, fun a ha hm => ?_, fun a ha => ?_, fun a ha hm => ?_⟩
  ·rcases mem_c ha with rfl | ha
   ·simp
   ·rcases mem_c ha with rfl | ha
    ·simp
    ·rcases mem_c ha with rfl | z
     ·simp
     ·exact no_nil z
  ·obtain ⟨ob, e⟩ := o.home a hm; rw [hnone a ha] at e; cases e
  ·cases q : c.hb.get? a with
   | none => rfl
   | some ob => have := o.base a ob q; rw [hnone a ha] at this; cases this
  ·obtain ⟨l, hl, hfr⟩ := o.frames
   obtain hm' : a ∈ l.filterMap (·.frame) := by unfold framesOf at hm; rw [show c.A.frames = some l from hl] at hm; exact hm
   obtain ⟨_, ob, e, _⟩ := hfr.mem hm'
   rw [hnone a ha] at e; cases e
 obtain hfpC : ∀ q ∈ fp, q ≠ H2.objs.size ∧ q ≠ s₂.heap.objs.size := fun q hq => by
  obtain ⟨ob, e, _⟩ := W.nf _ _ W.st q hq; exact below q (Heap.lt_size e)
 have k24 : Kp c.hb [] s₂ { s₂ with heap := h₁, toks := s₂.toks + ([] : List (Str × Value)).length } := ⟨h₁, _, rfl, fun q ob e o_ => .inl (old q ob e)⟩
 obtain k04 := k02.trans k24
 obtain o4 := o.kp k04
 have o' : Ok { c with X := H2.objs.size :: s₂.heap.objs.size :: I :: c.X, own := own 0 } { s₂ with heap := h₁, toks := s₂.toks + ([] : List (Str × Value)).length } := by
  obtain hnew : ∀ a ob, s.heap.get? a = some ob → a ∉ H2.objs.size :: s₂.heap.objs.size :: I :: c.X → a ∉ c.X := fun a ob o_ hm z => hm (.tail _ (.tail _ (.tail _ z)))
  obtain rep' : ∀ {d : D} {v : Value}, Rep c.X s.heap d v → Rep (H2.objs.size :: s₂.heap.objs.size :: I :: c.X) h₁ d v := fun {d v} r => r.mono fun a ob ha e hnf => by
   refine ⟨fun hm => ?_, k04.get e hnf (fun h => (nomatch h))⟩
   rcases mem_c hm with z_ | hm
   ·exact clash z_.symm hsC e
   ·rcases mem_c hm with z_ | hm
    ·exact clash z_.symm hsD e
    ·rcases mem_c hm with z_ | hm
     ·exact clash z_.symm hI e
     ·exact ha hm
  refine ⟨o4.base, o4.frames, fun a ha => ?_, fun y d hy => ?_, fun q hq => ?_, o4.home⟩
  ·rcases mem_c ha with rfl | ha
   ·obtain ⟨ob, _, _, e, _⟩ := hns₁; exact ⟨ob, e⟩
   ·rcases mem_c ha with rfl | ha
    ·obtain ⟨n, e⟩ := hacc; exact ⟨_, e⟩
    ·rcases mem_c ha with rfl | ha
     ·obtain ⟨ob, e⟩ := hIs₂; exact ⟨ob, old _ _ e⟩
     ·exact o4.xin a ha
  ·obtain ⟨v, hv, hr⟩ := o.vars y d hy
   exact ⟨v, hv.kp k04 (fun o_ o_ h => (nomatch h)), rep' hr⟩
  ·obtain ⟨hx, vs, n, hg, hr⟩ := o.own q hq
   refine ⟨.tail _ (.tail _ (.tail _ hx)), vs, n, k04.get hg notFrame_list (fun h => (nomatch h)), ?_⟩
   exact hr.mono fun a ob ha e hnf => by
    refine ⟨fun hm => ?_, k04.get e hnf (fun h => (nomatch h))⟩
    rcases mem_c hm with z_ | hm
    ·exact clash z_.symm hsC e
    ·rcases mem_c hm with z_ | hm
     ·exact clash z_.symm hsD e
     ·rcases mem_c hm with z_ | hm
      ·exact clash z_.symm hI e
      ·exact ha hm
 have loop : codeAny (model c.prog c.w) c.A (.compLoop (.ListComp elt [⟨.Name x px, iter, ifs, 0⟩] scope pos) 0 (.ref I) (.ref s₂.heap.objs.size) (compEnvC scope (clOf scope c.env) H2.objs.size c.env)) (RR (.ref s₂.heap.objs.size) H2.objs.size) { s₂ with heap := h₁, toks := s₂.toks + ([] : List (Str × Value)).length } := by
  refine comp_loop hT W hO hOb hIx (binder_local b) hx2 (Ne.symm hDC) hf hs2C hs2D hfpC o' k24 hacc ⟨_, hns₁⟩ hown (fun i d => tests i d _ _ _) (fun i d => elts i d _ _ _) skip hsz ?_
  rintro s' ys acc _ k o'' hD hY ⟨m, hn⟩
  obtain kO : Kp c.hb O s s' := by
   obtain ⟨h', tk, rfl, kk⟩ := k02.weaken (O' := I :: O) (fun o_ h => (nomatch h)) |>.trans k
   refine ⟨h', tk, rfl, fun q ob e hq => kk q ob e fun hm => ?_⟩
   rcases mem_c hm with z_ | hm
   ·exact clash z_.symm hI e
   ·exact hq hm
  refine done _ _ s' m hsD hsC hDC kO ?_ ?_ hn
  ·have hsub : ∀ a ∈ H2.objs.size :: c.X, a ∈ H2.objs.size :: s₂.heap.objs.size :: c.X := fun a ha => by
    rcases mem_c ha with rfl | ha
    ·exact .head _
    ·exact .tail _ (.tail _ ha)
   refine o''.offX (O := []) (Kp.refl _ _ _) ⟨fun o_ h => (nomatch h), fun o_ h => (nomatch h), fun o_ h => (nomatch h), fun o_ h => (nomatch h)⟩ hsub (fun o_ h => (nomatch h)) (fun q hq => ?_)
   obtain ⟨_, vs, n, hg, hr⟩ := o''.own q hq
   exact ⟨.tail _ (hown _ q hq), vs, n, hg, hr.mono fun a o_ ha e o_ => ⟨fun z => ha (hsub a z), e⟩⟩
  ·obtain ⟨n, e⟩ := hD
   refine ⟨ys, n, e, hY.mono fun a o_ ha e' o_ => ⟨fun z => ha ?_, e'⟩, acc.weak fun a h1 h2 => ⟨?_, fun z => h2 (by simp only [List.mem_cons, List.not_mem_nil, or_false] at z ⊢; rcases z with z | z <;> simp [z])⟩⟩
   rotate_left
   ·cases q : s.heap.get? a with
    | none => rfl
    | some ob => obtain ⟨o', e', _⟩ := k02.data q (fun h => (nomatch h)); exact no_some (h1.symm.trans e')
   rcases List.mem_cons.mp z with q | z
   ·rw [q]; exact .head _
   ·rcases List.mem_cons.mp z with q | z
    ·rw [q]; exact .tail _ (.head _)
    ·exact .tail _ (.tail _ (.tail _ z))
 exact codeAny_compStart_list loop (W.W.self 0 _ _ _ (W.W.frame _ _ _ W.st fun q hq ob e => old q ob e) loop)
theorem names_of_block {scope : Scope} {env : Env} {x : Str} (b : blockOk scope env x = true) :
  closureFor scope env = pure (clOf scope env) ∧ scope.kind = .function ∧ (∀ y ∈ scope.names, y.2 = .local → scope.names.lookup y.1 = some .local) := by
 simp only [blockOk, Bool.and_eq_true, List.all_eq_true] at b
 refine ⟨closureFor_is fun y hy hk => ?_, by simpa using b.1.1.1.2, fun y hy hk => ?_⟩
 ·have := b.2 y hy
  simp only [hk, bne_self_eq_false, Bool.false_or, Bool.and_eq_true] at this
  exact this.1.1.1
 ·have := b.1.2 y hy
  simpa [hk] using this
noncomputable def NamesOk (scope : Scope) (env : Env) : Prop := closureFor scope env = pure (clOf scope env) ∧ scope.kind = .function ∧ (∀ y ∈ scope.names, y.2 = .local → scope.names.lookup y.1 = some .local)
theorem evo_compR {T : Heap → Value → List Addr → Prop} (hT : Tree T) {O Ob : List Addr} {own : Nat → List (Addr × List D)} {elt iter : Expr} {x : Str} {px : Pos} {ifs : List Expr} {scope : Scope} {pos : Pos} {xs out : List D}
  (hc : c.own = own 0) (hsrc : Src c Ob iter xs) (hOb : ∀ a ∈ O, a ∈ Ob) (hown : ∀ i, ∀ q ∈ own i, q.1 ∈ c.X) (N : NamesOk scope c.env) (R : CompRuns T c O own elt iter x px ifs scope pos xs out)
  (hs : ∀ v, foldedSetIterable iter c.env v = pure v := by intro _; rfl) :
  ∀ s E, Ok c s → wpAny (model c.prog c.w) c.A (eval (.ListComp elt [⟨.Name x px, iter, ifs, 0⟩] scope pos) c.env) (fun v s' => Kp c.hb O s s' ∧ (∃ a ys n, v = .ref a ∧ s.heap.get? a = none ∧ s'.heap.get? a = some (listO ys n) ∧ RepAll (a :: c.X) s'.heap out ys ∧ Acc T s.heap [a] s'.heap ys) ∧ Ok { c with own := own xs.length } s') E s := fun s E o => by
 obtain ⟨hcl, hkind, hnames⟩ := N
 rw [eval_ListComp]
 refine wpAny_comprehension_free (use := none) rfl hs hcl hkind hnames (wpAny_mono (hsrc s E o) (fun xv s₁ h₁ => wpAny_mono h₁ (fun it s₂ h₂ => ?_) fun o_ o_ e => e) fun o_ o_ e => e)
 refine cutG fun P_ hP_ => ?_
 obtain ⟨k02, I, fp, P, St, rfl, hI, W⟩ := h₂
 refine hP_ ?_
 clear hP_ P_
 refine R (RR := fun acc C => compPost (model c.prog c.w) c.A E none (fun v s' => Kp c.hb O s s' ∧ (∃ a ys n, v = .ref a ∧ s.heap.get? a = none ∧ s'.heap.get? a = some (listO ys n) ∧ RepAll (a :: c.X) s'.heap out ys ∧ Acc T s.heap [a] s'.heap ys) ∧ Ok { c with own := own xs.length } s') acc C) (by rw [← hc]; exact o) k02 hI W hOb ?_
 intro Dd C s' m hD hC hDC kO o' r hn
 refine ⟨m, hn, fun h' hs' => ?_⟩
 have kC : Kp c.hb [C] s' { s' with heap := h' } := sameBut_kp (s := s') hs' s'.toks
 refine ⟨?_, ?_, ?_⟩
 ·refine cutG fun P_ hP_ => ?_
  obtain ⟨hh', tk, rfl, kk⟩ := kO
  refine hP_ ?_
  clear hP_ P_
  refine ⟨h', tk, rfl, fun q ob e hq => ?_⟩
  have hqC : q ≠ C := fun z => by exact clash z hC e
  rcases kk q ob e hq with z | ⟨z1, z2, sl, z3⟩
  ·exact .inl ((hs'.2 q hqC).trans z)
  ·exact .inr ⟨z1, z2, sl, (hs'.2 q hqC).trans z3⟩
 ·refine cutG fun P_ hP_ => ?_
  obtain ⟨ys, n, e, hY, acc⟩ := r
  refine hP_ ?_
  clear hP_ P_
  refine ⟨Dd, ys, n, rfl, hD, (hs'.2 Dd hDC).trans e, ?_, (acc.step hT fun a o ha e' o_ => (hs'.2 a (fun z => ha (by rw [z]; simp))).trans e').weak fun a h1 h2 => ⟨h1, fun z => h2 (in_1 z (.tail _ (.head _)))⟩⟩
  exact (kC.repAll (X := C :: Dd :: c.X) (fun a ha => by exact all_one (.head _) _ ha) hY).mono fun a o_ ha e o_ => ⟨fun z => ha (.tail _ z), e⟩
 ·refine o'.offX (X' := c.X) kC ⟨fun a ha => ?_, fun a ha hm => ?_, fun a ha => ?_, fun a ha hm => ?_⟩ (fun a ha => .tail _ ha) (fun a ha hm => ?_) (fun q hq => ?_)
  ·exact all_one (.head _) _ ha
  ·rcases mem_c ha with rfl | z
   ·obtain ⟨ob, e⟩ := o.home C hm; exact no_some (hC.symm.trans e)
   ·exact no_nil z
  ·rcases mem_c ha with rfl | z
   ·cases q : c.hb.get? C with
    | none => rfl
    | some ob => have := o.base C ob q; exact no_some (hC.symm.trans this)
   ·exact no_nil z
  ·rcases mem_c ha with rfl | z
   ·refine cutG fun P_ hP_ => ?_
    obtain ⟨l, hl, hfr⟩ := o.frames
    obtain hm' : C ∈ l.filterMap (·.frame) := by unfold framesOf at hm; rw [show c.A.frames = some l from hl] at hm; exact hm
    obtain ⟨_, ob, e, _⟩ := hfr.mem hm'
    refine hP_ ?_
    clear hP_ P_
    exact no_some (hC.symm.trans e)
   ·exact no_nil z
  ·rcases mem_c ha with rfl | z
   ·obtain ⟨ob, e⟩ := o.xin C hm; exact no_some (hC.symm.trans e)
   ·exact no_nil z
  ·obtain hqC : q.1 ≠ C := fun z => by
    obtain ⟨ob, e⟩ := o.xin q.1 (hown _ q hq); exact clash z hC e
   refine cutG fun P_ hP_ => ?_
   obtain ⟨_, vs, n, hg, hr⟩ := o'.ownKeep kC (fun a ha => by exact all_one (.head _) _ ha) hq (fun hm => by
    rcases mem_c hm with z_ | z
    ·exact hqC z_.symm
    ·cases z)
   refine hP_ ?_
   clear hP_ P_
   exact ⟨hown _ q hq, vs, n, hg, hr.mono fun a o_ ha e o_ => ⟨fun z => ha (.tail _ z), e⟩⟩
theorem evo_compN {O Ob : List Addr} {own : Nat → List (Addr × List D)} {elt iter : Expr} {x : Str} {px : Pos} {ifs : List Expr} {scope : Scope} {pos : Pos} {xs : List D} {f : Nat → D → D} {p : D → Bool}
  (hc : c.own = own 0) (hsrc : Src c Ob iter xs) (hO : Off c O) (hOb : ∀ a ∈ O, a ∈ Ob) (b : blockOk scope c.env x = true)
  (hown : ∀ i, ∀ q ∈ own i, q.1 ∈ c.X)
  (tests : ∀ i d C Dd I, xs[i]? = some d → TestsOk { inCx c scope x d C Dd I with own := own i } ifs (p d))
  (elts : ∀ i d C Dd I, xs[i]? = some d → p d = true → Evo { inCx c scope x d C Dd I with own := own i } O (own (i + 1)) elt (f i d))
  (skip : ∀ i d, xs[i]? = some d → p d = false → own (i + 1) = own i) (hsz : xs.length ≤ sizeLine)
  (hs : ∀ v, foldedSetIterable iter c.env v = pure v := by intro _; rfl) :
  ∀ s E, Ok c s → wpAny (model c.prog c.w) c.A (eval (.ListComp elt [⟨.Name x px, iter, ifs, 0⟩] scope pos) c.env) (fun v s' => Kp c.hb O s s' ∧ (∃ a ys n, v = .ref a ∧ s.heap.get? a = none ∧ s'.heap.get? a = some (listO ys n) ∧ RepAll (a :: c.X) s'.heap (outs p f 0 xs) ys) ∧ Ok { c with own := own xs.length } s') E s :=
 fun s E o => wpAny_mono (evo_compR tree_noT hc hsrc hOb hown (names_of_block b) (comp_block tree_noT hO b hown tests (fun i d C Dd I hd hp => (elts i d C Dd I hd hp).t) skip hsz) hs s E o) (fun v s' h => by
  refine cutG fun P_ hP_ => ?_
  obtain ⟨h1, ⟨a, ys, n, h2, h3, h4, h5, _⟩, h6⟩ := h
  refine hP_ ?_
  clear hP_ P_
  exact ⟨h1, ⟨a, ys, n, h2, h3, h4, h5⟩, h6⟩) fun o_ o_ e => e
theorem rep_of_new {X : List Addr} {s s' : Shared} {ds : List D} {a : Addr} {ys : List Value} {n : Nat} (hx : ∀ a ∈ X, ∃ o, s.heap.get? a = some o) (h0 : s.heap.get? a = none) (hg : s'.heap.get? a = some (listO ys n)) (hr : RepAll (a :: X) s'.heap ds ys) : Rep X s'.heap (.list ds) (.ref a) :=
 ⟨a, ys, n, rfl, (fun hm => by obtain ⟨o, e⟩ := hx a hm; exact no_some (h0.symm.trans e)), hg, hr.mono fun b o_ hb e o_ => ⟨fun z => hb (.tail _ z), e⟩⟩
noncomputable def Evn (c : Cx) (e : Expr) (ds : List D) : Prop :=
 ∀ s E, Ok c s → wpAny (model c.prog c.w) c.A (eval e c.env) (fun v s' => Kp c.hb [] s s' ∧ ∃ a ys n, v = .ref a ∧ s.heap.get? a = none ∧ s'.heap.get? a = some (listO ys n) ∧ RepAll (a :: c.X) s'.heap ds ys) E s
theorem Evn.ev {e : Expr} {ds : List D} (h : Evn c e ds) : Ev c e (.list ds) := fun s E o => wpAny_mono (h s E o) (fun v s' h => by
  refine cutG fun P_ hP_ => ?_
  obtain ⟨k, a, ys, n, rfl, h0, hg, hr⟩ := h
  refine hP_ ?_
  clear hP_ P_
  exact ⟨k, rep_of_new o.xin h0 hg hr⟩) fun o_ o_ e => e
theorem Evn.weak {e : Expr} {d d' : List D} (h : Evn c e d) (eq : d = d') : Evn c e d' := eq ▸ h
theorem new_addr {hb : Heap} {s s₁ : Shared} (k : Kp hb [] s s₁) : s.heap.get? s₁.heap.objs.size = none := by
 cases q : s.heap.get? s₁.heap.objs.size with
 | none => rfl
 | some ob => obtain ⟨o', e', _⟩ := k.data q (fun h => (nomatch h)); exact absurd (Heap.lt_size e') (Nat.lt_irrefl _)
theorem RepAll.pushNew {X : List Addr} {h : Heap} {ds : List D} {vs : List Value} (r : RepAll X h ds vs) (o : Obj) : RepAll (h.objs.size :: X) (h.push o) ds vs :=
 r.mono fun a o_ ha e o_ => ⟨fun hm => by
  rcases List.mem_cons.mp hm with z | z
  ·rw [z] at e; exact absurd (Heap.lt_size e) (Nat.lt_irrefl _)
  ·exact ha z, Heap.get?_push_of_some _ e⟩
theorem evn_list {es : List Expr} {pos : Pos} {ds : List D} (h : Evs c es ds) (hsz : ds.length ≤ sizeLine) : Evn c (.List es pos) ds := fun s E o =>
 List_ (wpAny_mono (h pos s E o) (fun vs s₁ h₁ => wpAny_newObj_type ⟨h₁.1.trans (Kp.push _ _ _), s₁.heap.objs.size, vs, 0, rfl, new_addr h₁.1, Heap.get?_push_size _ rfl, h₁.2.pushNew _⟩ (by show vs.toArray.size ≤ sizeLine; rw [List.size_toArray, h₁.2.length]; exact hsz)) fun o_ o_ e => e)
theorem evn_comp {elt iter : Expr} {x : Str} {px : Pos} {ifs : List Expr} {scope : Scope} {pos : Pos} {xs : List D} {f : D → D} {p : D → Bool} {Ob : List Addr}
  (hsrc : Src c Ob iter xs) (b : blockOk scope c.env x = true) (hown : ∀ q ∈ c.own, q.1 ∈ c.X)
  (tests : ∀ d C Dd I, d ∈ xs → TestsOk (inCx c scope x d C Dd I) ifs (p d))
  (elts : ∀ d C Dd I, d ∈ xs → p d = true → Ev (inCx c scope x d C Dd I) elt (f d)) (hsz : xs.length ≤ sizeLine)
  (hs : ∀ v, foldedSetIterable iter c.env v = pure v := by intro _; rfl) :
  Evn c (.ListComp elt [⟨.Name x px, iter, ifs, 0⟩] scope pos) ((xs.filter p).map f) := fun s E o => by
 obtain key := evo_compN (c := c) (O := []) (own := fun o_ => c.own) (elt := elt) (px := px) (pos := pos) (f := fun o_ d => f d) (p := p) rfl hsrc ⟨fun o_ h => (nomatch h), fun o_ h => (nomatch h), fun o_ h => (nomatch h), fun o_ h => (nomatch h)⟩ (fun o_ h => (nomatch h)) b (fun o_ => hown)
  (fun i d C Dd I hd => tests d C Dd I (List.mem_of_getElem? hd)) (fun i d C Dd I hd hp => (elts d C Dd I (List.mem_of_getElem? hd) hp).evo) (fun o_ o_ o_ o_ => rfl) hsz hs s E o
 refine wpAny_mono key (fun v s' h => ⟨h.1, ?_⟩) fun o_ o_ e => e
 have := h.2.1
 rwa [outs_const] at this
theorem ev_comp {elt iter : Expr} {x : Str} {px : Pos} {ifs : List Expr} {scope : Scope} {pos : Pos} {xs : List D} {f : D → D} {p : D → Bool} {Ob : List Addr}
  (hsrc : Src c Ob iter xs) (b : blockOk scope c.env x = true) (hown : ∀ q ∈ c.own, q.1 ∈ c.X)
  (tests : ∀ d C Dd I, d ∈ xs → TestsOk (inCx c scope x d C Dd I) ifs (p d))
  (elts : ∀ d C Dd I, d ∈ xs → p d = true → Ev (inCx c scope x d C Dd I) elt (f d)) (hsz : xs.length ≤ sizeLine)
  (hs : ∀ v, foldedSetIterable iter c.env v = pure v := by intro _; rfl) :
  Ev c (.ListComp elt [⟨.Name x px, iter, ifs, 0⟩] scope pos) (.list ((xs.filter p).map f)) :=
 (evn_comp hsrc b hown tests elts hsz hs).ev
end
end Mine
end
section
open PySem PySem.W PyProof.Rows
namespace Mine
open PySem.Calls
noncomputable abbrev cellO : Obj := { cls := .type "cell", data := .cell none }
structure OneCell (scope : Scope) (x : Str) : Prop where
 cells : ∀ n acc, cellsFrom n scope.names acc = (x, n) :: acc
 push : ∀ h, pushCells h scope.names = h.push cellO
theorem env_one {M : Model} {A : Around} {E : Value → Shared → Prop} {s : Shared} {scope : Scope} {x : Str} {globals : Addr} {cl : List (Str × Addr)} {qual : Str} {env : Env} {Q : Env → Shared → Prop} (hx : OneCell scope x)
  (hQ : Q (newEnv scope s.heap.objs.size globals ((x, s.heap.objs.size + 1) :: cl) qual none .none (some env) builtinsNs) { s with heap := (s.heap.push { cls := .type "dict", data := .dict #[] }).push cellO }) :
  wpAny M A (newFunctionEnv scope globals cl [] qual none .none (some env)) Q E s := by
 simp only [newFunctionEnv, Option.isSome_some, if_true]
 refine wpAny_bind (wpAny_alloc ?_)
 refine wpAny_bind (wpAny_layCells _ (fun name kind cells => by cases hkc : kind == NameKind.cell <;> simp [hkc]) _ _ _ _ ?_)
 rw [hx.cells, hx.push]
 rw [show ({ s with heap := s.heap.push { cls := .type "dict", data := .dict #[] } } : Shared).heap.objs.size = s.heap.objs.size + 1 from Heap.size_push ..]
 refine wpAny_bind ?_
 rw [List.forIn_nil]
 exact wpAny_pure (wpAny_pure hQ)
noncomputable def blockOkK (scope : Scope) (env : Env) (x : Str) : Bool :=
 scope.kind == .function && scope.names.lookup x == some .cell &&
 scope.names.all (fun y => y.2 != .local || scope.names.lookup y.1 == some .local) &&
 scope.names.all (fun y => y.2 != .free || ((env.cells.lookup y.1).isSome && (env.kindOf y.1 == some .cell || env.kindOf y.1 == some .free) && scope.names.lookup y.1 == some .free && y.1 != x))
theorem lookup_relabel_cell {env : Env} : ∀ {names : List (Str × NameKind)} {x : Str}, names.lookup x = some .cell →
  (names.map fun (n, k) => if (k == NameKind.free && env.scope.kind == .function && env.kindOf n == some .cell) then (n, NameKind.cell) else (n, k)).lookup x = some .cell
 | [], _, h => by simp at h
 | (n, k) :: r, x, h => by
  obtain ih := @lookup_relabel_cell env r x
  show List.lookup x ((if (k == NameKind.free && env.scope.kind == .function && env.kindOf n == some .cell) = true then (n, NameKind.cell) else (n, k)) :: _) = _
  cases hx : x == n with
  | true =>
   simp only [List.lookup_cons, hx] at h
   cases h
   rw [if_neg (by simp)]
   simp [List.lookup_cons, hx]
  | false =>
   simp only [List.lookup_cons, hx] at h
   split <;> simp only [List.lookup_cons, hx] <;> exact ih h
section
variable {c : Cx}
theorem freeK {scope : Scope} {env : Env} {x : Str} (b : blockOkK scope env x = true) : ∀ y ∈ scope.names, y.2 = .free → (env.cells.lookup y.1).isSome = true := fun y hy hk => by
 simp only [blockOkK, Bool.and_eq_true, List.all_eq_true] at b
 have := b.2 y hy
 simp only [hk, bne_self_eq_false, Bool.false_or, Bool.and_eq_true] at this
 exact this.1.1.1
theorem varAt_inK {scope : Scope} {env : Env} {x y : Str} {C K : Addr} {h : Heap} {v : Value} (b : blockOkK scope env x = true) (hy : (y, NameKind.free) ∈ scope.names) (hv : VarAt env h y v) : VarAt (compEnvC scope ((x, K) :: clOf scope env) C env) h y v := by
 simp only [blockOkK, Bool.and_eq_true, List.all_eq_true] at b
 obtain hb := b.2 _ hy
 simp only [bne_self_eq_false, Bool.false_or, Bool.and_eq_true, Bool.or_eq_true, beq_iff_eq, bne_iff_ne] at hb
 refine cutG fun P_ hP_ => ?_
 obtain ⟨⟨⟨hs, hk⟩, hl⟩, hne⟩ := hb
 obtain ⟨a, ha⟩ := Option.isSome_iff_exists.mp hs
 obtain hc : ∃ cc, env.cells.lookup y = some cc ∧ h.IsCell cc (some v) := by
  rcases hv with ⟨hk', _⟩ | ⟨_, cc, hcc, hcell⟩
  ·rw [hk'] at hk; rcases hk with hk | hk <;> cases hk
  ·exact ⟨cc, hcc, hcell⟩
 obtain ⟨cc, hcc, hcell⟩ := hc
 refine hP_ ?_
 clear hP_ P_
 refine .inr ⟨?_, cc, ?_, hcell⟩
 ·exact lookup_relabel_free (env := env) hl
 ·show List.lookup y ((x, K) :: clOf scope env) = _
  rw [List.lookup_cons, beq_eq_false_iff_ne.mpr hne]
  exact clOf_lookup hy hcc
theorem namesK {scope : Scope} {env : Env} {x : Str} (b : blockOkK scope env x = true) : NamesOk scope env := by
 obtain hf := freeK b
 simp only [blockOkK, Bool.and_eq_true, List.all_eq_true] at b
 refine ⟨closureFor_is hf, by simpa using b.1.1.1, fun y hy hk => ?_⟩
 have := b.1.2 y hy
 simpa [hk] using this
noncomputable def inCxK (c : Cx) (scope : Scope) (x : Str) (d : D) (C K D₀ I : Addr) : Cx :=
 { c with env := compEnvC scope ((x, K) :: clOf scope c.env) C c.env, X := K :: D₀ :: I :: C :: c.X, vars := inVars scope x d c.vars }
theorem binder_cell {scope : Scope} {x : Str} {C K : Addr} (b : blockOkK scope c.env x = true) : Binder { c with X := C :: c.X } scope x K (compEnvC scope ((x, K) :: clOf scope c.env) C c.env) (fun h => ∃ v₀, h.IsCell K v₀) := by
 obtain hkind : scope.kind = .function := by
  simp only [blockOkK, Bool.and_eq_true] at b
  simpa using b.1.1.1
 have hcell : (compEnvC scope ((x, K) :: clOf scope c.env) C c.env).kindOf x = some .cell := by
  simp only [blockOkK, Bool.and_eq_true] at b
  exact lookup_relabel_cell (by simpa using b.1.1.2)
 have hl : (compEnvC scope ((x, K) :: clOf scope c.env) C c.env).cells.lookup x = some K := by
  show List.lookup x ((x, K) :: _) = _
  simp [List.lookup_cons]
 refine ⟨fun s v Q E hm h => ?_, fun {h h'} hm e => ?_, fun {O s s'} hm k hO => ?_, fun {h} hm => ?_, fun a ha => ?_, fun {y h u} hy hu => varAt_inK b hy hu⟩
 ·obtain ⟨v₀, hm⟩ := hm
  exact wpAny_storeName_cell (by simp [compEnvC, relabel, hkind]) hcell hl hm (fun h₂ hn₂ hs₂ => h h₂ _ ⟨_, hn₂⟩ (.inr ⟨.inl hcell, K, hl, hn₂⟩) hs₂)
 ·obtain ⟨v₀, ob, e', hd⟩ := hm; exact ⟨v₀, ob, e ob e', hd⟩
 ·refine cutG fun P_ hP_ => ?_
  obtain ⟨v₀, ob, e', hd⟩ := hm
  obtain ⟨o', h1, h2, _⟩ := k.data e' hO
  refine hP_ ?_
  clear hP_ P_
  exact ⟨v₀, o', h1, h2.trans hd⟩
 ·obtain ⟨v₀, ob, e', hd⟩ := hm; exact ⟨ob, e'⟩
 ·rcases List.mem_cons.mp ha with e | ha
  ·exact .inr (.inr (by rw [e]; exact .head _))
  ·rcases List.mem_cons.mp ha with e | ha
   ·exact .inl e
   ·exact .inr (.inl (.tail _ (clOf_sub (freeK b) a ha)))
theorem comp_blockK {T : Heap → Value → List Addr → Prop} (hT : Tree T) {O : List Addr} {own : Nat → List (Addr × List D)} {elt iter : Expr} {x : Str} {px : Pos} {ifs : List Expr} {scope : Scope} {pos : Pos} {xs : List D} {f : Nat → D → D} {p : D → Bool}
  (hO : Off c O) (b : blockOkK scope c.env x = true) (hx1 : OneCell scope x) (hown : ∀ i, ∀ q ∈ own i, q.1 ∈ c.X)
  (tests : ∀ i d C K Dd I, xs[i]? = some d → TestsOk { inCxK c scope x d C K Dd I with own := own i } ifs (p d))
  (elts : ∀ i d C K Dd I, xs[i]? = some d → p d = true → EvoT T { inCxK c scope x d C K Dd I with own := own i } O (own (i + 1)) elt (f i d))
  (skip : ∀ i d, xs[i]? = some d → p d = false → own (i + 1) = own i) (hsz : xs.length ≤ sizeLine) : CompRuns T c O own elt iter x px ifs scope pos xs (outs p f 0 xs) := by
 intro I Ob fp P St s s₂ E RR o k02 hI W hOb done
 refine wpAny_newObj_type (env_one hx1 ?_)
 dsimp only
 generalize hH2 : s₂.heap.push { cls := .type "list", dict := none, data := .seq ([] : List Value).toArray } = H2
 have hC : H2.objs.size = s₂.heap.objs.size + 1 := by rw [← hH2, Heap.size_push]
 generalize hH3 : H2.push { cls := .type "dict", data := .dict #[] } = H3
 have hK : H3.objs.size = H2.objs.size + 1 := by rw [← hH3, Heap.size_push]
 generalize hh₁ : H3.push cellO = h₁
 have fresh : ∀ a, s₂.heap.objs.size ≤ a → s.heap.get? a = none := fun a ha => by
  cases q : s.heap.get? a with
  | none => rfl
  | some ob => obtain ⟨o', e', _⟩ := k02.data q (fun h => (nomatch h)); exact absurd (Heap.lt_size e') (Nat.not_lt.mpr ha)
 have fresh2 : ∀ a, s₂.heap.objs.size ≤ a → s₂.heap.get? a = none := fun a ha => Heap.get?_none_of_le ha
 rw [← hK]
 obtain g1 : H2.get? s₂.heap.objs.size = some (listO [] 0) := by rw [← hH2]; exact Heap.get?_push_size _ rfl
 obtain g2 : H3.get? s₂.heap.objs.size = some (listO [] 0) := by rw [← hH3]; exact Heap.get?_push_of_some _ g1
 have g3 : h₁.get? s₂.heap.objs.size = some (listO [] 0) := by rw [← hh₁]; exact Heap.get?_push_of_some _ g2
 have old : ∀ q ob, s₂.heap.get? q = some ob → h₁.get? q = some ob := fun q ob e => by
  rw [← hh₁]; refine Heap.get?_push_of_some _ ?_
  rw [← hH3]; refine Heap.get?_push_of_some _ ?_
  rw [← hH2]; exact Heap.get?_push_of_some _ e
 have hns : h₁.Ns H2.objs.size (fun o_ => none) := by
  have := Heap.Ns.new H2 (.type "dict")
  rw [hH3] at this
  exact this.at' fun ob e => by rw [← hh₁]; exact Heap.get?_push_of_some _ e
 have hcell : h₁.IsCell H3.objs.size none := ⟨cellO, by rw [← hh₁]; exact Heap.get?_push_size _ rfl, rfl⟩
 generalize hDd : s₂.heap.objs.size = Dd at *
 generalize hCC : H2.objs.size = C at *
 generalize hKK : H3.objs.size = K at *
 have hle : ∀ q ob, s₂.heap.get? q = some ob → q ≠ Dd ∧ q ≠ C ∧ q ≠ K := fun q ob e => by
  have := Heap.lt_size e
  rw [hDd] at this
  refine ⟨Nat.ne_of_lt this, ?_, ?_⟩
  ·rw [hC]; exact Nat.ne_of_lt (Nat.lt_succ_of_lt this)
  ·rw [hK, hC]; exact Nat.ne_of_lt (Nat.lt_succ_of_lt (Nat.lt_succ_of_lt this))
 have hDC : Dd ≠ C := by rw [hC]; exact Nat.ne_of_lt (Nat.lt_succ_self _)
 have hCK : C ≠ K := by rw [hK]; exact Nat.ne_of_lt (Nat.lt_succ_self _)
 obtain hDK : Dd ≠ K := by rw [hK, hC]; exact Nat.ne_of_lt (Nat.lt_succ_of_lt (Nat.lt_succ_self _))
 have hsD := fresh Dd (Nat.le_refl _)
 have hsC := fresh C (by rw [hC]; exact Nat.le_succ _)
 obtain hsK := fresh K (by rw [hK, hC]; exact Nat.le_succ_of_le (Nat.le_succ _))
 obtain hs2D := fresh2 Dd (Nat.le_refl _)
 obtain hs2C := fresh2 C (by rw [hC]; exact Nat.le_succ _)
 obtain hs2K := fresh2 K (by rw [hK, hC]; exact Nat.le_succ_of_le (Nat.le_succ _))
 obtain hIx : I ∉ c.X := fun hm => by obtain ⟨ob, e⟩ := o.xin I hm; exact no_some (hI.symm.trans e)
 have hIs₂ : ∃ ob, s₂.heap.get? I = some ob := by obtain ⟨ob, e, _⟩ := W.nf _ _ W.st I W.self; exact ⟨ob, e⟩
 have hIn : I ≠ Dd ∧ I ≠ C ∧ I ≠ K := by obtain ⟨ob, e⟩ := hIs₂; exact hle I ob e
 have hXn : ∀ a ∈ c.X, a ≠ Dd ∧ a ≠ C ∧ a ≠ K := fun a ha => by
  obtain ⟨ob, e⟩ := o.xin a ha; obtain ⟨o', e', _⟩ := k02.data e (fun h => (nomatch h)); exact hle a _ e'
 have k24 : Kp c.hb [] s₂ { s₂ with heap := h₁ } := ⟨h₁, s₂.toks, rfl, fun q ob e o_ => .inl (old q ob e)⟩
 have k04 := k02.trans k24
 have o4 := o.kp k04
 have hnone : ∀ a ∈ [K, Dd, I], s.heap.get? a = none := fun a ha => by
  simp only [List.mem_cons, List.not_mem_nil, or_false] at ha
  rcases ha with e | e | e <;> rw [e] <;> assumption
 obtain hf : Off { c with X := K :: Dd :: I :: C :: c.X } [K, Dd, I] := by
  refine ⟨fun a ha => ?_, fun a ha hm => ?_, fun a ha => ?_, fun a ha hm => ?_⟩
  ·simp only [List.mem_cons, List.not_mem_nil, or_false] at ha
   rcases ha with e | e | e <;> rw [e] <;> simp
  ·obtain ⟨ob, e⟩ := o.home a hm; rw [hnone a ha] at e; cases e
  ·cases q : c.hb.get? a with
   | none => rfl
   | some ob => have := o.base a ob q; rw [hnone a ha] at this; cases this
  ·obtain ⟨l, hl, hfr⟩ := o.frames
   obtain hm' : a ∈ l.filterMap (·.frame) := by unfold framesOf at hm; rw [show c.A.frames = some l from hl] at hm; exact hm
   obtain ⟨_, ob, e, _⟩ := hfr.mem hm'
   rw [hnone a ha] at e; cases e
 have hnX : ∀ {a : Addr} {ob : Obj}, s.heap.get? a = some ob → a ∉ c.X → a ∉ K :: Dd :: I :: C :: c.X := fun {a ob} e ha hm => by
  simp only [List.mem_cons] at hm
  rcases hm with z | z | z | z | z
  ·exact clash z hsK e
  ·exact clash z hsD e
  ·exact clash z hI e
  ·exact clash z hsC e
  ·exact ha z
 have o' : Ok { c with X := K :: Dd :: I :: C :: c.X, own := own 0 } { s₂ with heap := h₁ } := by
  refine ⟨o4.base, o4.frames, fun a ha => ?_, fun y d hy => ?_, fun q hq => ?_, o4.home⟩
  ·simp only [List.mem_cons] at ha
   rcases ha with z | z | z | z | z
   ·rw [z]; obtain ⟨ob, e, _⟩ := hcell; exact ⟨ob, e⟩
   ·rw [z]; exact ⟨_, g3⟩
   ·rw [z]; obtain ⟨ob, e⟩ := hIs₂; exact ⟨ob, old _ _ e⟩
   ·rw [z]; obtain ⟨ob, _, _, e, _⟩ := hns; exact ⟨ob, e⟩
   ·exact o4.xin a z
  ·obtain ⟨v, hv, hr⟩ := o.vars y d hy
   exact ⟨v, hv.kp k04 (fun o_ o_ h => (nomatch h)), hr.mono fun a ob ha e hnf => ⟨hnX e ha, k04.get e hnf (fun h => (nomatch h))⟩⟩
  ·obtain ⟨hx, vs, n, hg, hr⟩ := o.own q hq
   exact ⟨.tail _ (.tail _ (.tail _ (.tail _ hx))), vs, n, k04.get hg notFrame_list (fun h => (nomatch h)), hr.mono fun a ob ha e hnf => ⟨hnX e ha, k04.get e hnf (fun h => (nomatch h))⟩⟩
 obtain W' : Walker { c with X := C :: c.X } Ob I fp xs P St s₂ := ⟨W.W, W.st, W.nf, fun i v d hd hp => (W.items i v d hd hp).mono fun a ob ha e o_ => ⟨fun hm => by
  rcases List.mem_cons.mp hm with z | hm
  ·exact ha (z ▸ .head _)
  ·rcases List.mem_cons.mp hm with z | hm
   ·exact clash z hs2C e
   ·exact ha (.tail _ hm), e⟩, W.apart, W.self⟩
 have loop : codeAny (model c.prog c.w) c.A (.compLoop (.ListComp elt [⟨.Name x px, iter, ifs, 0⟩] scope pos) 0 (.ref I) (.ref Dd) (compEnvC scope ((x, K) :: clOf scope c.env) C c.env)) (RR (.ref Dd) C) { s₂ with heap := h₁ } := by
  refine comp_loop (c := { c with X := C :: c.X }) (C := K) hT W' ⟨fun a ha => .tail _ (hO.x a ha), hO.home, hO.base, hO.frame⟩ hOb (fun hm => ?_) (binder_cell b) (fun a ha => ?_) (Ne.symm hDK) hf hs2K hs2D (fun q hq => ?_) o' k24 ⟨0, g3⟩ ⟨_, hcell⟩ (fun i q hq => .tail _ (hown i q hq)) (fun i d => tests i d C K Dd I) (fun i d => elts i d C K Dd I) skip hsz ?_
  ·rcases List.mem_cons.mp hm with z | z
   ·exact hIn.2.1 z
   ·exact hIx z
  ·rcases List.mem_cons.mp ha with z | ha
   ·rw [z]; exact ⟨hIn.2.2, hIn.1⟩
   ·rcases List.mem_cons.mp ha with z | ha
    ·rw [z]; exact ⟨hCK, Ne.symm hDC⟩
    ·exact ⟨(hXn a ha).2.2, (hXn a ha).1⟩
  ·obtain ⟨ob, e, _⟩ := W.nf _ _ W.st q hq
   exact ⟨(hle q ob e).2.2, (hle q ob e).1⟩
  ·intro s' ys acc k4 k o'' hD hY _
   obtain kO : Kp c.hb O s s' := by
    obtain ⟨h', tk, rfl, kk⟩ := k02.weaken (O' := I :: O) (fun o_ h => (nomatch h)) |>.trans k
    refine ⟨h', tk, rfl, fun q ob e hq => kk q ob e fun hm => ?_⟩
    rcases List.mem_cons.mp hm with z | hm
    ·exact clash z hI e
    ·exact hq hm
   obtain hCO : C ∉ I :: O := fun hm => by
    rcases List.mem_cons.mp hm with z | hm
    ·exact hIn.2.1 z.symm
    ·exact (hXn C (hO.x C hm)).2.1 rfl
   have hsub : ∀ a ∈ C :: c.X, a ∈ K :: Dd :: C :: c.X := fun a ha => .tail _ (.tail _ ha)
   obtain hnsX : ∃ m, s'.heap.Ns C m := by
    refine ⟨_, k4.ns hns fun hm => ?_⟩
    rcases List.mem_cons.mp hm with z | hm
    ·exact hCK z
    ·rcases List.mem_cons.mp hm with z | hm
     ·exact hDC z.symm
     ·exact hCO hm
   obtain ⟨m, hm⟩ := hnsX
   refine done Dd C s' m hsD hsC hDC kO ?_ ?_ hm
   ·refine o''.offX (O := []) (X' := C :: c.X) (Kp.refl _ _ _) ⟨fun o_ h => (nomatch h), fun o_ h => (nomatch h), fun o_ h => (nomatch h), fun o_ h => (nomatch h)⟩ hsub (fun o_ h => (nomatch h)) (fun q hq => ?_)
    obtain ⟨_, vs, n, hg, hr⟩ := o''.own q hq
    exact ⟨.tail _ (hown _ q hq), vs, n, hg, hr.mono fun a o_ ha e o_ => ⟨fun z => ha (hsub a z), e⟩⟩
   ·obtain ⟨n, e⟩ := hD
    refine ⟨ys, n, e, hY.mono fun a o_ ha e' o_ => ⟨fun z => ha ?_, e'⟩, acc.weak fun a h1 h2 => ⟨?_, fun z => h2 (by simp only [List.mem_cons, List.not_mem_nil, or_false] at z ⊢; rcases z with z | z <;> simp [z])⟩⟩
    rotate_left
    ·cases q : s.heap.get? a with
     | none => rfl
     | some ob => obtain ⟨o', e', _⟩ := k02.data q (fun h => (nomatch h)); exact no_some (h1.symm.trans e')
    simp only [List.mem_cons] at z ⊢
    rcases z with z | z | z
    ·exact .inr (.inr (.inr (.inl z)))
    ·exact .inr (.inl z)
    ·exact .inr (.inr (.inr (.inr z)))
 exact codeAny_compStart_list loop (W.W.self 0 _ _ _ (W.W.frame _ _ _ W.st fun q hq ob e => old q ob e) loop)
theorem off_nil : Off c [] := ⟨fun o_ h => (by cases h), fun o_ h => (by cases h), fun o_ h => (by cases h), fun o_ h => (by cases h)⟩
theorem runs_local {elt iter : Expr} {x : Str} {px : Pos} {ifs : List Expr} {scope : Scope} {pos : Pos} {xs : List D} {f : D → D} {p : D → Bool}
  (b : blockOk scope c.env x = true) (hown : ∀ q ∈ c.own, q.1 ∈ c.X)
  (tests : ∀ d C Dd I, d ∈ xs → TestsOk (inCx c scope x d C Dd I) ifs (p d))
  (elts : ∀ d C Dd I, d ∈ xs → p d = true → Ev (inCx c scope x d C Dd I) elt (f d)) (hsz : xs.length ≤ sizeLine) : CompRuns noT c [] (fun o_ => c.own) elt iter x px ifs scope pos xs ((xs.filter p).map f) := by
 rw [← outs_const p f xs 0]
 exact comp_block tree_noT (f := fun o_ d => f d) (p := p) off_nil b (fun o_ => hown)
   (fun i d C Dd I hd => tests d C Dd I (List.mem_of_getElem? hd)) (fun i d C Dd I hd hp => (elts d C Dd I (List.mem_of_getElem? hd) hp).evo.t) (fun o_ o_ o_ o_ => rfl) hsz
theorem runs_cell {elt iter : Expr} {x : Str} {px : Pos} {ifs : List Expr} {scope : Scope} {pos : Pos} {xs : List D} {f : D → D} {p : D → Bool}
  (b : blockOkK scope c.env x = true) (hx1 : OneCell scope x) (hown : ∀ q ∈ c.own, q.1 ∈ c.X)
  (tests : ∀ d C K Dd I, d ∈ xs → TestsOk (inCxK c scope x d C K Dd I) ifs (p d))
  (elts : ∀ d C K Dd I, d ∈ xs → p d = true → Ev (inCxK c scope x d C K Dd I) elt (f d)) (hsz : xs.length ≤ sizeLine) : CompRuns noT c [] (fun o_ => c.own) elt iter x px ifs scope pos xs ((xs.filter p).map f) := by
 rw [← outs_const p f xs 0]
 exact comp_blockK tree_noT (f := fun o_ d => f d) (p := p) off_nil b hx1 (fun o_ => hown)
   (fun i d C K Dd I hd => tests d C K Dd I (List.mem_of_getElem? hd)) (fun i d C K Dd I hd hp => (elts d C K Dd I (List.mem_of_getElem? hd) hp).evo.t) (fun o_ o_ o_ o_ => rfl) hsz
end
end Mine
end
section
open PySem PySem.W PyProof.Rows
namespace Mine
open PySem.Calls
noncomputable def ownA (c : Cx) : List Addr := c.own.map (·.1)
noncomputable def FrOk (env : Env) (h : Heap) : Prop := (∃ m, h.Ns env.locals m) ∧ ∀ x cc, env.cells.lookup x = some cc → ∃ v₀, h.IsCell cc v₀
theorem FrOk.kp {hb : Heap} {O : List Addr} {s s' : Shared} {env : Env} (f : FrOk env s.heap) (k : Kp hb O s s') (hO : ∀ a ∈ homes env, a ∉ O) : FrOk env s'.heap := by
 refine ⟨?_, fun x cc hc => ?_⟩
 ·obtain ⟨m, hm⟩ := f.1; exact ⟨m, k.ns hm (hO _ (.head _))⟩
 ·refine cutG fun P_ hP_ => ?_
  obtain ⟨v₀, o, ho, hd⟩ := f.2 x cc hc
  obtain ⟨o', ho', hd', _⟩ := k.data ho (hO cc (.tail _ (List.mem_map.mpr ⟨(x, cc), VarAt.kp.mem_of_lookup_some hc, rfl⟩)))
  refine hP_ ?_
  clear hP_ P_
  exact ⟨v₀, o', ho', hd'.trans hd⟩
structure Sx (c : Cx) (s₀ : Shared) (O : List Addr) (s : Shared) : Prop where
 ok : Ok c s
 kp : Kp c.hb O s₀ s
 free : ∀ a ∈ homes c.env ++ ownA c, a ∈ O ∨ s₀.heap.get? a = none
 hx : ∀ a ∈ homes c.env, a ∈ c.X ∧ c.hb.get? a = none
 offs : Off c (ownA c)
 nd : (ownA c).Nodup
 fr : FrOk c.env s.heap
 cap : ∀ x y a b, c.env.cells.lookup x = some a → c.env.cells.lookup y = some b → x ≠ y → a ≠ b
noncomputable def mine (c : Cx) : List Addr := homes c.env ++ ownA c
theorem Kp.join {hb : Heap} {O O₁ : List Addr} {s₀ s₁ s₂ : Shared} (k : Kp hb O s₀ s₁) (k' : Kp hb O₁ s₁ s₂) (h : ∀ a ∈ O₁, a ∈ O ∨ s₀.heap.get? a = none) : Kp hb O s₀ s₂ := by
 obtain ⟨h1, t1, rfl, e1⟩ := k
 obtain ⟨h2, t2, rfl, e2⟩ := k'
 refine ⟨h2, t2, rfl, fun b o ho hO => ?_⟩
 have hb1 : b ∉ O₁ := fun hm => by
  rcases h b hm with z | z
  ·exact hO z
  ·cases z.symm.trans ho
 rcases e1 b o ho hO with z | ⟨n1, c1, sl, z⟩
 ·exact e2 b o z hb1
 ·rcases e2 b _ z hb1 with y | ⟨n2, c2, sl', y⟩
  ·exact .inr ⟨n1, c1, sl, y⟩
  ·exact .inr ⟨n1, c1, sl', y⟩
theorem Sx.rebase {c : Cx} {s₀ s : Shared} {O : List Addr} (S : Sx c s₀ O s) : Sx c s (mine c) s :=
 ⟨S.ok, Kp.refl _ _ _, fun o_ ha => .inl ha, S.hx, S.offs, S.nd, S.fr, S.cap⟩
theorem Sx.back {c c' : Cx} {s₀ s₁ s₂ : Shared} {O : List Addr} (S : Sx c s₀ O s₁) (S' : Sx c' s₁ (mine c) s₂) (hh : c'.hb = c.hb) : Sx c' s₀ O s₂ where
 ok := S'.ok
 kp := by rw [hh]; exact S.kp.join (by rw [← hh]; exact S'.kp) S.free
 free := fun a ha => by
  by_cases hO : a ∈ O
  ·exact .inl hO
  ·rcases S'.free a ha with z | z
   ·exact S.free a z
   ·right
    cases q : s₀.heap.get? a with
    | none => rfl
    | some ob => obtain ⟨o', e', _⟩ := S.kp.data q hO; cases z.symm.trans e'
 hx := S'.hx
 offs := S'.offs
 nd := S'.nd
 fr := S'.fr
 cap := S'.cap
theorem Sx.step {c : Cx} {s₀ s s' : Shared} {O : List Addr} (S : Sx c s₀ O s) (k : Kp c.hb [] s s') : Sx c s₀ O s' :=
 ⟨S.ok.kp k, S.kp.join k fun o_ h => (nomatch h), S.free, S.hx, S.offs, S.nd, S.fr.kp k fun o_ o_ h => (nomatch h), S.cap⟩
theorem ns_unique {h : Heap} {a : Addr} {m m' : Str → Option Value} (x : h.Ns a m) (y : h.Ns a m') : m = m' := by
 refine cutG fun P_ hP_ => ?_
 obtain ⟨o, es, ep, e, d, _, f⟩ := x
 obtain ⟨o', es', ep', e', d', _, f'⟩ := y
 obtain rfl := Option.some.inj (e.symm.trans e')
 refine hP_ ?_
 clear hP_ P_
 cases d.symm.trans d'
 funext n; rw [← f n, f' n]
theorem Kp.framesAt1 {hb : Heap} {a : Addr} {s s' : Shared} (k : Kp hb [a] s s') (hex : ∃ o, s'.heap.get? a = some o ∧ ∀ vs, o.data ≠ .fields vs) : ∀ {l : List Env}, s.heap.FunFrames hb l → s'.heap.FunFrames hb l
 | [], _ => trivial
 | env :: rest, ⟨hk, ⟨L, o, hf, hn, ho, hd⟩, hr⟩ => by
  refine ⟨hk, ?_, Kp.framesAt1 k hex hr⟩
  by_cases e : L = a
  ·subst e; obtain ⟨o', e', d'⟩ := hex; exact ⟨L, o', hf, hn, e', d'⟩
  ·obtain ⟨o', ho', hd', _⟩ := k.data ho (fun hm => by exact e (List.mem_singleton.mp hm))
   exact ⟨L, o', hf, hn, ho', fun vs => hd' ▸ hd vs⟩
noncomputable def PutOk (a : Addr) (h h' : Heap) : Prop := ∃ o', h'.get? a = some o' ∧ (∀ vs, o'.data ≠ .fields vs) ∧ ((∃ es n, o'.data = .dict es n) ∨ ∀ o, h.get? a = some o → ∀ es n, o.data ≠ .dict es n)
theorem Kp.framesAt {hb : Heap} {a : Addr} {s s' : Shared} (k : Kp hb [a] s s') (hex : PutOk a s.heap s'.heap) {l : List Env} (f : FF s.heap hb l) : FF s'.heap hb l := by
 refine cutG fun P_ hP_ => ?_
 obtain ⟨o', e', d', hd'⟩ := hex
 refine hP_ ?_
 clear hP_ P_
 refine ⟨k.framesAt1 ⟨o', e', d'⟩ f.1, fun b hb' => ?_⟩
 refine cutG fun P_ hP_ => ?_
 obtain ⟨o, es, n, ho, hd⟩ := f.2 b hb'
 refine hP_ ?_
 clear hP_ P_
 by_cases e : b = a
 ·subst e
  rcases hd' with ⟨es', n', z⟩ | z
  ·exact ⟨o', es', n', e', z⟩
  ·exact absurd hd (z o ho es n)
 ·refine cutG fun P_ hP_ => ?_
  obtain ⟨o₂, h2, h3, _⟩ := k.data ho (fun hm => by exact e (List.mem_singleton.mp hm))
  refine hP_ ?_
  clear hP_ P_
  exact ⟨o₂, es, n, h2, h3.trans hd⟩
theorem Sx.put {c : Cx} {s₀ s s' : Shared} {O : List Addr} {a : Addr} {x : Str} {d : D} {v : Value} (S : Sx c s₀ O s) (ha : a ∈ homes c.env) (k : Kp c.hb [a] s s') (hex : PutOk a s.heap s'.heap) (hnl : ∀ p ∈ c.own, p.1 ≠ a)
  (hv : VarAt c.env s'.heap x v) (r : Rep c.X s.heap d v) (others : ∀ y u, y ≠ x → VarAt c.env s.heap y u → VarAt c.env s'.heap y u) (fr' : FrOk c.env s'.heap) : Sx { c with vars := (x, d) :: c.vars } s₀ O s' := by
 have hax : ∀ b ∈ [a], b ∈ c.X := fun b hb => by exact all_one ((S.hx a ha).1) _ hb
 refine ⟨⟨k.base S.ok.base fun b hb => ?_, ?_, fun b hb => ?_, fun y e hy => ?_, fun p hp => ?_, fun b hb => ?_⟩, ?_, S.free, S.hx, ⟨S.offs.x, S.offs.home, S.offs.base, S.offs.frame⟩, S.nd, fr', S.cap⟩
 ·obtain rfl := mem_1 hb; exact (S.hx a ha).2
 ·obtain ⟨l, hl, hf⟩ := S.ok.frames; exact ⟨l, hl, k.framesAt hex hf⟩
 ·by_cases e : b = a
  ·subst e; obtain ⟨o, e, _⟩ := hex; exact ⟨o, e⟩
  ·obtain ⟨o, ho⟩ := S.ok.xin b hb; obtain ⟨o', h', _⟩ := k.data ho (fun hm => by exact e (List.mem_singleton.mp hm)); exact ⟨o', h'⟩
 ·rw [List.lookup_cons] at hy
  cases q : y == x with
  | true => rw [q] at hy; cases hy; rw [eq_of_beq q]; exact ⟨v, hv, k.rep hax r⟩
  | false =>
   rw [q] at hy
   obtain ⟨u, hu, hr⟩ := S.ok.vars y e hy
   exact ⟨u, others y u (by simpa using q) hu, k.rep hax hr⟩
 ·exact S.ok.ownKeep k hax hp (fun hm => by exact hnl p hp (List.mem_singleton.mp hm))
 ·by_cases e : b = a
  ·subst e; obtain ⟨o, e, _⟩ := hex; exact ⟨o, e⟩
  ·obtain ⟨o, ho⟩ := S.ok.home b hb; obtain ⟨o', h', _⟩ := k.data ho (fun hm => by exact e (List.mem_singleton.mp hm)); exact ⟨o', h'⟩
 ·refine S.kp.join k fun b hb => ?_
  rcases mem_c hb with rfl | z
  ·exact S.free a (List.mem_append_left _ ha)
  ·exact no_nil z
section
variable {c : Cx} {s₀ s : Shared} {O : List Addr} {E : Value → Shared → Prop}
theorem Sx.local {x : Str} {d : D} {v : Value} {h' : Heap} {t : Nat} {m : Str → Option Value} (S : Sx c s₀ O s) (hk : c.env.kindOf x = some .local) (hm : s.heap.Ns c.env.locals m) (r : Rep c.X s.heap d v)
  (hn : h'.Ns c.env.locals (fun y => if y = x then some v else m y)) (hs : Heap.SameBut c.env.locals s.heap h') : Sx { c with vars := (x, d) :: c.vars } s₀ O { s with heap := h', toks := t } := by
 have hm' := hm
 refine cutG fun P_ hP_ => ?_
 obtain ⟨oL, es, ep, hL, hd, _⟩ := hm'
 obtain ⟨oL', es', ep', hL', hd', _⟩ := id hn
 refine hP_ ?_
 clear hP_ P_
 refine S.put (.head _) (sameBut_kp hs t) ⟨oL', hL', fun vs => (by rw [hd']; intro z; cases z), .inl ⟨_, _, hd'⟩⟩ (fun p hp e => ?_) (.inl ⟨hk, _, hn, by simp⟩) r (fun y u hy hu => ?_) ⟨⟨_, hn⟩, fun y cc hcc => ?_⟩
 ·refine cutG fun P_ hP_ => ?_
  obtain ⟨_, vs, n, hg, _⟩ := S.ok.own p hp
  refine hP_ ?_
  clear hP_ P_
  rw [e, hL] at hg; cases hg; cases hd
 ·rcases hu with ⟨hky, m₂, hm₂, hy₂⟩ | ⟨hky, cc, hcc, o, ho, hdo⟩
  ·have := ns_unique hm hm₂
   subst this
   exact .inl ⟨hky, _, hn, by simp [hy, hy₂]⟩
  ·obtain hne : cc ≠ c.env.locals := fun e => by rw [e, hL] at ho; cases ho; cases hd.symm.trans hdo
   exact .inr ⟨hky, cc, hcc, o, (hs.2 cc hne).trans ho, hdo⟩
 ·refine cutG fun P_ hP_ => ?_
  obtain ⟨v₀, o, ho, hdo⟩ := S.fr.2 y cc hcc
  refine hP_ ?_
  clear hP_ P_
  obtain hne : cc ≠ c.env.locals := fun e => by rw [e, hL] at ho; cases ho; cases hd.symm.trans hdo
  exact ⟨v₀, o, (hs.2 cc hne).trans ho, hdo⟩
theorem Sx.cell {x : Str} {d : D} {v : Value} {h' : Heap} {t : Nat} {cc : Addr} {v₀ : Option Value} (S : Sx c s₀ O s) (hk : c.env.kindOf x = some .cell) (hcc : c.env.cells.lookup x = some cc) (hc : s.heap.IsCell cc v₀) (r : Rep c.X s.heap d v)
  (hn : h'.IsCell cc (some v)) (hs : Heap.SameBut cc s.heap h') : Sx { c with vars := (x, d) :: c.vars } s₀ O { s with heap := h', toks := t } := by
 refine cutG fun P_ hP_ => ?_
 obtain ⟨oc, ho, hd⟩ := hc
 obtain ⟨oc', ho', hd'⟩ := id hn
 refine hP_ ?_
 clear hP_ P_
 refine S.put (.tail _ (List.mem_map.mpr ⟨(x, cc), VarAt.kp.mem_of_lookup_some hcc, rfl⟩)) (sameBut_kp hs t) ⟨oc', ho', fun vs => (by rw [hd']; intro z; cases z), .inr fun o e es n z => by cases ho.symm.trans e; cases hd.symm.trans z⟩ (fun p hp e => ?_) (.inr ⟨.inl hk, cc, hcc, hn⟩) r (fun y u hy hu => ?_) ⟨?_, fun y b hb => ?_⟩
 ·refine cutG fun P_ hP_ => ?_
  obtain ⟨_, vs, n, hg, _⟩ := S.ok.own p hp
  refine hP_ ?_
  clear hP_ P_
  rw [e, ho] at hg; cases hg; cases hd
 ·rcases hu with ⟨hky, m₂, ⟨oL, es, ep, hL, hdL, rest⟩, hy₂⟩ | ⟨hky, c2, hc2, o2, ho2, hdo2⟩
  ·obtain hne : c.env.locals ≠ cc := fun e => by rw [e, ho] at hL; cases hL; cases hd.symm.trans hdL
   exact .inl ⟨hky, m₂, ⟨oL, es, ep, (hs.2 _ hne).trans hL, hdL, rest⟩, hy₂⟩
  ·obtain hne : c2 ≠ cc := S.cap y x c2 cc hc2 hcc hy
   exact .inr ⟨hky, c2, hc2, o2, (hs.2 _ hne).trans ho2, hdo2⟩
 ·refine cutG fun P_ hP_ => ?_
  obtain ⟨m₂, oL, es, ep, hL, hdL, rest⟩ := S.fr.1
  refine hP_ ?_
  clear hP_ P_
  obtain hne : c.env.locals ≠ cc := fun e => by rw [e, ho] at hL; cases hL; cases hd.symm.trans hdL
  exact ⟨m₂, oL, es, ep, (hs.2 _ hne).trans hL, hdL, rest⟩
 ·by_cases hyx : y = x
  ·rw [hyx, hcc] at hb; cases hb; exact ⟨_, hn⟩
  ·refine cutG fun P_ hP_ => ?_
   obtain ⟨v₁, o1, ho1, hd1⟩ := S.fr.2 y b hb
   refine hP_ ?_
   clear hP_ P_
   exact ⟨v₁, o1, (hs.2 _ (S.cap y x b cc hb hcc hyx)).trans ho1, hd1⟩
theorem st_name {x : Str} {d : D} {v : Value} {Q : Unit → Shared → Prop} (S : Sx c s₀ O s) (hkf : c.env.scope.kind = .function) (hk : c.env.kindOf x = some .local ∨ (c.env.kindOf x = some .cell ∧ (c.env.cells.lookup x).isSome = true)) (r : Rep c.X s.heap d v)
  (h : ∀ s', Sx { c with vars := (x, d) :: c.vars } s₀ O s' → Q () s') : wpAny (model c.prog c.w) c.A (storeName c.env x v) Q E s := by
 rcases hk with hk | ⟨hk, hcc⟩
 ·obtain ⟨m, hm⟩ := S.fr.1
  exact wpAny_storeName_local hk hm (fun h' hn hs => h _ (S.local hk hm r hn hs)) (by rw [hkf]; rfl)
 ·obtain ⟨cc, hcc⟩ := Option.isSome_iff_exists.mp hcc
  obtain ⟨v₀, hv⟩ := S.fr.2 x cc hcc
  exact wpAny_storeName_cell hkf hk hcc hv (fun h' hn hs => h _ (S.cell hk hcc hv r hn hs))
noncomputable def mayBind (env : Env) (x : Str) : Bool := env.kindOf x == some .local || (env.kindOf x == some .cell && (env.cells.lookup x).isSome)
theorem mayBind_of {env : Env} {x : Str} (h : mayBind env x = true) : env.kindOf x = some .local ∨ (env.kindOf x = some .cell ∧ (env.cells.lookup x).isSome = true) := by
 simp only [mayBind, Bool.or_eq_true, Bool.and_eq_true, beq_iff_eq] at h; exact h
theorem ex_nil {M : Model} {A : Around} {env : Env} {s : Shared} {E : Value → Shared → Prop} {Q : Flow → Shared → Prop} (h : Q .next s) : wpAny M A (execs [] env) Q E s := wpAny_execs_nil h
theorem ex_cons {M : Model} {A : Around} {env : Env} {s : Shared} {E : Value → Shared → Prop} {st : Stmt} {rest : List Stmt} {Q : Flow → Shared → Prop} (h : wpAny M A (exec st env) (fun f s' => match f with | .next => wpAny M A (execs rest env) Q E s' | f => Q f s') E s) :
  wpAny M A (execs (st :: rest) env) Q E s := by
 rw [execs_cons]
 refine wpAny_bind (wpAny_mono h (fun f s' h' => ?_) fun o_ o_ e => e)
 cases f with
 | next => exact h'
 | brk => exact wpAny_pure h'
 | cont => exact wpAny_pure h'
 | ret v => exact wpAny_pure h'
theorem ex_assign {M₀ : Model} {A₀ : Around} {env₀ : Env} {x : Str} {px pos : Pos} {e : Expr} {d : D} {Q : Flow → Shared → Prop} (S : Sx c s₀ O s) (he : Ev c e d) (h : ∀ s', Sx { c with vars := (x, d) :: c.vars } s₀ O s' → Q .next s')
  (hb : mayBind c.env x = true) (hkf : c.env.scope.kind = .function) (hs : swapsWith e (some (.Name x px)) pos.line c.env = pure false) (hM₀ : M₀ = model c.prog c.w := by rfl) (hA₀ : A₀ = c.A := by rfl) (hE₀ : env₀ = c.env := by rfl) : wpAny M₀ A₀ (exec (.Assign [.Name x px] e pos) env₀) Q E s := by
 subst hM₀ hA₀ hE₀
 exact wpAny_Assign_Name (wpAny_mono (he s E S.ok) (fun v s₁ h₁ => st_name (S.step h₁.1) hkf (mayBind_of hb) h₁.2 h) fun o_ o_ e => e) hs
theorem ex_if {M₀ : Model} {A₀ : Around} {env₀ : Env} {t : Expr} {body orelse : List Stmt} {pos : Pos} {b : Bool} {Q : Flow → Shared → Prop} (S : Sx c s₀ O s) (ht : Et c t b)
  (h1 : b = true → ∀ s', Sx c s₀ O s' → wpAny (model c.prog c.w) c.A (execs body c.env) Q E s') (h2 : b = false → ∀ s', Sx c s₀ O s' → wpAny (model c.prog c.w) c.A (execs orelse c.env) Q E s') (hM₀ : M₀ = model c.prog c.w := by rfl) (hA₀ : A₀ = c.A := by rfl) (hE₀ : env₀ = c.env := by rfl) : wpAny M₀ A₀ (exec (.If t body orelse pos) env₀) Q E s := by
 subst hM₀ hA₀ hE₀
 exact wpAny_If (wpAny_mono (ht s E S.ok) (fun r s₁ h₁ => by
  obtain ⟨k, rfl⟩ := h₁
  cases r with
  | true => exact h1 rfl s₁ (S.step k)
  | false => exact h2 rfl s₁ (S.step k)) fun o_ o_ e => e)
theorem ex_return {M₀ : Model} {A₀ : Around} {env₀ : Env} {e : Expr} {pos : Pos} {d : D} {Q : Flow → Shared → Prop} (S : Sx c s₀ O s) (he : Ev c e d) (h : ∀ s' v, Sx c s₀ O s' → Rep c.X s'.heap d v → Q (.ret v) s') (hM₀ : M₀ = model c.prog c.w := by rfl) (hA₀ : A₀ = c.A := by rfl) (hE₀ : env₀ = c.env := by rfl) : wpAny M₀ A₀ (exec (.Return (some e) pos) env₀) Q E s := by
 subst hM₀ hA₀ hE₀
 exact wpAny_Return_some (wpAny_mono (he s E S.ok) (fun v s₁ h₁ => h s₁ v (S.step h₁.1) h₁.2) fun o_ o_ e => e)
theorem ex_break {M : Model} {A : Around} {env : Env} {s : Shared} {E : Value → Shared → Prop} {pos : Pos} {Q : Flow → Shared → Prop} (h : Q .brk s) : wpAny M A (exec (.Break pos) env) Q E s := fun o_ o_ o_ => h
end
end Mine
end
section
open PySem PySem.W PyProof.Rows
namespace Mine
open PySem.Calls
section
variable {c : Cx} {s₀ s : Shared} {O : List Addr} {E : Value → Shared → Prop}
theorem Sx.vars {V : List (Str × D)} (S : Sx c s₀ O s) (h : ∀ y d, V.lookup y = some d → c.vars.lookup y = some d) : Sx { c with vars := V } s₀ O s :=
 ⟨⟨S.ok.base, S.ok.frames, S.ok.xin, fun y d hy => S.ok.vars y d (h y d hy), S.ok.own, S.ok.home⟩, S.kp, S.free, S.hx, ⟨S.offs.x, S.offs.home, S.offs.base, S.offs.frame⟩, S.nd, S.fr, S.cap⟩
theorem Sx.freshAddr {a : Addr} (S : Sx c s₀ O s) (h : s.heap.get? a = none) : a ∉ c.X ∧ a ∉ homes c.env ∧ c.hb.get? a = none ∧ a ∉ framesOf c.A ∧ a ∉ ownA c ∧ (a ∈ O ∨ s₀.heap.get? a = none) := by
 have hx : a ∉ c.X := fun hm => by obtain ⟨o, e⟩ := S.ok.xin a hm; exact no_some (h.symm.trans e)
 refine ⟨hx, fun hm => ?_, ?_, fun hm => ?_, fun hm => hx (S.offs.x a hm), ?_⟩
 ·obtain ⟨o, e⟩ := S.ok.home a hm; exact no_some (h.symm.trans e)
 ·cases q : c.hb.get? a with
  | none => rfl
  | some ob => have := S.ok.base a ob q; exact no_some (h.symm.trans this)
 ·obtain ⟨l, hl, hfr⟩ := S.ok.frames
  obtain hm' : a ∈ l.filterMap (·.frame) := by unfold framesOf at hm; rw [hl] at hm; exact hm
  obtain ⟨_, ob, e, _⟩ := hfr.mem hm'
  exact no_some (h.symm.trans e)
 ·by_cases hO : a ∈ O
  ·exact .inl hO
  ·right
   cases q : s₀.heap.get? a with
   | none => rfl
   | some ob => obtain ⟨o', e', _⟩ := S.kp.data q hO; exact no_some (h.symm.trans e')
theorem Sx.hideL {N : List Addr} {s' : Shared} (S : Sx c s₀ O s) (k : Kp c.hb [] s s') (h : ∀ a ∈ N, s.heap.get? a = none) (hex : ∀ a ∈ N, ∃ o, s'.heap.get? a = some o) : Sx { c with X := N ++ c.X } s₀ O s' := by
 have S' := S.step k
 have rep' : ∀ {d : D} {v : Value}, Rep c.X s.heap d v → Rep (N ++ c.X) s'.heap d v := fun {d v} r => r.mono fun b ob hb' e hnf => by
  refine ⟨fun hm => ?_, k.get e hnf (fun h => (nomatch h))⟩
  rcases List.mem_append.mp hm with z | z
  ·rw [h b z] at e; cases e
  ·exact hb' z
 have repA : ∀ {d : List D} {v : List Value}, RepAll c.X s.heap d v → RepAll (N ++ c.X) s'.heap d v := fun {d v} r => r.mono fun b ob hb' e hnf => by
  refine ⟨fun hm => ?_, k.get e hnf (fun h => (nomatch h))⟩
  rcases List.mem_append.mp hm with z | z
  ·rw [h b z] at e; cases e
  ·exact hb' z
 refine ⟨⟨S'.ok.base, S'.ok.frames, fun b hb' => ?_, fun y d hy => ?_, fun p hp => ?_, S'.ok.home⟩, S'.kp, S'.free, fun b hb' => ⟨List.mem_append_right _ (S.hx b hb').1, (S.hx b hb').2⟩, ⟨fun b hb' => List.mem_append_right _ (S.offs.x b hb'), S.offs.home, S.offs.base, S.offs.frame⟩, S.nd, S'.fr, S.cap⟩
 ·rcases List.mem_append.mp hb' with z | z
  ·exact hex b z
  ·exact S'.ok.xin b z
 ·obtain ⟨v, hv, hr⟩ := S.ok.vars y d hy
  exact ⟨v, hv.kp k (fun o_ o_ h => (nomatch h)), rep' hr⟩
 ·refine cutG fun P_ hP_ => ?_
  obtain ⟨hx', vs, n, hg, hr⟩ := S.ok.own p hp
  refine hP_ ?_
  clear hP_ P_
  exact ⟨List.mem_append_right _ hx', vs, n, k.get hg notFrame_list (fun h => (nomatch h)), repA hr⟩
theorem Sx.hide {a : Addr} {s' : Shared} (S : Sx c s₀ O s) (k : Kp c.hb [] s s') (h : s.heap.get? a = none) (hex : ∃ o, s'.heap.get? a = some o) : Sx { c with X := a :: c.X } s₀ O s' :=
 S.hideL (N := [a]) k (fun b hb => by obtain rfl := mem_1 hb; exact h) (fun b hb => by obtain rfl := mem_1 hb; exact hex)
theorem Sx.takeL {N : List Addr} {s' : Shared} {M : List (Addr × List D)} (S : Sx c s₀ O s) (k : Kp c.hb [] s s') (h : ∀ a ∈ N, s.heap.get? a = none) (hex : ∀ a ∈ N, ∃ o, s'.heap.get? a = some o) (hM : ∀ p ∈ M, p.1 ∈ N) (hnd : (M.map (·.1)).Nodup)
  (hg : ∀ p ∈ M, ∃ ys n, s'.heap.get? p.1 = some (listO ys n) ∧ RepAll (N ++ c.X) s'.heap p.2 ys) :
  Sx { c with X := N ++ c.X, own := M ++ c.own } s₀ O s' := by
 have S' := S.hideL k h hex
 have fr := fun p (hp : p ∈ M) => S.freshAddr (h _ (hM p hp))
 have cs : ∀ {P : Addr → Prop}, (∀ p ∈ M, P p.1) → (∀ b ∈ ownA c, P b) → ∀ b ∈ ownA { c with X := N ++ c.X, own := M ++ c.own }, P b := fun {P} h1 h2 b hb' => by
  obtain ⟨p, hp, e⟩ := List.mem_map.mp hb'
  rcases List.mem_append.mp hp with y | y
  ·rw [← e]; exact h1 p y
  ·exact h2 b (List.mem_map.mpr ⟨p, y, e⟩)
 refine ⟨⟨S'.ok.base, S'.ok.frames, S'.ok.xin, S'.ok.vars, fun p hp => ?_, S'.ok.home⟩, S'.kp, fun b hb' => ?_, S'.hx, ⟨cs (fun p hp => List.mem_append_left _ (hM p hp)) (fun b hb' => List.mem_append_right _ (S.offs.x b hb')), cs (fun p hp => (fr p hp).2.1) S.offs.home, cs (fun p hp => (fr p hp).2.2.1) S.offs.base, cs (fun p hp => (fr p hp).2.2.2.1) S.offs.frame⟩, ?_, S'.fr, S'.cap⟩
 ·rcases List.mem_append.mp hp with z | z
  ·obtain ⟨ys, n, e1, e2⟩ := hg p z; exact ⟨List.mem_append_left _ (hM p z), ys, n, e1, e2⟩
  ·exact S'.ok.own p z
 ·rcases List.mem_append.mp hb' with z | z
  ·exact S'.free b (List.mem_append_left _ z)
  ·exact cs (P := fun b => b ∈ O ∨ s₀.heap.get? b = none) (fun p hp => (fr p hp).2.2.2.2.2) (fun b hb' => S.free b (List.mem_append_right _ hb')) b z
 ·show ((M ++ c.own).map (·.1)).Nodup
  rw [List.map_append, List.nodup_append]
  refine ⟨hnd, S.nd, fun a ha b hb' e => ?_⟩
  obtain ⟨p, hp, e'⟩ := List.mem_map.mp ha
  subst e'
  exact (fr p hp).2.2.2.2.1 (e ▸ hb')
theorem Sx.take {a : Addr} {s' : Shared} {ds : List D} {ys : List Value} {n : Nat} (S : Sx c s₀ O s) (k : Kp c.hb [] s s') (h : s.heap.get? a = none) (hg : s'.heap.get? a = some (listO ys n)) (hr : RepAll (a :: c.X) s'.heap ds ys) :
  Sx { c with X := a :: c.X, own := (a, ds) :: c.own } s₀ O s' :=
 S.takeL (N := [a]) (M := [(a, ds)]) k (fun b hb => by obtain rfl := mem_1 hb; exact h) (fun b hb => by obtain rfl := mem_1 hb; exact ⟨_, hg⟩) (fun p hp => by obtain rfl := mem_1 hp; exact .head _) (by simp)
  (fun p hp => by obtain rfl := mem_1 hp; exact ⟨ys, n, hg, hr⟩)
theorem ex_assign_own {M₀ : Model} {A₀ : Around} {env₀ : Env} {x : Str} {px pos : Pos} {e : Expr} {ds : List D} {Q : Flow → Shared → Prop} (S : Sx c s₀ O s) (he : Evn c e ds) (h : ∀ s' a, Sx { c with X := a :: c.X, own := (a, ds) :: c.own, vars := (x, .val (.ref a)) :: c.vars } s₀ O s' → Q .next s')
  (hb : mayBind c.env x = true) (hkf : c.env.scope.kind = .function) (hs : swapsWith e (some (.Name x px)) pos.line c.env = pure false) (hM₀ : M₀ = model c.prog c.w := by rfl) (hA₀ : A₀ = c.A := by rfl) (hE₀ : env₀ = c.env := by rfl) : wpAny M₀ A₀ (exec (.Assign [.Name x px] e pos) env₀) Q E s := by
 subst hM₀ hA₀ hE₀
 exact wpAny_Assign_Name (wpAny_mono (he s E S.ok) (fun v s₁ h₁ => by
  refine cutG fun P_ hP_ => ?_
  obtain ⟨k, a, ys, n, rfl, h0, hg, hr⟩ := h₁
  refine hP_ ?_
  clear hP_ P_
  obtain S₁ := S.take k h0 hg hr
  exact st_name (c := { c with X := a :: c.X, own := (a, ds) :: c.own }) S₁ hkf (mayBind_of hb) (d := .val (.ref a)) rfl (fun s' S₂ => h s' a S₂)) fun o_ o_ e => e) hs
theorem Sx.dropC {C : Addr} {s' : Shared} {h' : Heap} (S : Sx { c with X := C :: c.X } s₀ O s') (hs : Heap.SameBut C s'.heap h') (hx : C ∉ c.X) (hh : C ∉ homes c.env) (hb : c.hb.get? C = none) (hf : C ∉ framesOf c.A) (hn : C ∉ ownA c) (hO : C ∈ O ∨ s₀.heap.get? C = none) : Sx c s₀ O { s' with heap := h' } := by
 have kC : Kp c.hb [C] s' { s' with heap := h' } := sameBut_kp (s := s') hs s'.toks
 have one : ∀ {P : Addr → Prop}, P C → ∀ b ∈ [C], P b := fun {P} h b hb => by exact all_one (h) _ hb
 obtain hhx : ∀ a ∈ homes c.env, a ∈ c.X := fun a ha => by
  rcases List.mem_cons.mp (S.hx a ha).1 with z | z
  ·exact absurd (z ▸ ha) hh
  ·exact z
 obtain hC0 : C ∉ ownA c → ∀ p ∈ c.own, p.1 ∈ c.X := fun hn p hp => by
  rcases List.mem_cons.mp (S.offs.x p.1 (List.mem_map.mpr ⟨p, hp, rfl⟩)) with z | z
  ·exact absurd (z ▸ List.mem_map.mpr ⟨p, hp, rfl⟩) hn
  ·exact z
 ·have hown := hC0 hn
  refine ⟨S.ok.offX (X' := c.X) kC ⟨one (.head _), one hh, one hb, one hf⟩ (fun a ha => .tail _ ha) (fun a ha hm => ?_) (fun q hq => ?_), S.kp.join kC (one hO), S.free, fun a ha => ⟨hhx a ha, (S.hx a ha).2⟩, ⟨fun a ha => ?_, S.offs.home, S.offs.base, S.offs.frame⟩, S.nd, S.fr.kp kC (fun a ha hm => by obtain rfl := mem_1 hm; exact hh ha), S.cap⟩
  ·rcases mem_c ha with rfl | z
   ·exact absurd hm hx
   ·exact no_nil z
  ·obtain ⟨_, vs, n, hg, hr⟩ := S.ok.ownKeep kC (one (.head _)) hq (fun hm => by
    rcases List.mem_singleton.mp hm with z
    exact hn (List.mem_map.mpr ⟨q, hq, z⟩))
   exact ⟨hown q hq, vs, n, hg, hr.mono fun a o_ ha e o_ => ⟨fun z => ha (.tail _ z), e⟩⟩
  ·obtain ⟨p, hp, e⟩ := List.mem_map.mp ha
   rw [← e]; exact hown p hp
theorem ex_comp_core {T : Heap → Value → List Addr → Prop} {elt iter : Expr} {x y : Str} {px py pos spos : Pos} {ifs : List Expr} {scope : Scope} {xs out : List D} {Ob : List Addr} {Q : Flow → Shared → Prop}
  (S : Sx c s₀ O s) (hsrc : Src c Ob iter xs) (N : NamesOk scope c.env) (R : CompRuns T c [] (fun o_ => c.own) elt iter x px ifs scope pos xs out)
  (hsw : swapsWith (.ListComp elt [⟨.Name x px, iter, ifs, 0⟩] scope pos) (some (.Name y py)) spos.line c.env = pure true)
  (h : ∀ C Dd s' m ys n, s.heap.get? C = none → C ∉ c.X → C ∉ homes c.env → c.hb.get? C = none → C ∉ framesOf c.A → C ∉ ownA c → (C ∈ O ∨ s₀.heap.get? C = none) → Dd ≠ C → s'.heap.Ns C m → s.heap.get? Dd = none → Kp c.hb [] s s' → Sx { c with X := C :: c.X } s₀ O s' → s'.heap.get? Dd = some (listO ys n) → RepAll (C :: Dd :: c.X) s'.heap out ys → Acc T s.heap [C, Dd] s'.heap ys →
   wpAny (model c.prog c.w) c.A (assign (.Name y py) c.env (.ref Dd)) (fun o_ s'' => ∃ m, s''.heap.Ns C m ∧ ∀ h', Heap.SameBut C s''.heap h' → Q .next { s'' with heap := h' }) E s')
  (hs : ∀ v, foldedSetIterable iter c.env v = pure v := by intro _; rfl) :
  wpAny (model c.prog c.w) c.A (exec (.Assign [.Name y py] (.ListComp elt [⟨.Name x px, iter, ifs, 0⟩] scope pos) spos) c.env) Q E s := by
 obtain ⟨hcl, hkind, hnames⟩ := N
 rw [exec_Assign_Name_used _ _ _ _ hsw]
 refine wpAny_bind (wpAny_standAt (wpAny_bind ?_))
 show wpAny _ c.A (do let _ ← comprehension (.ListComp elt [⟨.Name x px, iter, ifs, 0⟩] scope pos) scope c.env _ (newList []) false (eval iter c.env) (some (assign (.Name y py) c.env))) _ _ s
 refine wpAny_bind (wpAny_mono (wpAny_comprehension_free (use := some (assign (.Name y py) c.env)) (Q := fun o_ s' => Q .next s') rfl hs hcl hkind hnames (wpAny_mono (hsrc s E S.ok) (fun xv s₁ h₁ => wpAny_mono h₁ (fun it s₂ h₂ => ?_) fun o_ o_ e => e) fun o_ o_ e => e)) (fun o_ o_ q => wpAny_pure (wpAny_pure q)) fun o_ o_ e => e)
 refine cutG fun P_ hP_ => ?_
 obtain ⟨k02, I, fp, P, St, rfl, hI, W⟩ := h₂
 refine hP_ ?_
 clear hP_ P_
 refine R (RR := fun acc C => compPost (model c.prog c.w) c.A E (some (assign (.Name y py) c.env)) (fun o_ s' => Q .next s') acc C) S.ok k02 hI W (fun o_ h => (by cases h)) ?_
 intro Dd C s' m hD hC hDC kO o' r hn
 refine cutG fun P_ hP_ => ?_
 obtain ⟨ys, n, e, hY, acc⟩ := r
 obtain ⟨hx, hh, hb, hf, ho, hO⟩ := S.freshAddr hC
 refine hP_ ?_
 clear hP_ P_
 obtain S' : Sx { c with X := C :: c.X } s₀ O s' := S.hide kO hC (by obtain ⟨ob, _, _, e', _⟩ := hn; exact ⟨ob, e'⟩)
 exact h C Dd s' m ys n hC hx hh hb hf ho hO hDC hn hD kO S' e hY acc
theorem ex_assign_compR {M₀ : Model} {A₀ : Around} {env₀ : Env} {elt iter : Expr} {x y : Str} {px py pos spos : Pos} {ifs : List Expr} {scope : Scope} {xs out : List D} {Ob : List Addr} {Q : Flow → Shared → Prop}
  (S : Sx c s₀ O s) (hsrc : Src c Ob iter xs)
  (R : CompRuns noT c [] (fun o_ => c.own) elt iter x px ifs scope pos xs out)
  (h : ∀ s', Sx { c with vars := (y, .list out) :: c.vars } s₀ O s' → Q .next s')
  (N : NamesOk scope c.env) (hb : mayBind c.env y = true) (hkf : c.env.scope.kind = .function)
  (hsw : swapsWith (.ListComp elt [⟨.Name x px, iter, ifs, 0⟩] scope pos) (some (.Name y py)) spos.line c.env = pure true)
  (hs : ∀ v, foldedSetIterable iter c.env v = pure v := by intro _; rfl) (hM₀ : M₀ = model c.prog c.w := by rfl) (hA₀ : A₀ = c.A := by rfl) (hE₀ : env₀ = c.env := by rfl) : wpAny M₀ A₀ (exec (.Assign [.Name y py] (.ListComp elt [⟨.Name x px, iter, ifs, 0⟩] scope pos) spos) env₀) Q E s := by
 subst hM₀ hA₀ hE₀
 refine ex_comp_core S hsrc N R hsw (fun C Dd s' m ys n hCs hx hh hbC hf ho hO hDC hn hD k S' e hY o_ => ?_) hs
 obtain r : Rep (C :: c.X) s'.heap (.list out) (.ref Dd) := by
  refine ⟨Dd, ys, n, rfl, fun hm => ?_, e, hY.mono fun a o_ ha e' o_ => ⟨fun z => ha ?_, e'⟩⟩
  ·rcases List.mem_cons.mp hm with z | z
   ·exact hDC z
   ·obtain ⟨ob, e'⟩ := S.ok.xin Dd z; exact no_some (hD.symm.trans e')
  ·rcases List.mem_cons.mp z with z | z
   ·rw [z]; exact .head _
   ·exact .tail _ (.tail _ z)
 refine wpAny_assign_Name (st_name (c := { c with X := C :: c.X }) S'.rebase hkf (mayBind_of hb) r fun s'' S'' => ?_)
 obtain hm' : s''.heap.Ns C m := S''.kp.ns hn fun hm => (List.mem_append.mp hm).elim hh ho
 exact ⟨m, hm', fun h' hs' => h _ (Sx.dropC (c := { c with vars := (y, .list out) :: c.vars }) (S'.back S'' rfl) hs' hx hh hbC hf ho hO)⟩
theorem ex_assign_comp {M₀ : Model} {A₀ : Around} {env₀ : Env} {elt iter : Expr} {x y : Str} {px py pos spos : Pos} {ifs : List Expr} {scope : Scope} {xs : List D} {f : D → D} {p : D → Bool} {Ob : List Addr} {Q : Flow → Shared → Prop}
  (S : Sx c s₀ O s) (hsrc : Src c Ob iter xs)
  (tests : ∀ d C Dd I, d ∈ xs → TestsOk (inCx c scope x d C Dd I) ifs (p d))
  (elts : ∀ d C Dd I, d ∈ xs → p d = true → Ev (inCx c scope x d C Dd I) elt (f d)) (hsz : xs.length ≤ sizeLine)
  (h : ∀ s', Sx { c with vars := (y, .list ((xs.filter p).map f)) :: c.vars } s₀ O s' → Q .next s')
  (b : blockOk scope c.env x = true) (hb : mayBind c.env y = true) (hkf : c.env.scope.kind = .function)
  (hsw : swapsWith (.ListComp elt [⟨.Name x px, iter, ifs, 0⟩] scope pos) (some (.Name y py)) spos.line c.env = pure true)
  (hs : ∀ v, foldedSetIterable iter c.env v = pure v := by intro _; rfl) (hM₀ : M₀ = model c.prog c.w := by rfl) (hA₀ : A₀ = c.A := by rfl) (hE₀ : env₀ = c.env := by rfl) : wpAny M₀ A₀ (exec (.Assign [.Name y py] (.ListComp elt [⟨.Name x px, iter, ifs, 0⟩] scope pos) spos) env₀) Q E s :=
 ex_assign_compR S hsrc (runs_local b (fun q hq => (S.ok.own q hq).1) tests elts hsz) h (names_of_block b) hb hkf hsw hs hM₀ hA₀ hE₀
end
end Mine
end
section
open PySem PySem.W PyProof.Rows
namespace Mine
open PySem.Calls
section
variable {c : Cx} {s₀ s : Shared} {O : List Addr} {E : Value → Shared → Prop}
theorem Sx.unhide {N : List Addr} (S : Sx { c with X := N ++ c.X } s₀ O s) (h1 : ∀ a ∈ homes c.env, a ∈ c.X) (h2 : ∀ a ∈ ownA c, a ∈ c.X) : Sx c s₀ O s := by
 refine ⟨⟨S.ok.base, S.ok.frames, fun a ha => S.ok.xin a (List.mem_append_right _ ha), fun y d hy => ?_, fun p hp => ?_, S.ok.home⟩, S.kp, S.free, fun a ha => ⟨h1 a ha, (S.hx a ha).2⟩, ⟨h2, S.offs.home, S.offs.base, S.offs.frame⟩, S.nd, S.fr, S.cap⟩
 ·obtain ⟨v, hv, hr⟩ := S.ok.vars y d hy
  exact ⟨v, hv, hr.mono fun a o_ ha e o_ => ⟨fun z => ha (List.mem_append_right _ z), e⟩⟩
 ·obtain ⟨_, vs, n, hg, hr⟩ := S.ok.own p hp
  exact ⟨h2 p.1 (List.mem_map.mpr ⟨p, hp, rfl⟩), vs, n, hg, hr.mono fun a o_ ha e o_ => ⟨fun z => ha (List.mem_append_right _ z), e⟩⟩
noncomputable def Turned (c : Cx) (s₀ : Shared) (O : List Addr) (Q : Flow → Shared → Prop) (c' : Cx) (I : Addr) (s₁ : Shared) (f : Flow) (s' : Shared) : Prop := match f with
 | .next | .cont => Sx { c' with X := I :: c.X } s₁ (mine c) s'
 | .brk => ∃ vars own, own.map (·.1) = ownA c ∧ Sx { c with X := I :: c.X, vars := vars, own := own } s₁ (mine c) s' ∧ (Sx { c with vars := vars, own := own } s₀ O s' → Q .next s')
 | .ret v => ∃ vars own, own.map (·.1) = ownA c ∧ Sx { c with X := I :: c.X, vars := vars, own := own } s₁ (mine c) s' ∧ (Sx { c with vars := vars, own := own } s₀ O s' → Q (.ret v) s')
noncomputable def TurnedJ (j : Prop) (c : Cx) (s₀ : Shared) (O : List Addr) (Q : Flow → Shared → Prop) (c' : Cx) (I : Addr) (s₁ : Shared) (f : Flow) (s' : Shared) : Prop := match f with
 | .next | .cont => j ∧ Sx { c' with X := I :: c.X } s₁ (mine c) s'
 | .brk => ∃ vars own, own.map (·.1) = ownA c ∧ Sx { c with X := I :: c.X, vars := vars, own := own } s₁ (mine c) s' ∧ (Sx { c with vars := vars, own := own } s₀ O s' → Q .next s')
 | .ret v => ∃ vars own, own.map (·.1) = ownA c ∧ Sx { c with X := I :: c.X, vars := vars, own := own } s₁ (mine c) s' ∧ (Sx { c with vars := vars, own := own } s₀ O s' → Q (.ret v) s')
theorem ex_forJ (J : Nat → Prop) (hJ0 : J 0) {M₀ : Model} {A₀ : Around} {env₀ : Env} {x : Str} {px pos : Pos} {iter : Expr} {body orelse : List Stmt} {xs : List D} {V : Nat → List (Str × D)} {W : Nat → List (Addr × List D)} {Ob : List Addr} {Q : Flow → Shared → Prop} {XB : Value → Shared → Prop}
  (S : Sx c s₀ O s) (hsrc : Src c Ob iter xs) (hOb : ∀ a ∈ mine c, a ∈ Ob) (hV : ∀ y d, (V 0).lookup y = some d → c.vars.lookup y = some d) (hW : W 0 = c.own) (hWa : ∀ i, (W i).map (·.1) = ownA c)
  (turn : ∀ i d I s₁ s', J i → xs[i]? = some d → Sx { c with X := I :: c.X, vars := (x, d) :: V i, own := W i } s₁ (mine c) s' →
   wpAny (model c.prog c.w) c.A (execs body c.env) (TurnedJ (J (i + 1)) c s₀ O Q { c with vars := V (i + 1), own := W (i + 1) } I s₁) (fun e s'' => ∃ vars own s₂, own.map (·.1) = ownA c ∧ Sx { c with X := I :: c.X, vars := vars, own := own } s₁ (mine c) s₂ ∧ (Sx { c with vars := vars, own := own } s₀ O s₂ → XB e s'')) s')
  (done : ∀ s', J xs.length → Sx { c with vars := V xs.length, own := W xs.length } s₀ O s' → wpAny (model c.prog c.w) c.A (execs orelse c.env) Q (fun o_ o_ => False) s')
  (hXB : ∀ e s', XB e s' → notedBy (model c.prog c.w) c.A c.env (fun e s'' => cameBackBy (model c.prog c.w) c.A c.env E e s'') e s')
  (hb : mayBind c.env x = true) (hkf : c.env.scope.kind = .function) (ht : letOwnedTupleGo (.Name x px) = fun o_ o_ => pure () := by rfl)
  (hs : ∀ v, foldedSetIterable iter c.env v = pure v := by intro _; rfl) (hM₀ : M₀ = model c.prog c.w := by rfl) (hA₀ : A₀ = c.A := by rfl) (hE₀ : env₀ = c.env := by rfl) : wpAny M₀ A₀ (exec (.For (.Name x px) iter body orelse pos) env₀) Q E s := by
 subst hM₀ hA₀ hE₀
 refine wpAny_For (wpAny_mono (hsrc s E S.ok) (fun xv s₁ h₁ => wpAny_mono h₁ (fun it s₂ h₂ => ?_) fun o_ o_ e => e) fun o_ o_ e => e) hs
 refine cutG fun P_ hP_ => ?_
 obtain ⟨k02, I, fp, P, St, rfl, hI, Wk⟩ := h₂
 obtain ⟨hIx, hIh, hIb, hIf, hIo, hIO⟩ := S.freshAddr hI
 refine hP_ ?_
 clear hP_ P_
 have hhx : ∀ a ∈ homes c.env, a ∈ c.X := fun a ha => (S.hx a ha).1
 have hox : ∀ i, ∀ a ∈ ownA { c with vars := V i, own := W i }, a ∈ c.X := fun i a ha => by
  have : a ∈ (W i).map (·.1) := ha
  rw [hWa] at this; exact S.offs.x a this
 have hmine : ∀ i, mine { c with X := I :: c.X, vars := V i, own := W i } = mine c := fun i => by
  show homes c.env ++ (W i).map (·.1) = homes c.env ++ ownA c
  rw [hWa]
 obtain hIm : I ∉ mine c := fun hm => (List.mem_append.mp hm).elim hIh hIo
 obtain hfpM : ∀ q ∈ fp, q ∉ mine c := fun q hq hm => by
  by_cases e : q = I
  ·exact hIm (e ▸ hm)
  ·exact Wk.apart q hq e (hOb q hm)
 obtain hIs₂ : ∃ ob, s₂.heap.get? I = some ob := by obtain ⟨ob, e, _⟩ := Wk.nf _ _ Wk.st I Wk.self; exact ⟨ob, e⟩
 obtain S2 : Sx { c with X := I :: c.X, vars := V 0, own := W 0 } s₀ O s₂ := by
  rw [hW]; exact (S.hide k02 hI hIs₂).vars hV
 have one : ∀ {P : Addr → Prop}, P I → ∀ b ∈ [I], P b := fun {P} h b hb => by exact all_one (h) _ hb
 -- the iterator steps
 obtain stepI : ∀ {i : Nat} {s' : Shared} {h₁ : Heap} {tk₁ : Nat}, Sx { c with X := I :: c.X, vars := V i, own := W i } s₀ O s' → Kp c.hb [I] s' { s' with heap := h₁, toks := tk₁ } → (∃ ob, h₁.get? I = some ob) → Sx { c with X := I :: c.X, vars := V i, own := W i } s₀ O { s' with heap := h₁, toks := tk₁ } := fun {i s' h₁ tk₁} S' kI hex => by
  refine ⟨S'.ok.off kI ⟨one (.head _), one hIh, one hIb, one hIf⟩ (fun a ha => by obtain rfl := mem_1 ha; exact hex) (fun q hq => S'.ok.ownKeep kI (one (.head _)) hq fun hm => ?_), S'.kp.join kI (one hIO), S'.free, S'.hx, S'.offs, S'.nd, S'.fr.kp kI (fun a ha hm => ?_), S'.cap⟩
  ·obtain z : q.1 = I := by exact List.mem_singleton.mp hm
   have : q.1 ∈ (W i).map (·.1) := List.mem_map.mpr ⟨q, hq, rfl⟩
   rw [hWa, z] at this; exact hIo this
  ·obtain z : a = I := by exact List.mem_singleton.mp hm
   exact hIh (z ▸ ha)
 refine codeAny_forLoop_any (R := fun r s' => match r with | .ok f => Q f s' | .error e => cameBackBy (model c.prog c.w) c.A c.env E e s')
  (fun n s' => ∃ i, J i ∧ n = xs.length + 1 - i ∧ i ≤ xs.length ∧ Kp c.hb (I :: mine c) s₂ s' ∧ Sx { c with X := I :: c.X, vars := V i, own := W i } s₀ O s' ∧ St i s'.heap) ?_ (xs.length + 1) ⟨0, hJ0, rfl, Nat.zero_le _, Kp.refl _ _ _, S2, Wk.st⟩
 rintro n s' ⟨i, hJi, rfl, hi, k, S', st⟩
 by_cases hlt : i < xs.length
 ·have hd : xs[i]? = some xs[i] := by simp [hlt]
  refine Wk.W.item i s' _ _ hlt st fun v h₁ tk₁ hPv st₁ hk₁ => ?_
  dsimp only
  rw [ht]
  refine wpAny_pure ?_
  have kI : Kp c.hb [I] s' { s' with heap := h₁, toks := tk₁ } := ⟨h₁, tk₁, rfl, fun q ob e hq => .inl (hk₁ q ob (fun z => hq z) e)⟩
  have S₁ := stepI S' kI (by obtain ⟨ob, e, _⟩ := Wk.nf _ _ st₁ I Wk.self; exact ⟨ob, e⟩)
  have k₁ : Kp c.hb (I :: mine c) s₂ { s' with heap := h₁, toks := tk₁ } := k.trans (kI.weaken (one (.head _)))
  -- the item as data
  obtain r : Rep (I :: c.X) h₁ xs[i] v := by
   obtain r0 := Wk.items i v _ hd hPv
   refine r0.mono fun a ob ha e hnf => ⟨ha, k₁.get e hnf fun hm => ?_⟩
   rcases List.mem_cons.mp hm with z | z
   ·exact ha (z ▸ .head _)
   ·rcases List.mem_append.mp z with y | y
    ·exact ha (.tail _ (hhx a y))
    ·exact ha (.tail _ (S.offs.x a y))
  refine wpAny_assign_Name (st_name (c := { c with X := I :: c.X, vars := V i, own := W i }) S₁.rebase hkf (mayBind_of hb) r fun s₃ S₃ => ?_)
  obtain S₃' : Sx { c with X := I :: c.X, vars := (x, xs[i]) :: V i, own := W i } { s' with heap := h₁, toks := tk₁ } (mine c) s₃ := by
   have := S₃; rw [hmine] at this; exact this
  -- what the turn leaves
  have fin : ∀ {vars : List (Str × D)} {own : List (Addr × List D)} {s₄ : Shared}, Sx { c with X := I :: c.X, vars := vars, own := own } { s' with heap := h₁, toks := tk₁ } (mine c) s₄ → Sx { c with X := I :: c.X, vars := vars, own := own } s₀ O s₄ := fun {vars own s₄} T => by
   obtain T' : Sx { c with X := I :: c.X, vars := vars, own := own } { s' with heap := h₁, toks := tk₁ } (mine { c with X := I :: c.X, vars := V i, own := W i }) s₄ := by rw [hmine]; exact T
   exact S₁.back T' rfl
  have goOn : ∀ {s₄ : Shared}, Sx { c with X := I :: c.X, vars := V (i + 1), own := W (i + 1) } { s' with heap := h₁, toks := tk₁ } (mine c) s₄ → J (i + 1) → ∃ m, m < xs.length + 1 - i ∧ ∃ j, J j ∧ m = xs.length + 1 - j ∧ j ≤ xs.length ∧ Kp c.hb (I :: mine c) s₂ s₄ ∧ Sx { c with X := I :: c.X, vars := V j, own := W j } s₀ O s₄ ∧ St j s₄.heap := fun {s₄} T hJn => by
   refine ⟨xs.length + 1 - (i + 1), by grind, i + 1, hJn, rfl, hlt, k₁.trans (T.kp.weaken fun a ha => .tail _ ha), fin T, ?_⟩
   exact Wk.W.frame _ _ _ st₁ fun q hq ob e => T.kp.get (s := { s' with heap := h₁, toks := tk₁ }) e (by
    obtain ⟨o', e', h'⟩ := Wk.nf _ _ st₁ q hq; obtain rfl := Option.some.inj (e.symm.trans e'); exact h') (hfpM q hq)
  have leave : ∀ {vars : List (Str × D)} {own : List (Addr × List D)} {s₄ : Shared}, own.map (·.1) = ownA c → Sx { c with X := I :: c.X, vars := vars, own := own } { s' with heap := h₁, toks := tk₁ } (mine c) s₄ → Sx { c with vars := vars, own := own } s₀ O s₄ := fun {vars own s₄} he T =>
   Sx.unhide (c := { c with vars := vars, own := own }) (N := [I]) (fin T) hhx (fun a ha => S.offs.x a (by have : a ∈ own.map (·.1) := ha; rw [he] at this; exact this))
  refine wpAny_mono (turn i _ I _ _ hJi hd S₃') (fun f s₄ T => ?_) fun e s₄ h => by
   refine cutG fun P_ hP_ => ?_
   obtain ⟨vars, own, s₂', he, T1, T2⟩ := h
   refine hP_ ?_
   clear hP_ P_
   exact hXB _ _ (T2 (leave he T1))
  cases f with
  | next => exact goOn T.2 T.1
  | cont => exact goOn T.2 T.1
  | brk => obtain ⟨vars, own, he, T1, T2⟩ := T; exact T2 (leave he T1)
  | ret u => obtain ⟨vars, own, he, T1, T2⟩ := T; exact T2 (leave he T1)
 ·obtain hin : i = xs.length := by grind
  subst hin
  refine Wk.W.done s' _ _ st fun h₁ tk₁ hk₁ => ?_
  dsimp only
  have kI : Kp c.hb [I] s' { s' with heap := h₁, toks := tk₁ } := ⟨h₁, tk₁, rfl, fun q ob e hq => .inl (hk₁ q ob (fun z => hq z) e)⟩
  obtain S₁ : Sx { c with vars := V xs.length, own := W xs.length } s₀ O { s' with heap := h₁, toks := tk₁ } := by
   refine ⟨S'.ok.offX (X' := c.X) kI ⟨one (.head _), one hIh, one hIb, one hIf⟩ (fun a ha => .tail _ ha) (fun a ha hm => ?_) (fun q hq => ?_), S'.kp.join kI (one hIO), S'.free, fun a ha => ⟨hhx a ha, (S'.hx a ha).2⟩, ⟨hox _, S'.offs.home, S'.offs.base, S'.offs.frame⟩, S'.nd, S'.fr.kp kI (fun a ha hm => ?_), S'.cap⟩
   ·obtain z : a = I := by exact List.mem_singleton.mp ha
    exact absurd (z ▸ hm) hIx
   ·refine cutG fun P_ hP_ => ?_
    obtain ⟨_, vs, n, hg, hr⟩ := S'.ok.ownKeep kI (one (.head _)) hq fun hm => by
     obtain z : q.1 = I := by exact List.mem_singleton.mp hm
     have : q.1 ∈ (W xs.length).map (·.1) := List.mem_map.mpr ⟨q, hq, rfl⟩
     rw [hWa, z] at this; exact hIo this
    refine hP_ ?_
    clear hP_ P_
    exact ⟨hox _ q.1 (List.mem_map.mpr ⟨q, hq, rfl⟩), vs, n, hg, hr.mono fun a o_ ha e o_ => ⟨fun z => ha (.tail _ z), e⟩⟩
   ·obtain z : a = I := by exact List.mem_singleton.mp hm
    exact hIh (z ▸ ha)
  exact wpAny_mono (done _ hJi S₁) (fun f s'' h => h) fun o_ o_ e => e.elim
theorem ex_forX {M₀ : Model} {A₀ : Around} {env₀ : Env} {x : Str} {px pos : Pos} {iter : Expr} {body orelse : List Stmt} {xs : List D} {V : Nat → List (Str × D)} {W : Nat → List (Addr × List D)} {Ob : List Addr} {Q : Flow → Shared → Prop} {XB : Value → Shared → Prop}
  (S : Sx c s₀ O s) (hsrc : Src c Ob iter xs) (hOb : ∀ a ∈ mine c, a ∈ Ob) (hV : ∀ y d, (V 0).lookup y = some d → c.vars.lookup y = some d) (hW : W 0 = c.own) (hWa : ∀ i, (W i).map (·.1) = ownA c)
  (turn : ∀ i d I s₁ s', xs[i]? = some d → Sx { c with X := I :: c.X, vars := (x, d) :: V i, own := W i } s₁ (mine c) s' →
   wpAny (model c.prog c.w) c.A (execs body c.env) (Turned c s₀ O Q { c with vars := V (i + 1), own := W (i + 1) } I s₁) (fun e s'' => ∃ vars own s₂, own.map (·.1) = ownA c ∧ Sx { c with X := I :: c.X, vars := vars, own := own } s₁ (mine c) s₂ ∧ (Sx { c with vars := vars, own := own } s₀ O s₂ → XB e s'')) s')
  (done : ∀ s', Sx { c with vars := V xs.length, own := W xs.length } s₀ O s' → wpAny (model c.prog c.w) c.A (execs orelse c.env) Q (fun o_ o_ => False) s')
  (hXB : ∀ e s', XB e s' → notedBy (model c.prog c.w) c.A c.env (fun e s'' => cameBackBy (model c.prog c.w) c.A c.env E e s'') e s')
  (hb : mayBind c.env x = true) (hkf : c.env.scope.kind = .function) (ht : letOwnedTupleGo (.Name x px) = fun o_ o_ => pure () := by rfl)
  (hs : ∀ v, foldedSetIterable iter c.env v = pure v := by intro _; rfl) (hM₀ : M₀ = model c.prog c.w := by rfl) (hA₀ : A₀ = c.A := by rfl) (hE₀ : env₀ = c.env := by rfl) : wpAny M₀ A₀ (exec (.For (.Name x px) iter body orelse pos) env₀) Q E s :=
 ex_forJ (fun o_ => True) trivial (XB := XB) S hsrc hOb hV hW hWa (fun i d I s₁ s' o_ hd S' => wpAny_mono (turn i d I s₁ s' hd S') (fun f o_ h => by cases f <;> first | exact ⟨trivial, h⟩ | exact h) fun o_ o_ h => h) (fun s' o_ => done s') hXB hb hkf ht hs hM₀ hA₀ hE₀
theorem ex_for {M₀ : Model} {A₀ : Around} {env₀ : Env} {x : Str} {px pos : Pos} {iter : Expr} {body orelse : List Stmt} {xs : List D} {V : Nat → List (Str × D)} {W : Nat → List (Addr × List D)} {Ob : List Addr} {Q : Flow → Shared → Prop}
  (S : Sx c s₀ O s) (hsrc : Src c Ob iter xs) (hOb : ∀ a ∈ mine c, a ∈ Ob) (hV : ∀ y d, (V 0).lookup y = some d → c.vars.lookup y = some d) (hW : W 0 = c.own) (hWa : ∀ i, (W i).map (·.1) = ownA c)
  (turn : ∀ i d I s₁ s', xs[i]? = some d → Sx { c with X := I :: c.X, vars := (x, d) :: V i, own := W i } s₁ (mine c) s' →
   wpAny (model c.prog c.w) c.A (execs body c.env) (Turned c s₀ O Q { c with vars := V (i + 1), own := W (i + 1) } I s₁) (fun o_ o_ => False) s')
  (done : ∀ s', Sx { c with vars := V xs.length, own := W xs.length } s₀ O s' → wpAny (model c.prog c.w) c.A (execs orelse c.env) Q (fun o_ o_ => False) s')
  (hb : mayBind c.env x = true) (hkf : c.env.scope.kind = .function) (ht : letOwnedTupleGo (.Name x px) = fun o_ o_ => pure () := by rfl)
  (hs : ∀ v, foldedSetIterable iter c.env v = pure v := by intro _; rfl) (hM₀ : M₀ = model c.prog c.w := by rfl) (hA₀ : A₀ = c.A := by rfl) (hE₀ : env₀ = c.env := by rfl) : wpAny M₀ A₀ (exec (.For (.Name x px) iter body orelse pos) env₀) Q E s :=
 ex_forX (XB := fun o_ o_ => False) S hsrc hOb hV hW hWa (fun i d I s₁ s' hd S' => wpAny_mono (turn i d I s₁ s' hd S') (fun o_ o_ h => h) fun o_ o_ h => h.elim) done (fun o_ o_ h => h.elim) hb hkf ht hs hM₀ hA₀ hE₀
theorem ex_whileX {α : Type} {test : Expr} {body orelse : List Stmt} {pos : Pos} {ctx : α → Cx} {μ : α → Nat} {a₀ : α} {Q : Flow → Shared → Prop} {prog : Program} {w : World} {A : Around} {env : Env} {XB : Value → Shared → Prop}
  (hc : ∀ a, (ctx a).prog = prog ∧ (ctx a).w = w ∧ (ctx a).A = A ∧ (ctx a).env = env) (S : Sx (ctx a₀) s₀ O s)
  (turn : ∀ a, ∃ b, Et (ctx a) test b ∧
   (b = true → ∀ s', Sx (ctx a) s₀ O s' → wpAny (model prog w) A (execs body env) (fun f s'' => match f with
    | .next | .cont => ∃ a', μ a' < μ a ∧ Sx (ctx a') s₀ O s''
    | .brk => Q .next s''
    | .ret v => Q (.ret v) s'') XB s') ∧
   (b = false → ∀ s', Sx (ctx a) s₀ O s' → wpAny (model prog w) A (execs orelse env) Q XB s'))
  (hXB : ∀ e s', XB e s' → notedBy (model prog w) A env (fun e s'' => cameBackBy (model prog w) A env E e s'') e s') :
  wpAny (model prog w) A (exec (.While test body orelse pos) env) Q E s := by
 refine wpAny_While (codeAny_whileLoop (R := fun r s' => match r with | .ok f => Q f s' | .error e => cameBackBy (model prog w) A env E e s') (fun n s' => ∃ a, μ a = n ∧ Sx (ctx a) s₀ O s') ?_ (μ a₀) ⟨a₀, rfl, S⟩)
 rintro n s' ⟨a, rfl, S'⟩
 refine cutG fun P_ hP_ => ?_
 obtain ⟨b, ht, h1, h2⟩ := turn a
 obtain ⟨e1, e2, e3, e4⟩ := hc a
 refine hP_ ?_
 clear hP_ P_
 have key := ht s' (notedBy (model prog w) A env fun e s' => cameBackBy (model prog w) A env E e s') S'.ok
 rw [e1, e2, e3, e4] at key
 refine wpAny_mono key (fun r s₁ hr => ?_) fun o_ o_ e => e
 obtain ⟨k, rfl⟩ := hr
 cases r with
 | true =>
  dsimp only [if_true]
  refine wpAny_mono (h1 rfl s₁ (S'.step k)) (fun f s₂ hf => ?_) fun o_ o_ e => hXB _ _ e
  cases f with
  | next => obtain ⟨a', hm, S2⟩ := hf; exact ⟨μ a', hm, a', rfl, S2⟩
  | cont => obtain ⟨a', hm, S2⟩ := hf; exact ⟨μ a', hm, a', rfl, S2⟩
  | brk => exact hf
  | ret v => exact hf
 | false =>
  dsimp only [Bool.false_eq_true, if_false]
  exact wpAny_mono (h2 rfl s₁ (S'.step k)) (fun f s₂ hf => hf) fun o_ o_ e => hXB _ _ e
theorem ex_while {α : Type} {test : Expr} {body orelse : List Stmt} {pos : Pos} {ctx : α → Cx} {μ : α → Nat} {a₀ : α} {Q : Flow → Shared → Prop} {prog : Program} {w : World} {A : Around} {env : Env}
  (hc : ∀ a, (ctx a).prog = prog ∧ (ctx a).w = w ∧ (ctx a).A = A ∧ (ctx a).env = env) (S : Sx (ctx a₀) s₀ O s)
  (turn : ∀ a, ∃ b, Et (ctx a) test b ∧
   (b = true → ∀ s', Sx (ctx a) s₀ O s' → wpAny (model prog w) A (execs body env) (fun f s'' => match f with
    | .next | .cont => ∃ a', μ a' < μ a ∧ Sx (ctx a') s₀ O s''
    | .brk => Q .next s''
    | .ret v => Q (.ret v) s'') (fun o_ o_ => False) s') ∧
   (b = false → ∀ s', Sx (ctx a) s₀ O s' → wpAny (model prog w) A (execs orelse env) Q (fun o_ o_ => False) s')) :
  wpAny (model prog w) A (exec (.While test body orelse pos) env) Q E s :=
 ex_whileX (XB := fun o_ o_ => False) hc S turn fun o_ o_ h => h.elim
end
end Mine
end
section
open PySem PySem.W PyProof.Rows
namespace Mine
open PySem.Calls
theorem bindL_skip (k : Str → Option NameKind) (x : Str) : ∀ (binds : List (Str × Value)) (m : Str → Option Value), x ∉ binds.map (·.1) → bindL k binds m x = m x
 | [], _, _ => rfl
 | (n, v) :: r, m, h => by
  obtain h1 : x ≠ n := fun e => h (by rw [e]; exact .head _)
  rw [bindL, bindL_skip k x r _ fun z => h (.tail _ z)]
  split
  ·simp [h1]
  ·rfl
theorem bindC_skip (k : Str → Option NameKind) (x : Str) : ∀ (binds : List (Str × Value)) (m : Str → Option Value), x ∉ binds.map (·.1) → bindC k binds m x = m x
 | [], _, _ => rfl
 | (n, v) :: r, m, h => by
  obtain h1 : x ≠ n := fun e => h (by rw [e]; exact .head _)
  rw [bindC, bindC_skip k x r _ fun z => h (.tail _ z)]
  split
  ·rfl
  ·simp [h1]
theorem bindL_get (k : Str → Option NameKind) {x : Str} {v : Value} (hk : k x = some .local) : ∀ (binds : List (Str × Value)) (m : Str → Option Value), (binds.map (·.1)).Nodup → binds.lookup x = some v → bindL k binds m x = some v
 | [], _, _, h => by cases h
 | (n, u) :: r, m, hn, h => by
  rw [List.map_cons, List.nodup_cons] at hn
  rw [List.lookup_cons] at h
  rw [bindL]
  cases q : x == n with
  | true =>
   rw [q] at h; cases h
   obtain e := eq_of_beq q; subst e
   rw [bindL_skip k x r _ hn.1, if_pos hk]; simp
  | false => rw [q] at h; exact bindL_get k hk r _ hn.2 h
theorem bindC_get (k : Str → Option NameKind) {x : Str} {v : Value} (hk : k x = some .cell) : ∀ (binds : List (Str × Value)) (m : Str → Option Value), (binds.map (·.1)).Nodup → binds.lookup x = some v → bindC k binds m x = some v
 | [], _, _, h => by cases h
 | (n, u) :: r, m, hn, h => by
  rw [List.map_cons, List.nodup_cons] at hn
  rw [List.lookup_cons] at h
  rw [bindC]
  cases q : x == n with
  | true =>
   rw [q] at h; cases h
   obtain e := eq_of_beq q; subst e
   rw [bindC_skip k x r _ hn.1, if_neg (by rw [hk]; intro z; cases z)]; simp
  | false => rw [q] at h; exact bindC_get k hk r _ hn.2 h
theorem lookup_rep {X : List Addr} {h : Heap} : ∀ {bd : List (Str × D)} {binds : List (Str × Value)}, bd.map (·.1) = binds.map (·.1) → RepAll X h (bd.map (·.2)) (binds.map (·.2)) → ∀ {x : Str} {d : D}, bd.lookup x = some d → ∃ v, binds.lookup x = some v ∧ Rep X h d v
 | [], _, _, _, _, _, e => by cases e
 | (n, d) :: bd, [], he, _, _, _, _ => by cases he
 | (n, d) :: bd, (n', v) :: binds, he, hr, x, d', e => by
  simp only [List.map_cons, List.cons.injEq] at he
  refine cutG fun P_ hP_ => ?_
  obtain ⟨v', r', e', h1, h2⟩ := hr
  simp only [List.map_cons, List.cons.injEq] at e'
  obtain ⟨rfl, rfl⟩ := e'
  refine hP_ ?_
  clear hP_ P_
  rw [List.lookup_cons] at e ⊢
  rw [← he.1]
  cases q : x == n with
  | true => rw [q] at e; cases e; exact ⟨v, rfl, h1⟩
  | false => rw [q] at e; exact lookup_rep he.2 h2 e
theorem pairwise_lookup {cs : List (Str × Addr)} (h : cs.Pairwise fun x y => x.2 ≠ y.2) {x y : Str} {a b : Addr} (hx : cs.lookup x = some a) (hy : cs.lookup y = some b) (hne : x ≠ y) : a ≠ b := by
 obtain h1 := VarAt.kp.mem_of_lookup_some hx
 obtain h2 := VarAt.kp.mem_of_lookup_some hy
 clear hx hy
 induction h with
 | nil => cases h1
 | cons hp _ ih =>
  rcases List.mem_cons.mp h1 with e1 | e1
  ·rcases List.mem_cons.mp h2 with e2 | e2
   ·rw [← e1] at e2; cases e2; exact absurd rfl hne
   ·rw [← e1] at hp; exact hp _ e2
  ·rcases List.mem_cons.mp h2 with e2 | e2
   ·rw [← e2] at hp; exact Ne.symm (hp _ e1)
   ·exact ih e1 e2
theorem mem_of_lookup' {β : Type} {l : List (Str × β)} {x : Str} {b : β} (h : l.lookup x = some b) : (x, b) ∈ l := by
 induction l with
 | nil => cases h
 | cons p r ih =>
  obtain ⟨y, b'⟩ := p
  rw [List.lookup_cons] at h
  cases q : x == y with
  | true => rw [q] at h; cases h; rw [eq_of_beq q]; exact .head _
  | false => rw [q] at h; exact .tail _ (ih h)
noncomputable abbrev fnEnv (qual : Str) (scope : Scope) (L f : Addr) (cdv : Value) : Env := envX qual scope L f cdv (cellsFrom (L + 1) scope.names [])
noncomputable def fnCx (c : Cx) (env : Env) (bd : List (Str × D)) (ow : List (Addr × List D)) : Cx :=
 { c with A := c.A.deeper env, env := env, X := homes env ++ c.X, vars := bd, own := ow }
structure FnAt (hb : Heap) (f : Addr) (qual : Str) (params : Arguments) (body : List Stmt) (scope : Scope) (dV kV cdv : Value) : Prop where
 obj : ∃ fo name doc pm an ct, hb.get? f = some fo ∧ fo.data = .func (fnX name qual params body scope [] dV kV doc pm an cdv ct)
 code : hb.CodeRec cdv qual
 nolimit : hb.NoLimit
theorem enter_fn {c : Cx} {s : Shared} {f : Addr} {qual : Str} {params : Arguments} {body : List Stmt} {scope : Scope} {dV kV cdv : Value} (F : FnAt c.hb f qual params body scope dV kV cdv) {args : Args} {binds : List (Str × Value)} {bd : List (Str × D)} {ow : List (Addr × List D)} {R : Result → Shared → Prop} {k : Nat}
  (o : Ok c s) (hr : Room c.A (k + 1)) (hbind : ∀ name doc pm an ct, BindsTo s (fnX name qual params body scope [] dV kV doc pm an cdv ct) args binds) (hnames : bd.map (·.1) = binds.map (·.1)) (hrep : RepAll c.X s.heap (bd.map (·.2)) (binds.map (·.2)))
  (hnd : (bd.map (·.1)).Nodup) (hkind : ∀ n, (bd.all fun y => scope.names.lookup y.1 == some .local || (scope.names.lookup y.1 == some .cell && ((cellsFrom n scope.names []).lookup y.1).isSome)) = true)
  (how : ∀ p ∈ ow, p ∈ c.own) (hond : (ow.map (·.1)).Nodup) (hoff : Off c (ow.map (·.1)))
  (h : ∀ L s₁, s.heap.get? L = none → Sx (fnCx c (fnEnv qual scope L f cdv) bd ow) s (ow.map (·.1)) s₁ →
   wpAny (model c.prog c.w) (c.A.deeper (fnEnv qual scope L f cdv)) (execs body (fnEnv qual scope L f cdv)) (fun fl s' => R (.ok (.ret (match fl with | .ret v => v | _ => .none))) s')
    (fun e s' => wpAny (model c.prog c.w) (c.A.deeper (fnEnv qual scope L f cdv)) (leaving (fnEnv qual scope L f cdv) e) (fun o_ s'' => R (.error e) s'') (fun e' s'' => R (.error e') s'') s') s₁)
  (hcnd : ((cellsFrom 0 scope.names []).map (·.1)).Nodup) (hco : scope.isCoroutine = false) (hgen : scope.isGenerator = false) (hk : scope.kind = .function) : codeAny (model c.prog c.w) c.A (.call (.ref f) args) R s := by
 obtain ⟨fo, name, doc, pm, an, ct, hfo, hfd⟩ := F.obj
 have hkind' : ∀ n, ∀ x ∈ binds, scope.names.lookup x.1 = some .local ∨ (scope.names.lookup x.1 = some .cell ∧ ((cellsFrom n scope.names []).lookup x.1).isSome = true) := fun n x hx => by
  obtain hm : x.1 ∈ bd.map (·.1) := by rw [hnames]; exact List.mem_map.mpr ⟨x, hx, rfl⟩
  obtain ⟨y, hy, e⟩ := List.mem_map.mp hm
  have := List.all_eq_true.mp (hkind n) y hy
  simp only [Bool.or_eq_true, Bool.and_eq_true, beq_iff_eq] at this
  rw [e] at this; exact this
 refine codeAny_call_function hr.depth (o.base _ _ hfo) hfd hco hgen rfl (F.code.keeps o.base) (hbind _ _ _ _ _ _ _ _ _ ?_)
 refine wpAny_newFunctionEnv_cells hk (hkind' _) fun env' he s' x => ?_
 subst he
 refine ⟨(F.nolimit.keeps o.base).keeps x.toInCall.keep, codeAny_func ?_⟩
 obtain ⟨h₁, tk, rfl, hkeep⟩ := x.done
 have k01 : Kp c.hb [] s { s with heap := h₁, toks := tk } := ⟨h₁, tk, rfl, fun b ob e o_ => .inl (hkeep b ob e)⟩
 have hL : s.heap.get? s.heap.objs.size = none := Heap.get?_none_of_le (Nat.le_refl _)
 have hhome : ∀ a ∈ homes (fnEnv qual scope s.heap.objs.size f cdv), s.heap.get? a = none := fun a ha => by
  rcases List.mem_cons.mp ha with e | ha
  ·rw [e]; exact hL
  ·obtain ⟨p, hp, e⟩ := List.mem_map.mp ha
   have := x.above p.1 p.2 hp
   rw [← e]; exact Heap.get?_none_of_le (Nat.le_of_lt this)
 obtain hcellex : ∀ p ∈ cellsFrom (s.heap.objs.size + 1) scope.names [], ∃ ob, h₁.get? p.2 = some ob := fun p hp => by
  obtain ⟨ob, e, _⟩ := x.cell p.1 p.2 (lookup_of_mem_nodup (cellsFrom_names scope.names 0 (s.heap.objs.size + 1) [] [] rfl ▸ hcnd) hp)
  exact ⟨ob, e⟩
 have hhomex : ∀ a ∈ homes (fnEnv qual scope s.heap.objs.size f cdv), ∃ ob, h₁.get? a = some ob := fun a ha => by
  rcases List.mem_cons.mp ha with e | ha
  ·rw [e]; obtain ⟨ob, _, _, e', _⟩ := x.toInCall.ns; exact ⟨ob, e'⟩
  ·obtain ⟨p, hp, e⟩ := List.mem_map.mp ha
   rw [← e]; exact hcellex p hp
 have o1 := o.kp k01
 refine h s.heap.objs.size { s with heap := h₁, toks := tk } hL ⟨⟨o1.base, ?_, fun a ha => ?_, fun y d hy => ?_, fun p hp => ?_, fun a ha => ?_⟩, k01.weaken (fun o_ h => (nomatch h)), fun a ha => ?_, fun a ha => ⟨List.mem_append_left _ ha, ?_⟩, ⟨fun a ha => ?_, fun a ha hm => ?_, hoff.base, fun a ha hm => ?_⟩, hond, ⟨⟨_, x.toInCall.ns⟩, fun y cc hc => ⟨_, x.cell y cc hc⟩⟩, fun y z a b ha hb' hne => pairwise_lookup x.apart ha hb' hne⟩
 ·obtain ⟨l, hl, hf⟩ := o1.frames
  refine ⟨_, Around.frames_deeper hl, ?_⟩
  obtain ⟨oL, es, ep, e, hd, _⟩ := x.toInCall.ns
  refine ⟨⟨by show scope.kind ≠ .module; rw [hk]; decide, ⟨s.heap.objs.size, oL, rfl, ?_, e, fun vs => by rw [hd]; intro z; cases z⟩, hf.1⟩, fun a ha => ?_⟩
  rotate_left
  ·rcases List.mem_cons.mp (show a ∈ s.heap.objs.size :: l.filterMap (·.frame) from ha) with z | z
   ·rw [z]; exact ⟨oL, es, ep, e, hd⟩
   ·exact hf.2 a z
  show c.hb.get? s.heap.objs.size = none
  cases q : c.hb.get? s.heap.objs.size with
  | none => rfl
  | some ob => have := o.base _ _ q; exact no_some (hL.symm.trans this)
 ·rcases List.mem_append.mp ha with z | z
  ·exact hhomex a z
  ·exact o1.xin a z
 ·obtain ⟨v, hv, hr'⟩ := lookup_rep hnames hrep hy
  refine ⟨v, ?_, ?_⟩
  ·have hm : (y, v) ∈ binds := mem_of_lookup' hv
   rcases hkind' (s.heap.objs.size + 1) _ hm with q | ⟨q1, q2⟩
   ·exact .inl ⟨q, _, x.toInCall.ns, bindL_get _ q _ _ (by rw [← hnames]; exact hnd) hv⟩
   ·obtain ⟨cc, hcc⟩ := Option.isSome_iff_exists.mp q2
    refine .inr ⟨.inl q1, cc, hcc, ?_⟩
    have := x.cell y cc hcc
    rw [bindC_get _ q1 _ _ (by rw [← hnames]; exact hnd) hv] at this
    exact this
  ·exact hr'.mono fun a ob ha e hnf => ⟨fun hm => by
    rcases List.mem_append.mp hm with z | z
    ·rw [hhome a z] at e; cases e
    ·exact ha z, hkeep a ob e⟩
 ·obtain ⟨hx, vs, n, hg, hr'⟩ := o.own p (how p hp)
  exact ⟨List.mem_append_right _ hx, vs, n, hkeep _ _ hg, hr'.mono fun a ob ha e hnf => ⟨fun hm => by
    rcases List.mem_append.mp hm with z | z
    ·rw [hhome a z] at e; cases e
    ·exact ha z, hkeep a ob e⟩⟩
 ·exact hhomex a ha
 ·rcases List.mem_append.mp ha with z | z
  ·exact .inr (hhome a z)
  ·exact .inl z
 ·show c.hb.get? a = none
  cases q : c.hb.get? a with
  | none => rfl
  | some ob => have := o.base _ _ q; rw [hhome a ha] at this; cases this
 ·obtain ⟨p, hp, e⟩ := List.mem_map.mp ha
  rw [← e]; exact List.mem_append_right _ (o.own p (how p hp)).1
 ·obtain ⟨p, hp, e⟩ := List.mem_map.mp ha
  obtain ⟨_, vs, n, hg, _⟩ := o.own p (how p hp)
  rw [e, hhome a hm] at hg; cases hg
 ·obtain hm' : a = s.heap.objs.size ∨ a ∈ framesOf c.A := by
   unfold framesOf at hm ⊢
   obtain ⟨l, hl, hf⟩ := o.frames
   rw [show (fnCx c (fnEnv qual scope s.heap.objs.size f cdv) bd ow).A.frames = _ from Around.frames_deeper hl] at hm
   rw [hl]
   rcases List.mem_cons.mp hm with e | z
   ·exact .inl e
   ·exact .inr z
  rcases hm' with e | z
  ·obtain ⟨p, hp, e'⟩ := List.mem_map.mp ha
   obtain ⟨_, vs, n, hg, _⟩ := o.own p (how p hp)
   rw [e', e, hL] at hg; cases hg
  ·exact hoff.frame a ha z
end Mine
end
section
open PySem PySem.W PyProof.Rows
namespace Mine
open PySem.Calls
theorem Rep.sub {X X' : List Addr} {h : Heap} {d : D} {v : Value} (r : Rep X' h d v) (hs : ∀ a ∈ X, a ∈ X') : Rep X h d v := r.mono fun a o_ ha e o_ => ⟨fun z => ha (hs a z), e⟩
theorem RepAll.sub {X X' : List Addr} {h : Heap} {d : List D} {v : List Value} (r : RepAll X' h d v) (hs : ∀ a ∈ X, a ∈ X') : RepAll X h d v := r.mono fun a o_ ha e o_ => ⟨fun z => ha (hs a z), e⟩
noncomputable def RetP (c : Cx) (s : Shared) (d : D) (fl : Flow) (s' : Shared) : Prop := ∃ v, fl = .ret v ∧ Kp c.hb [] s s' ∧ Rep c.X s'.heap d v
theorem callP_fn {c : Cx} {f : Addr} {qual : Str} {params : Arguments} {body : List Stmt} {scope : Scope} {dV kV cdv : Value} (F : FnAt c.hb f qual params body scope dV kV cdv) {bd : List (Str × D)} {ds : List D} {d : D} {k : Nat} (hr : Room c.A (k + 1))
  (hbind : ∀ s vs, Ok c s → RepAll c.X s.heap ds vs → ∃ binds : List (Str × Value), (∀ name doc pm an ct, BindsTo s (fnX name qual params body scope [] dV kV doc pm an cdv ct) ⟨vs, []⟩ binds) ∧ bd.map (·.1) = binds.map (·.1) ∧ RepAll c.X s.heap (bd.map (·.2)) (binds.map (·.2)))
  (h : ∀ L s s₁, Ok c s → Sx (fnCx c (fnEnv qual scope L f cdv) bd []) s [] s₁ → wpAny (model c.prog c.w) (c.A.deeper (fnEnv qual scope L f cdv)) (execs body (fnEnv qual scope L f cdv)) (RetP c s d) (fun o_ o_ => False) s₁)
  (hnd : (bd.map (·.1)).Nodup) (hkind : ∀ n, (bd.all fun y => scope.names.lookup y.1 == some .local || (scope.names.lookup y.1 == some .cell && ((cellsFrom n scope.names []).lookup y.1).isSome)) = true)
  (hcnd : ((cellsFrom 0 scope.names []).map (·.1)).Nodup) (hco : scope.isCoroutine = false) (hgen : scope.isGenerator = false) (hk : scope.kind = .function) : CallP c (.ref f) ds d := fun s E vs o hv => by
 obtain ⟨binds, hb, hn, hrep⟩ := hbind s vs o hv
 refine wpAny_call (enter_fn F (ow := []) o hr hb hn hrep hnd hkind (fun o_ h => (nomatch h)) List.nodup_nil ⟨fun o_ h => (nomatch h), fun o_ h => (nomatch h), fun o_ h => (nomatch h), fun o_ h => (nomatch h)⟩ (fun L s₁ o_ S => ?_) hcnd hco hgen hk)
 refine wpAny_mono (h L s s₁ o S) (fun fl s' q => ?_) fun o_ o_ e => e.elim
 obtain ⟨v, rfl, k', r⟩ := q
 exact ⟨k', r⟩
noncomputable def stAt (i : Nat) : Stmt := (Challenge.pw_op0050_01.main.body[i]?).getD (.Pass ⟨0, 0, 0, 0⟩)
noncomputable def fBody (i : Nat) : List Stmt := match stAt i with | .FunctionDef _ _ b _ _ _ _ _ _ _ => b | _ => []
noncomputable def fArgs (i : Nat) : Arguments := match stAt i with | .FunctionDef _ a _ _ _ _ _ _ _ _ => a | _ => ⟨[], [], none, [], [], none, []⟩
noncomputable def fScope (i : Nat) : Scope := match stAt i with | .FunctionDef _ _ _ _ _ _ s _ _ _ => s | _ => { kind := .module, names := [] , isGenerator := false, isCoroutine := false }
noncomputable def fName (i : Nat) : Str := match stAt i with | .FunctionDef n _ _ _ _ _ _ _ _ _ => n | _ => ""
end Mine
end
section
open PySem PySem.W PyProof.Rows
namespace Mine
open PySem.Calls
inductive OwnUpd (a : Addr) (ds ds' : List D) : List (Addr × List D) → List (Addr × List D) → Prop
 | head {r : List (Addr × List D)} : OwnUpd a ds ds' ((a, ds) :: r) ((a, ds') :: r)
 | tail {p : Addr × List D} {r r' : List (Addr × List D)} : OwnUpd a ds ds' r r' → OwnUpd a ds ds' (p :: r) (p :: r')
theorem OwnUpd.mem {a : Addr} {ds ds' : List D} {l l' : List (Addr × List D)} (u : OwnUpd a ds ds' l l') : (a, ds) ∈ l := by
 induction u with
 | head => exact .head _
 | tail _ ih => exact .tail _ ih
theorem OwnUpd.keys {a : Addr} {ds ds' : List D} {l l' : List (Addr × List D)} (u : OwnUpd a ds ds' l l') : l'.map (·.1) = l.map (·.1) := by
 induction u with
 | head => rfl
 | tail _ ih => simp [ih]
theorem OwnUpd.cases {a : Addr} {ds ds' : List D} {l l' : List (Addr × List D)} (u : OwnUpd a ds ds' l l') (nd : (l.map (·.1)).Nodup) : ∀ p ∈ l', p = (a, ds') ∨ (p ∈ l ∧ p.1 ≠ a) := by
 induction u with
 | head =>
  intro p hp
  rw [List.map_cons, List.nodup_cons] at nd
  rcases List.mem_cons.mp hp with e | e
  ·exact .inl e
  ·exact .inr ⟨.tail _ e, fun z => nd.1 (z ▸ List.mem_map.mpr ⟨p, e, rfl⟩)⟩
 | tail u ih =>
  intro p hp
  rw [List.map_cons, List.nodup_cons] at nd
  rcases List.mem_cons.mp hp with e | e
  ·subst e
   refine .inr ⟨.head _, fun z => nd.1 ?_⟩
   rw [z]; exact List.mem_map.mpr ⟨_, u.mem, rfl⟩
  ·rcases ih nd.2 p e with z | z
   ·exact .inl z
   ·exact .inr ⟨.tail _ z.1, z.2⟩
section
variable {c : Cx} {s₀ s : Shared} {O : List Addr} {E : Value → Shared → Prop}
theorem Sx.turn {a : Addr} {ds ds' : List D} {own' : List (Addr × List D)} {s' : Shared} (S : Sx c s₀ O s) (u : OwnUpd a ds ds' c.own own') (k : Kp c.hb [a] s s') (h : ∃ ys n, s'.heap.get? a = some (listO ys n) ∧ RepAll c.X s'.heap ds' ys) : Sx { c with own := own' } s₀ O s' := by
 have hm : a ∈ ownA c := List.mem_map.mpr ⟨_, u.mem, rfl⟩
 have one : ∀ {P : Addr → Prop}, P a → ∀ b ∈ [a], P b := fun {P} h b hb => by exact all_one (h) _ hb
 have hk : ownA { c with own := own' } = ownA c := u.keys
 refine cutG fun P_ hP_ => ?_
 obtain ⟨ys, n, hg, hr⟩ := h
 refine hP_ ?_
 clear hP_ P_
 refine ⟨S.ok.off k ⟨one (S.offs.x a hm), one (S.offs.home a hm), one (S.offs.base a hm), one (S.offs.frame a hm)⟩ (fun b hb => by obtain rfl := mem_1 hb; exact ⟨_, hg⟩) (fun p hp => ?_), S.kp.join k (one (S.free a (List.mem_append_right _ hm))), ?_, S.hx, ?_, by rw [hk]; exact S.nd, S.fr.kp k (fun b hb hm' => ?_), S.cap⟩
 ·rcases u.cases S.nd p hp with z | z
  ·subst z; exact ⟨S.offs.x a hm, ys, n, hg, hr⟩
  ·exact S.ok.ownKeep k (one (S.offs.x a hm)) z.1 (fun y => by exact z.2 (List.mem_singleton.mp y))
 ·intro b hb
  have hb' : b ∈ homes c.env ++ ownA { c with own := own' } := hb
  rw [hk] at hb'; exact S.free b hb'
 ·have := S.offs
  exact ⟨fun b hb => this.x b (hk ▸ hb), fun b hb => this.home b (hk ▸ hb), fun b hb => this.base b (hk ▸ hb), fun b hb => this.frame b (hk ▸ hb)⟩
 ·obtain z : b = a := by exact List.mem_singleton.mp hm'
  exact S.offs.home a hm (z ▸ hb)
theorem updSeq_kp {hb : Heap} {s : Shared} {a : Addr} {ys : List Value} {n : Nat} {g : Array Value → Array Value} (hg : s.heap.get? a = some (listO ys n)) (t : Nat) :
  Kp hb [a] s { s with heap := s.heap.update a (Obj.mapSeq g), toks := t } ∧ ∃ n', (s.heap.update a (Obj.mapSeq g)).get? a = some (listO (g ys.toArray).toList n') := by
 refine ⟨⟨_, t, rfl, fun b o e hb => .inl (((Heap.SameBut.update s.heap a (Obj.mapSeq g)).2 b (fun q => hb (by rw [q]; exact .head _))).trans e)⟩, (if (g ys.toArray).size == ys.toArray.size then n else n + 1), ?_⟩
 have : Obj.mapSeq g (listO ys n) = listO (g ys.toArray).toList (if (g ys.toArray).size == ys.toArray.size then n else n + 1) := by
  simp [Obj.mapSeq, listO]
 rw [← this]
 exact Heap.get?_update_self _ hg (by rw [this]; rfl)
noncomputable def MethJ (c : Cx) (a : Addr) (id : String) (ds es : List D) (d : D) (ds' : List D) : Prop :=
 ∀ s E ys n vs, Ok c s → s.heap.get? a = some (listO ys n) → RepAll c.X s.heap ds ys → RepAll c.X s.heap es vs → wpAny (model c.prog c.w) c.A (call (.builtin id) (.ref a :: vs)) (fun v s' => Kp c.hb [a] s s' ∧ (∃ ys' n', s'.heap.get? a = some (listO ys' n') ∧ RepAll c.X s'.heap ds' ys') ∧ Rep c.X s'.heap d v) E s
theorem meth_append {a : Addr} {ds : List D} {d : D} (hx : a ∈ c.X) (hsz : ds.length ≤ sizeLine) : MethJ c a "list.append" ds [d] .none (ds ++ [d]) := fun s E ys n vs o hg hr hv => by
 obtain ⟨v, _, rfl, h1, rfl⟩ := hv
 have one : ∀ b ∈ [a], b ∈ c.X := fun b hb => by exact all_one (hx) _ hb
 refine wpAny_list_append_plain (hsz := by rw [List.size_toArray, hr.length]; exact hsz) ⟨n, hg⟩ fun h' hl hs => ?_
 obtain k : Kp c.hb [a] s { s with heap := h' } := sameBut_kp (s := s) hs s.toks
 obtain ⟨n', e⟩ := hl
 exact ⟨k, ⟨ys ++ [v], n', by simpa [listO] using e, (k.repAll one hr).append (.cons (k.rep one h1) rfl)⟩, rfl⟩
theorem remove_first {α : Type} [DecidableEq α] (l : List α) (x : α) (h : x ∈ l) : ∃ j, ∃ hj : j < l.length, l[j] = x ∧ (∀ m (hm : m < l.length), m < j → l[m] ≠ x) ∧ l.erase x = l.eraseIdx j := by
 induction l with
 | nil => cases h
 | cons y r ih =>
  by_cases e : y = x
  ·subst e; exact ⟨0, by simp, rfl, fun m o_ hm => absurd hm (Nat.not_lt_zero _), by simp⟩
  ·obtain ⟨j, hj, h1, h2, h3⟩ := ih ((List.mem_cons.mp h).resolve_left (fun z => e z.symm))
   refine ⟨j + 1, by simpa using hj, by simpa using h1, fun m hm hmj => ?_, ?_⟩
   ·cases m with
    | zero => simpa using e
    | succ m => simpa using h2 m (by simpa using hm) (by grind)
   ·rw [List.erase_cons]; simp [e, h3]
set_option genInjectivity false in
set_option genSizeOf false in
structure Scal (α : Type) [DecidableEq α] where
 d : α → D
 is : α → Value → Bool
 rd : ∀ (X : List Addr) (h : Heap) (x z : α) (u : Value), Rep X h (d z) u → is x u = decide (z = x)
 gives : ∀ (X : List Addr) (h : Heap) (x z : α) (u v : Value), Rep X h (d z) u → Rep X h (d x) v → MeetsSeq.EqGives u v (is x u)
noncomputable def scalInt : Scal Int where
 d := .int
 is := fun x u => match u with | .int i _ => i == x | _ => false
 rd := fun X h x z u r => by obtain ⟨t, rfl⟩ := r; simp [Bool.beq_eq_decide_eq]
 gives := fun X h x z u v r r' => by obtain ⟨t, rfl⟩ := r; obtain ⟨t', rfl⟩ := r'; exact MeetsSeq.EqGives.int z x t t'
set_option tactic.hygienic true in
theorem str_beq (x y : Str) : (x.cps.toList == y.cps.toList) = decide (x = y) := by
 cases x; cases y
 rename_i a b
 by_cases h : a = b
 ·subst h; simp
 ·obtain this : a.toList ≠ b.toList := fun e => h (Array.ext' e)
  simp [h, this]
noncomputable def scalStr : Scal Str where
 d := .str
 is := fun x u => match u with | .str i _ => i.cps.toList == x.cps.toList | _ => false
 rd := fun X h x z u r => by obtain ⟨t, rfl⟩ := r; exact str_beq z x
 gives := fun X h x z u v r r' => by obtain ⟨t, rfl⟩ := r; obtain ⟨t', rfl⟩ := r'; exact SeqRoads2.EqGives.str z x t t'
theorem scal_at {α : Type} [DecidableEq α] (K : Scal α) {X : List Addr} {h : Heap} {l : List α} {ys : List Value} (hr : RepAll X h (l.map K.d) ys) : ∀ y ∈ ys, ∃ z ∈ l, Rep X h (K.d z) y := fun y hy => by
 refine cutG fun P_ hP_ => ?_
 obtain ⟨i, hi, e⟩ := List.mem_iff_getElem.mp hy
 have hl := hr.length
 rw [List.length_map] at hl
 have hi' : i < l.length := by grind
 obtain ⟨v, hv, r⟩ := hr.get (i := i) (d := K.d l[i]) (by simp [hi'])
 refine hP_ ?_
 clear hP_ P_
 rw [List.getElem?_eq_getElem hi] at hv
 cases hv
 exact ⟨_, List.getElem_mem _, e ▸ r⟩
theorem scal_get {α : Type} [DecidableEq α] (K : Scal α) {X : List Addr} {h : Heap} {l : List α} {ys : List Value} (hr : RepAll X h (l.map K.d) ys) {i : Nat} (hi : i < ys.length) (hi' : i < l.length) : Rep X h (K.d l[i]) ys[i] := by
 obtain ⟨v, hv, r⟩ := hr.get (i := i) (d := K.d l[i]) (by simp [List.getElem?_map, hi'])
 rw [List.getElem?_eq_getElem hi] at hv
 cases hv; exact r
theorem RepAll.eraseIdx {X : List Addr} {h : Heap} : ∀ {ds : List D} {vs : List Value} (j : Nat), RepAll X h ds vs → RepAll X h (ds.eraseIdx j) (vs.eraseIdx j)
 | [], _, _, r => by cases r; exact rfl
 | _ :: _, _, 0, r => by obtain ⟨v, r', rfl, h1, h2⟩ := r; exact h2
 | _ :: _, _, j + 1, r => by obtain ⟨v, r', rfl, h1, h2⟩ := r; exact ⟨v, _, rfl, h1, RepAll.eraseIdx j h2⟩
theorem meth_remove {α : Type} [DecidableEq α] (K : Scal α) {a : Addr} {l : List α} {x : α} (hx : a ∈ c.X) (hm : x ∈ l) (hsz : l.length ≤ sizeLine) : MethJ c a "list.remove" (l.map K.d) [K.d x] .none ((l.erase x).map K.d) := fun s E ys n vs o hg hr hv => by
 refine cutG fun P_ hP_ => ?_
 obtain ⟨v, _, rfl, h1, rfl⟩ := hv
 obtain one : ∀ b ∈ [a], b ∈ c.X := fun b hb => by exact all_one (hx) _ hb
 obtain ⟨j, hj, e1, e2, e3⟩ := remove_first l x hm
 refine hP_ ?_
 clear hP_ P_
 obtain hl := hr.length
 rw [List.length_map] at hl
 refine call_meets PySem.F.slot_list_remove ⟨_, hg, rfl⟩ PySem.F.entry_list_remove (PySem.F.args_list_remove_2 _ _)
  (MeetsSeq.list_remove a ys.toArray n v (K.is x) (fun y hy => ?_) j (by rw [List.size_toArray]; grind) ?_ (fun m hm hmj => ?_) (by rw [List.size_toArray, hl]; exact hsz)) ⟨hg, ?_⟩
 ·obtain ⟨z, _, r⟩ := scal_at K hr y (by simpa using hy)
  exact K.gives _ _ x z y v r h1
 ·obtain r := scal_get K hr (i := j) (by grind) hj
  rw [List.getElem_toArray, K.rd _ _ x _ _ r, e1]; simp
 ·obtain hm' : m < ys.length := by simpa using hm
  obtain r := scal_get K hr (i := m) hm' (by grind)
  rw [List.getElem_toArray, K.rd _ _ x _ _ r]
  exact decide_eq_false (e2 m (by grind) hmj)
 ·obtain ⟨k, n', e⟩ := updSeq_kp (hb := c.hb) (g := fun xs => xs.eraseIdxIfInBounds j) hg s.toks
  refine ⟨k, ⟨ys.eraseIdx j, n', ?_, ?_⟩, rfl⟩
  ·rw [e]
   congr 2
   rw [Array.eraseIdxIfInBounds_eq]
   simp [hl, hj]
  ·obtain em : ∀ (l : List α) (j : Nat), (l.eraseIdx j).map K.d = (l.map K.d).eraseIdx j := fun l => by
    induction l with
    | nil => intro j; rfl
    | cons z r ih =>
     intro j
     cases j with
     | zero => rfl
     | succ j => simp [ih]
   rw [e3, em]
   exact (k.repAll one hr).eraseIdx j
theorem meth_pop {a : Addr} {ds : List D} {d : D} (hx : a ∈ c.X) (hsz : ds.length < sizeLine) : MethJ c a "list.pop" (ds ++ [d]) [] d ds := fun s E ys n vs o hg hr hv => by
 cases hv
 have one : ∀ b ∈ [a], b ∈ c.X := fun b hb => by exact all_one (hx) _ hb
 refine cutG fun P_ hP_ => ?_
 obtain ⟨us, ws, rfl, h1, v, _, rfl, h2, rfl⟩ := hr.split
 refine hP_ ?_
 clear hP_ P_
 obtain hl := h1.length
 refine call_meets PySem.F.slot_list_pop ⟨_, hg, rfl⟩ PySem.F.entry_list_pop (PySem.F.args_list_pop_1 _)
  (MeetsSeq.list_pop_last a (us ++ [v]).toArray n v (by simp) (by simp; grind)) ⟨hg, ?_⟩
 obtain ⟨k, n', e⟩ := updSeq_kp (hb := c.hb) (g := fun xs => xs.eraseIdxIfInBounds ((us ++ [v]).toArray.size - 1)) hg s.toks
 refine ⟨k, ⟨us, n', ?_, k.repAll one h1⟩, k.rep one h2⟩
 rw [e]
 congr 2
 rw [Array.eraseIdxIfInBounds_eq]
 obtain em : ∀ (l : List Value), (l ++ [v]).eraseIdx l.length = l := fun l => by
  induction l with
  | nil => rfl
  | cons z r ih => simp [ih]
 simp [em]
theorem evo_meth {o : Expr} {name : Str} {id : String} {apos pos : Pos} {e : Expr} {es : List Expr} {a : Addr} {ds ds' us : List D} {d : D} {own' : List (Addr × List D)} {s : Shared}
  (S : Sx c s₀ O s) (ho : Ev c o (.val (.ref a))) (u : OwnUpd a ds ds' c.own own') (ha : Evs c (e :: es) us) (hj : MethJ c a id ds us d ds') (slot : Slot "list" name id) (hty : typeOf (.builtin id) = pure (.type "method_descriptor")) {Q : Value → Shared → Prop}
  (h : ∀ s' v, Sx { c with own := own' } s₀ O s' → Rep c.X s'.heap d v → Q v s') {pl : Sem Bool}
  (he : eval (.Call (.Attribute o name apos) (e :: es) [] pos) c.env = (do
   let ov ← eval o c.env
   standAt apos.atName
   let (f, first) ← holding [ov] (getMethod ov name pl)
   callWith pos f first (backTo pos (starEach (e :: es) c.env)) []))
  (hs : starEach (e :: es) c.env = (false, eval e c.env) :: starEach es c.env := by rfl) (hplain : (backTo pos (starEach es c.env)).any (·.1) = false := by rfl) :
  wpAny (model c.prog c.w) c.A (eval (.Call (.Attribute o name apos) (e :: es) [] pos) c.env) Q E s := by
 refine MethodCall_ (pl := pl) (wpAny_mono (ho s E S.ok) (fun ov s₁ h₁ => ?_) fun o_ o_ e => e) he
 refine cutG fun P_ hP_ => ?_
 obtain ⟨k₁, rfl⟩ := h₁
 have S₁ := S.step k₁
 obtain ⟨_, ys, n, hg, hr⟩ := S₁.ok.own _ u.mem
 refine hP_ ?_
 clear hP_ P_
 refine getMethod_list_of slot hty ⟨_, hg, rfl, n, rfl⟩ ⟨_, hg, rfl⟩ ?_
 refine callWith_method1 (wpAny_mono (ha pos s₁ E S₁.ok) (fun vs s₂ h₂ => ?_) fun o_ o_ e => e) hs hplain
 have S₂ := S₁.step h₂.1
 refine cutG fun P_ hP_ => ?_
 obtain ⟨_, ys, n, hg, hr⟩ := S₂.ok.own _ u.mem
 refine hP_ ?_
 clear hP_ P_
 exact wpAny_mono (hj s₂ E ys n vs S₂.ok hg hr h₂.2) (fun v s₃ h₃ => h s₃ v (S₂.turn u h₃.1 h₃.2.1) h₃.2.2) fun o_ o_ e => e
theorem evo_meth0 {o : Expr} {name : Str} {id : String} {apos pos : Pos} {a : Addr} {ds ds' : List D} {d : D} {own' : List (Addr × List D)} {s : Shared}
  (S : Sx c s₀ O s) (ho : Ev c o (.val (.ref a))) (u : OwnUpd a ds ds' c.own own') (hj : MethJ c a id ds [] d ds') (slot : Slot "list" name id) (hty : typeOf (.builtin id) = pure (.type "method_descriptor")) {Q : Value → Shared → Prop}
  (h : ∀ s' v, Sx { c with own := own' } s₀ O s' → Rep c.X s'.heap d v → Q v s') {pl : Sem Bool}
  (he : eval (.Call (.Attribute o name apos) [] [] pos) c.env = (do
   let ov ← eval o c.env
   standAt apos.atName
   let (f, first) ← holding [ov] (getMethod ov name pl)
   callWith pos f first (backTo pos (starEach [] c.env)) [])) :
  wpAny (model c.prog c.w) c.A (eval (.Call (.Attribute o name apos) [] [] pos) c.env) Q E s := by
 refine MethodCall_ (pl := pl) (wpAny_mono (ho s E S.ok) (fun ov s₁ h₁ => ?_) fun o_ o_ e => e) he
 refine cutG fun P_ hP_ => ?_
 obtain ⟨k₁, rfl⟩ := h₁
 have S₁ := S.step k₁
 obtain ⟨_, ys, n, hg, hr⟩ := S₁.ok.own _ u.mem
 refine hP_ ?_
 clear hP_ P_
 refine getMethod_list_of slot hty ⟨_, hg, rfl, n, rfl⟩ ⟨_, hg, rfl⟩ ?_
 exact callWith_method0 (wpAny_mono (hj s₁ E ys n [] S₁.ok hg hr rfl) (fun v s₃ h₃ => h s₃ v (S₁.turn u h₃.1 h₃.2.1) h₃.2.2) fun o_ o_ e => e)
theorem ex_meth {M₀ : Model} {A₀ : Around} {env₀ : Env} {o : Expr} {name : Str} {id : String} {apos pos sp : Pos} {e : Expr} {es : List Expr} {a : Addr} {ds ds' us : List D} {d : D} {own' : List (Addr × List D)}
  (S : Sx c s₀ O s) (ho : Ev c o (.val (.ref a))) (u : OwnUpd a ds ds' c.own own') (ha : Evs c (e :: es) us) (hj : MethJ c a id ds us d ds') (slot : Slot "list" name id) (hty : typeOf (.builtin id) = pure (.type "method_descriptor")) {Q : Flow → Shared → Prop}
  (h : ∀ s', Sx { c with own := own' } s₀ O s' → Q .next s') {pl : Sem Bool}
  (he : eval (.Call (.Attribute o name apos) (e :: es) [] pos) c.env = (do
   let ov ← eval o c.env
   standAt apos.atName
   let (f, first) ← holding [ov] (getMethod ov name pl)
   callWith pos f first (backTo pos (starEach (e :: es) c.env)) []))
  (hi : interactive c.env = false) (hsw : swapsWith (.Call (.Attribute o name apos) (e :: es) [] pos) none sp.line c.env = pure false)
  (hs : starEach (e :: es) c.env = (false, eval e c.env) :: starEach es c.env := by rfl) (hplain : (backTo pos (starEach es c.env)).any (·.1) = false := by rfl) (hM₀ : M₀ = model c.prog c.w := by rfl) (hA₀ : A₀ = c.A := by rfl) (hE₀ : env₀ = c.env := by rfl) : wpAny M₀ A₀ (exec (.Expr (.Call (.Attribute o name apos) (e :: es) [] pos) sp) env₀) Q E s := by
 subst hM₀ hA₀ hE₀
 exact wpAny_Expr_any (evo_meth S ho u ha hj slot hty (fun s' o_ S' o_ => h s' S') he hs hplain) hi hsw
theorem setItem_plain {l : Addr} {ys : List Value} {n : Nat} {k : Int} {t : Tok} {v : Value} {Q : Unit → Shared → Prop} (hg : s.heap.get? l = some (listO ys n)) (h0 : 0 ≤ k) (hfit : k < 2 ^ 63) (hn : k < ys.length)
  (hQ : Q () { s with heap := s.heap.update l (Obj.mapSeq (·.setIfInBounds k.toNat v)) }) : wpAny (model c.prog c.w) c.A (setItem (.ref l) (.int k t) v) Q E s := by
 have hl : s.heap.IsList l ys.toArray := ⟨_, hg, rfl, n, rfl⟩
 unfold setItem
 try with_reducible refine wpAny_holding ?_
 first | refine wpAny_bind (wpAny_pure ?_) | skip
 refine wpAny_bind (wpAny_sequenceKey hl.typeIs (by decide) ?_)
 refine wpAny_bind (wpAny_callSpecial?_slot (name := Str.ofString "__setitem__") hl.typeIs slot_list_setitem
  (wpAny_call_entry slot_list_setitem hl.typeIs entry_list_setitem ?_ (args_list_setitem _ _ _)))
 show wpAny _ _ (Builtin.List.listSubscript? (.int k t) >>= _) _ _ s
 refine wpAny_bind (wpAny_listSubscript_int (fitsIndex_of h0 hfit) ?_)
 clear hfit
 obtain ⟨j, rfl⟩ := Int.eq_ofNat_of_zero_le h0
 have hj : j < ys.toArray.size := by rw [List.size_toArray]; grind
 show wpAny _ _ ((seqItemAt l j >>= fun r => pure (r.map (j, ·))) >>= _) _ _ s
 refine wpAny_bind (wpAny_bind (wpAny_seqItemAt hg rfl (wpAny_pure ?_)))
 rw [Array.getElem?_eq_getElem hj]
 show wpAny _ _ (setSeqItemAt l j v >>= _) _ _ s
 refine wpAny_bind (wpAny_setSeqItemAt hg rfl ?_)
 first
  | exact wpAny_bind (wpAny_pure (wpAny_pure ⟨.none, rfl, wpAny_pure hQ⟩))
  | exact wpAny_pure ⟨.none, rfl, wpAny_pure hQ⟩
theorem RepAll.set {X : List Addr} {h : Heap} {d : D} {v : Value} (hd : Rep X h d v) : ∀ {ds : List D} {vs : List Value} (j : Nat), RepAll X h ds vs → RepAll X h (ds.set j d) (vs.set j v)
 | [], _, _, r => by cases r; exact rfl
 | _ :: _, _, 0, r => by obtain ⟨u, r', rfl, h1, h2⟩ := r; exact ⟨v, r', rfl, hd, h2⟩
 | _ :: _, _, j + 1, r => by obtain ⟨u, r', rfl, h1, h2⟩ := r; exact ⟨u, _, rfl, h1, RepAll.set hd j h2⟩
theorem ex_ior {M₀ : Model} {A₀ : Around} {env₀ : Env} {o i e : Expr} {sp pos : Pos} {a : Addr} {ds : List D} {own' : List (Addr × List D)} {k x y : Int} {Q : Flow → Shared → Prop} (S : Sx c s₀ O s) (ho : Ev c o (.val (.ref a))) (hi : Ev c i (.int k)) (he : Ev c e (.int y)) (h0 : 0 ≤ k) (h1 : k < ds.length) (hk : k < 2 ^ 63) (hx : ds[k.toNat]? = some (.int x))
  (u : OwnUpd a ds (ds.set k.toNat (.int (Builtin.bitOr x y))) c.own own') (h : ∀ s', Sx { c with own := own' } s₀ O s' → Q .next s')
  (hst : ∀ ov iv new, augStore i ov iv new = (do holding [new, ov, iv] (setItem ov iv new); release [new, ov, iv] []; pure .next) := by intros; rfl) (hM₀ : M₀ = model c.prog c.w := by rfl) (hA₀ : A₀ = c.A := by rfl) (hE₀ : env₀ = c.env := by rfl) : wpAny M₀ A₀ (exec (.AugAssign (.Subscript o i sp) .BitOr e pos) env₀) Q E s := by
 subst hM₀ hA₀ hE₀
 show wpAny _ _ (do
  standAt pos
  let ov ← eval o c.env
  let iv ← holding [ov] (eval i c.env)
  let new ← holding [ov, iv] do
   standAt sp
   let old ← getItem ov iv
   let v ← holding [old] (eval e c.env)
   standAt pos
   operate [old, v] (inplaceOp .BitOr old v)
  standAt sp
  augStore i ov iv new) _ _ s
 refine wpAny_bind (wpAny_standAt (wpAny_bind (wpAny_mono (ho s E S.ok) (fun ov s₁ h₁ => ?_) fun o_ o_ e => e)))
 obtain ⟨k₁, rfl⟩ := h₁
 have S₁ := S.step k₁
 refine wpAny_bind (wpAny_holding (wpAny_mono (hi s₁ E S₁.ok) (fun iv s₂ h₂ => ?_) fun o_ o_ e => e))
 refine cutG fun P_ hP_ => ?_
 obtain ⟨k₂, t, rfl⟩ := h₂
 have S₂ := S₁.step k₂
 obtain ⟨_, ys, n, hg, hr⟩ := S₂.ok.own _ u.mem
 obtain ⟨old, hold, t', rfl⟩ := hr.get hx
 refine hP_ ?_
 clear hP_ P_
 refine wpAny_bind (wpAny_holding (wpAny_bind (wpAny_standAt (wpAny_bind (wpAny_getItem_list ⟨_, hg, rfl, n, rfl⟩ h0 hk (by simpa using hold) ?_)))))
 refine wpAny_bind (wpAny_holding (wpAny_mono (he s₂ E S₂.ok) (fun w s₃ h₃ => ?_) fun o_ o_ e => e))
 refine cutG fun P_ hP_ => ?_
 obtain ⟨k₃, t3, rfl⟩ := h₃
 refine hP_ ?_
 clear hP_ P_
 obtain S₃ := S₂.step k₃
 refine wpAny_bind (wpAny_standAt (wpAny_operate' (ior_int ?_)))
 refine wpAny_bind (wpAny_standAt ?_)
 have S₄ := S₃.step (Kp.tok c.hb [] s₃ (s₃.toks + 1))
 refine cutG fun P_ hP_ => ?_
 obtain ⟨hax, ys, n, hg, hr⟩ := S₄.ok.own _ u.mem
 refine hP_ ?_
 clear hP_ P_
 obtain hlen : ys.length = ds.length := hr.length
 rw [hst]
 obtain ⟨k5, n', e5⟩ := updSeq_kp (hb := c.hb) (s := { s₃ with toks := s₃.toks + 1 }) (g := fun xs => xs.setIfInBounds k.toNat (.int (Builtin.bitOr x y) s₃.toks)) hg (s₃.toks + 1)
 obtain one : ∀ b ∈ [a], b ∈ c.X := fun b hb => by exact all_one (hax) _ hb
 refine wpAny_bind (wpAny_holding (setItem_plain (c := c) hg h0 hk (by grind) (wpAny_bind (wpAny_release (wpAny_pure (h _ (S₄.turn u k5 ⟨_, n', e5, ?_⟩)))))))
 obtain this := (k5.repAll one hr).set (d := .int (Builtin.bitOr x y)) (v := .int (Builtin.bitOr x y) s₃.toks) ⟨_, rfl⟩ k.toNat
 simpa using this
where
 wpAny_operate' {M : Model} {A : Around} {E : Value → Shared → Prop} {s : Shared} {vs : List Value} {m : Sem Value} {Q : Value → Shared → Prop} (h : wpAny M A m Q E s) : wpAny M A (operate vs m) Q E s := by
  unfold operate
  exact wpAny_bind (wpAny_holding (wpAny_mono h (fun r s' h' => wpAny_bind (wpAny_release (wpAny_pure h'))) fun o_ o_ e => e))
theorem ex_del0 {M₀ : Model} {A₀ : Around} {env₀ : Env} {o i : Expr} {dp pos : Pos} {a : Addr} {d : D} {ds : List D} {own' : List (Addr × List D)} {Q : Flow → Shared → Prop} (S : Sx c s₀ O s) (ho : Ev c o (.val (.ref a))) (hi : Ev c i (.int 0)) (hsz : ds.length < sizeLine)
  (u : OwnUpd a (d :: ds) ds c.own own') (h : ∀ s', Sx { c with own := own' } s₀ O s' → Q .next s') (hM₀ : M₀ = model c.prog c.w := by rfl) (hA₀ : A₀ = c.A := by rfl) (hE₀ : env₀ = c.env := by rfl) : wpAny M₀ A₀ (exec (.Delete [.Subscript o i dp] pos) env₀) Q E s := by
 subst hM₀ hA₀ hE₀
 refine wpAny_Delete (wpAny_deleteEach_cons (wpAny_delete_Subscript (wpAny_mono (ho s E S.ok) (fun ov s₁ h₁ => ?_) fun o_ o_ e => e)))
 obtain ⟨k₁, rfl⟩ := h₁
 have S₁ := S.step k₁
 refine wpAny_mono (hi s₁ E S₁.ok) (fun iv s₂ h₂ => ?_) fun o_ o_ e => e
 refine cutG fun P_ hP_ => ?_
 obtain ⟨k₂, t, rfl⟩ := h₂
 have S₂ := S₁.step k₂
 obtain ⟨hax, ys, n, hg, v, r', rfl, h1, h2⟩ := S₂.ok.own _ u.mem
 refine hP_ ?_
 clear hP_ P_
 obtain one : ∀ b ∈ [a], b ∈ c.X := fun b hb => by exact all_one (hax) _ hb
 obtain hlen := h2.length
 refine P.delItem_list (n := n) hg (by decide) (k := 0) (by simp [seqIndex?]) ?_ (by simp; grind)
 obtain ⟨k3, n', e3⟩ := updSeq_kp (hb := c.hb) (g := fun xs => xs.eraseIdxIfInBounds 0) hg s₂.toks
 refine wpAny_deleteEach_nil (h _ (S₂.turn u k3 ⟨r', n', ?_, k3.repAll one h2⟩))
 rw [e3]
 congr 2
 rw [Array.eraseIdxIfInBounds_eq]
 simp
end
end Mine
end
section
open PySem PySem.W PyProof.Rows
namespace Mine
open PySem.Calls
theorem eq_of_sorted_perm : ∀ {l l' : List Int}, l.Perm l' → l.Pairwise (· ≤ ·) → l'.Pairwise (· ≤ ·) → l = l'
 | [], l', hp, _, _ => by rw [hp.nil_eq]
 | a :: r, [], hp, _, _ => by simp at hp
 | a :: r, b :: r', hp, h1, h2 => by
  rw [List.pairwise_cons] at h1 h2
  obtain e : a = b := by
   have ha : a ∈ b :: r' := hp.mem_iff.mp (.head _)
   have hb : b ∈ a :: r := hp.mem_iff.mpr (.head _)
   rcases List.mem_cons.mp ha with e | ha
   ·exact e
   ·rcases List.mem_cons.mp hb with e | hb
    ·exact e.symm
    ·obtain this := h1.1 b hb; have := h2.1 a ha; grind
  subst e
  rw [eq_of_sorted_perm (hp.cons_inv) h1.2 h2.2]
noncomputable def sortI (l : List Int) : List Int := l.mergeSort (fun a b => decide (a ≤ b))
theorem sortI_perm (l : List Int) : (sortI l).Perm l := List.mergeSort_perm l _
theorem sortI_sorted (l : List Int) : (sortI l).Pairwise (· ≤ ·) := by
 obtain this := List.pairwise_mergeSort (le := fun a b : Int => decide (a ≤ b)) (by intro a b c h1 h2; simp at *; grind) (by intro a b; simp; grind) l
 exact this.imp (by intro a b h; simpa using h)
section
variable {c : Cx}
theorem ints_are {X : List Addr} {h : Heap} : ∀ {l : List Int} {vs : List Value}, RepAll X h (l.map .int) vs → IntsAre vs l
 | [], _, r => by cases r; exact .nil
 | _ :: _, _, r => by obtain ⟨v, r', rfl, ⟨t, rfl⟩, h2⟩ := r; exact .cons _ t (ints_are h2)
theorem ints_rep {X : List Addr} {h : Heap} : ∀ {l : List Int} {vs : List Value}, IntsAre vs l → RepAll X h (l.map .int) vs
 | _, _, .nil => rfl
 | _, _, .cons _ _ r => ⟨_, _, rfl, ⟨_, rfl⟩, ints_rep r⟩
theorem call_len {d : D} {ds : List D} (l : LstD c d ds) (hsz : ds.length ≤ sizeLine) : CallP c (.builtin "len") [d] (.int ds.length) := fun s E vs o hv => by
 refine cutG fun P_ hP_ => ?_
 obtain ⟨v, _, rfl, h1, rfl⟩ := hv
 obtain ⟨a, ys, n, rfl, hg, hr⟩ := l.at o h1
 refine hP_ ?_
 clear hP_ P_
 refine len_list ⟨_, hg, rfl, n, rfl⟩ (by rw [List.size_toArray, hr.length]; unfold sizeLine at hsz; grind) ⟨Kp.tok _ _ _ _, s.toks + 1, ?_⟩
 rw [List.size_toArray, hr.length]
theorem call_sum {k : Nat} (hr : Room c.A k) {d : D} {l : List Int} (hl : LstD c d (l.map .int)) : CallP c (.builtin "sum") [d] (.int l.sum) := fun s E vs o hv => by
 refine cutG fun P_ hP_ => ?_
 obtain ⟨v, _, rfl, h1, rfl⟩ := hv
 obtain ⟨a, ys, n, rfl, hg, hr'⟩ := hl.at o h1
 have hi := ints_are hr'
 obtain ⟨xs, hxs⟩ := hi.allInts.items
 refine hP_ ?_
 clear hP_ P_
 obtain hl' : s.heap.IsList a (intItems xs) := ⟨_, hg, rfl, n, by rw [← hxs]⟩
 obtain hsum : preSum (numAt xs) xs.size = l.sum := by
  obtain e1 := hi.numsOf
  have e2 : numsOf (intItems xs).toList = l := by rw [← hxs]; exact e1
  rw [nums_intItems] at e2
  rw [preSum_eq, List.take_of_length_le (by simp), e2]
 refine sum_intListG hr.1 hl' fun h' tk t' hk => ⟨⟨h', tk, rfl, fun b ob e o_ => .inl (hk b ob e)⟩, t', ?_⟩
 rw [hsum]
theorem call_sorted {d : D} {l : List Int} (hl : LstD c d (l.map .int)) (h64 : l.length < 64) : CallP c (.builtin "sorted") [d] (.list ((sortI l).map .int)) := fun s E vs o hv => by
 refine cutG fun P_ hP_ => ?_
 obtain ⟨v, _, rfl, h1, rfl⟩ := hv
 obtain ⟨a, ys, n, rfl, hg, hr'⟩ := hl.at o h1
 refine hP_ ?_
 clear hP_ P_
 obtain hi := ints_are hr'
 refine sorted_ints ⟨_, hg, rfl, n, rfl⟩ hi (by rw [hr'.length]; simpa using h64) fun out ns' a1 a2 a3 => ?_
 have e : ns' = sortI l := eq_of_sorted_perm (a2.trans (sortI_perm l).symm) a3 (sortI_sorted l)
 subst e
 obtain k : Kp c.hb [] s { s with heap := sortedAll s.heap ys out } := ⟨_, s.toks, rfl, fun b ob e o_ => .inl (sortedAll_old e)⟩
 obtain ⟨ep, he⟩ := sortedAll_at s.heap ys out
 refine ⟨k, s.heap.objs.size + 1, out.toList, ep, rfl, fun hm => ?_, by simpa [seqObj, listO] using he, ints_rep a1⟩
 obtain ⟨ob, e⟩ := o.xin _ hm
 exact absurd (Heap.lt_size e) (Nat.not_lt.mpr (Nat.le_succ _))
theorem call_list {d : D} {ds : List D} (l : LstD c d ds) (hsz : ds.length ≤ sizeLine) {s : Shared} {E : Value → Shared → Prop} {vs : List Value} (o : Ok c s) (hv : RepAll c.X s.heap [d] vs) :
  wpAny (model c.prog c.w) c.A (call (.type "list") vs) (fun v s' => Kp c.hb [] s s' ∧ ∃ a ys n, v = .ref a ∧ s.heap.get? a = none ∧ s'.heap.get? a = some (listO ys n) ∧ RepAll (a :: c.X) s'.heap ds ys) E s := by
 refine cutG fun P_ hP_ => ?_
 obtain ⟨v, _, rfl, h1, rfl⟩ := hv
 obtain ⟨a, ys, n, rfl, hg, hr⟩ := l.at o h1
 refine hP_ ?_
 clear hP_ P_
 refine call_list_seq (hsz := by rw [List.size_toArray, hr.length]; exact hsz) a (.inl rfl) hg rfl rfl fun h' c' hk hD => ?_
 obtain hnew : s.heap.get? s.heap.objs.size = none := Heap.get?_none_of_le (Nat.le_refl _)
 exact ⟨⟨h', s.toks, rfl, fun b ob e o_ => .inl (hk b ob e)⟩, _, ys, c', rfl, hnew, hD, hr.mono fun b ob hb e o_ => ⟨fun hm => by
  rcases List.mem_cons.mp hm with z | z
  ·exact clash z hnew e
  ·exact hb z, hk b ob e⟩⟩
theorem call_tuple {d : D} {ds : List D} (l : LstD c d ds) (hsz : ds.length ≤ sizeLine) : CallP c (.type "tuple") [d] (.tup ds) := fun s E vs o hv => by
 refine cutG fun P_ hP_ => ?_
 obtain ⟨v, _, rfl, h1, rfl⟩ := hv
 obtain ⟨a, ys, n, rfl, hg, hr⟩ := l.at o h1
 refine hP_ ?_
 clear hP_ P_
 refine call_tuple_list ⟨_, hg, rfl, n, rfl⟩ (fun h' hk => ?_) (by rw [List.size_toArray, hr.length]; exact hsz)
 have k : Kp c.hb [] s { s with heap := h' } := ⟨h', s.toks, rfl, fun b ob e o_ => .inl (hk b ob e)⟩
 obtain o' := o.kp k
 exact ⟨k.trans (Kp.push _ _ _), rep_new_tup o'.xin (k.repAll (fun o_ h => (nomatch h)) hr)⟩
theorem evn_call_list {x : Str} {p pos : Pos} {e : Expr} {d : D} {ds : List D} (hf : Ev c (.Name x p) (.val (.type "list"))) (ha : Ev c e d) (l : LstD c d ds) (hsz : ds.length ≤ sizeLine)
  (he : starEach [e] c.env = [(false, eval e c.env)] := by rfl) : Evn c (.Call (.Name x p) [e] [] pos) ds := fun s E o => by
 refine Call_Name rfl (wpAny_mono (hf s E o) (fun f' s₁ h₁ => ?_) fun o_ o_ e => e)
 obtain ⟨k₁, rfl⟩ := h₁
 refine callWith_data (o.kp k₁) kpr_type (evs_cons ha evs_nil he) (fun s₂ vs k₂ r => ?_) he (by rw [he]; rfl)
 have k12 := k₁.trans k₂
 refine wpAny_mono (call_list l hsz (o.kp k12) r) (fun v s₃ h₃ => ?_) fun o_ o_ e => e
 refine cutG fun P_ hP_ => ?_
 obtain ⟨k3, a, ys, n, rfl, h0, hg, hr⟩ := h₃
 refine hP_ ?_
 clear hP_ P_
 refine ⟨k12.trans k3, a, ys, n, rfl, ?_, hg, hr⟩
 cases q : s.heap.get? a with
 | none => rfl
 | some ob => obtain ⟨o', e', _⟩ := k12.data q (fun h => (nomatch h)); exact no_some (h0.symm.trans e')
theorem evn_times {l r : Expr} {pos : Pos} {d : D} {k : Int} (hl : Ev c l (.list [d])) (hr : Ev c r (.int k)) (h0 : 0 ≤ k) (h1 : k ≤ 1000) : Evn c (.BinOp l .Mult r pos) (List.replicate k.toNat d) := fun s E o => by
 refine wpAny_BinOp (wpAny_mono (hl s E o) (fun x s₁ h₁ => ?_) fun o_ o_ e => e)
 refine wpAny_mono (hr s₁ E (o.kp h₁.1)) (fun y s₂ h₂ => ?_) fun o_ o_ e => e
 obtain k12 := h₁.1.trans h₂.1
 refine cutG fun P_ hP_ => ?_
 obtain ⟨a, vs, n, rfl, _, hg, hv⟩ := h₂.1.rep (fun o_ h => (nomatch h)) h₁.2
 obtain ⟨u, rfl⟩ := h₂.2
 obtain ⟨v, _, rfl, hv1, rfl⟩ := hv
 refine hP_ ?_
 clear hP_ P_
 refine wpAny_binaryOp_repeat_ref (T := "list") (U := "int") (by decide) ⟨_, hg, rfl⟩ (fun s' => typeIs_int s' k u) noFill_list_mul F.fills_int_mul F.slot_int_rmul repeat_list F.slot_int_index.lookup
  (call_meets F.slot_int_rmul (typeIs_int s₂ k u) F.entry_int_rmul (F.args_int_rmul_2 _ _) (int___rmul___int_list k u a [v].toArray n)
   ⟨hg, rfl, ⟨_, hg, rfl⟩, call_meets F.slot_list_mul ⟨_, hg, rfl⟩ F.entry_list_mul (F.args_list_mul_2 _ _)
    (AutoListH.list___mul___list_int_3 a [v].toArray n k u (by simp [Builtin.List.listFitsIndex]; grind) (by show ¬ 1 * k.toNat > _; grind) (by have hs : ([v].toArray).size * k.toNat ≤ 2 ^ 24 := (by show 1 * k.toNat ≤ _; grind); generalize ([v].toArray) = q at hs ⊢; simp [Builtin.List.listTooLong, sizeLine]; grind))
    ⟨hg, ?_⟩⟩)
 obtain hrep : ∀ j : Nat, RepAll c.X s₂.heap (List.replicate j d) (List.replicate j v) := fun j => by
  induction j with
  | zero => rfl
  | succ j ih => exact ⟨v, _, rfl, hv1, ih⟩
 obtain e : ∀ (j : Nat) (acc : List Value), (List.replicate j [v].toArray).foldl (fun x1 x2 => x1 ++ x2) acc.toArray = (acc ++ List.replicate j v).toArray := fun j => by
  induction j with
  | zero => intro acc; simp
  | succ j ih => intro acc; rw [List.replicate_succ, List.foldl_cons, List.append_toArray, ih]; simp [List.replicate_succ]
 obtain e2 := e k.toNat []
 simp only [List.nil_append] at e2
 rw [show (#[] : Array Value) = ([] : List Value).toArray from rfl]
 simp only [show ([v].toArray.isEmpty = true) = False from by simp, if_false]
 rw [e2]
 exact ⟨k12.trans (Kp.push _ _ _), s₂.heap.objs.size, List.replicate k.toNat v, 0, rfl, new_addr k12, Heap.get?_push_size _ rfl, (hrep k.toNat).pushNew _⟩
theorem mine_sub {s₀ s : Shared} {O : List Addr} (S : Sx c s₀ O s) : ∀ a ∈ mine c, a ∈ c.X := fun a ha => by
 rcases List.mem_append.mp ha with z | z
 ·exact (S.hx a z).1
 ·exact S.offs.x a z
end
theorem bitOr_nat (a b : Nat) : Builtin.bitOr (a : Int) (b : Int) = ((a ||| b : Nat) : Int) := by
 unfold Builtin.bitOr Builtin.bitNot
 rw [show (-(a : Int) - 1) = -((a : Int) + 1) by grind, show (-(b : Int) - 1) = -((b : Int) + 1) by grind]
 rw [bitAnd_nn (by grind) (by grind)]
 unfold Builtin.bitNot
 rw [show (-(-((a : Int) + 1)) - 1) = (a : Int) by grind, show (-(-((b : Int) + 1)) - 1) = (b : Int) by grind]
 simp
 grind
theorem bitAnd_nat (a b : Nat) : Builtin.bitAnd (a : Int) (b : Int) = ((a &&& b : Nat) : Int) := by
 rw [bitAnd_pp (by grind) (by grind)]; rfl
end Mine
end
section
open PySem PySem.W PyProof.Rows
namespace Mine
open PySem.Calls
noncomputable def biList : List (Str × Value) := [("range", .type "range"), ("len", .builtin "len"), ("sum", .builtin "sum"), ("min", .builtin "min"), ("sorted", .builtin "sorted"), ("list", .type "list"), ("tuple", .type "tuple"), ("dict", .type "dict"), ("str", .type "str"),
 ("iter", .builtin "iter"), ("next", .builtin "next"), ("RuntimeError", .type "RuntimeError"), ("ValueError", .type "ValueError"), ("object", .type "object")]
noncomputable def glList : List (Str × Addr) := [("cmp_to_key", 21), ("_initial_missing", 22), ("reduce", 30), ("_c3_merge", 35), ("_deduplicate", 43), ("_deduplicate_unhashable", 50), ("_compare_args_orderless", 57), ("unorderable_list_difference", 64), ("three_way_cmp", 71),
 ("_law_rows", 76), ("_law_ahead", 83), ("_law_ranked", 88), ("_law_merged", 95), ("_law_named", 100), ("law", 105)]
structure Gl (hb : Heap) : Prop where
 names : ∃ mg mb, Names hb mg mb ∧ (∀ x v, biList.lookup x = some v → mg x = none ∧ mb x = some v) ∧ ∀ x a, glList.lookup x = some a → mg x = some (.ref a)
 fn : ∀ i f, (i, f) ∈ [(4, 35), (7, 50), (8, 57), (10, 64), (11, 71), (13, 76), (14, 83), (15, 88), (16, 95), (17, 100)] → FnAt hb f (fName i) (fArgs i) (fBody i) (fScope i) .none .none (.ref (f - 1))
section
variable {c : Cx}
theorem ev_bi {hb₀ : Heap} (G : Gl hb₀) {x : Str} {v : Value} {pos : Pos} (h : biList.lookup x = some v) (hh : c.hb = hb₀ := by rfl) (hk : c.env.scope.kind = .function := by rfl) (hg : c.env.globals = mainGlobals := by rfl) (hb : c.env.builtins = builtinsNs := by rfl)
  (hx : c.env.kindOf x = some .globalImplicit := by rfl) (hd : (x == ("__debug__" : Str)) = false := by decide) : Ev c (.Name x pos) (.val v) := by
 subst hh
 obtain ⟨mg, mb, N, h1, _⟩ := G.names
 exact ev_builtin N (h1 x v h).1 (h1 x v h).2 hk hg hb hx hd
theorem ev_gl {hb₀ : Heap} (G : Gl hb₀) {x : Str} {a : Addr} {pos : Pos} (h : glList.lookup x = some a) (hh : c.hb = hb₀ := by rfl) (hk : c.env.scope.kind = .function := by rfl) (hg : c.env.globals = mainGlobals := by rfl)
  (hx : c.env.kindOf x = some .globalImplicit := by rfl) (hd : (x == ("__debug__" : Str)) = false := by decide) : Ev c (.Name x pos) (.val (.ref a)) := by
 subst hh
 refine cutG fun P_ hP_ => ?_
 obtain ⟨mg, mb, N, _, h2⟩ := G.names
 refine hP_ ?_
 clear hP_ P_
 exact ev_global N (h2 x a h) hk hg hx hd
theorem FnAt.kpr {f : Addr} {qual : Str} {params : Arguments} {body : List Stmt} {scope : Scope} {dV kV cdv : Value} (F : FnAt c.hb f qual params body scope dV kV cdv) : Kpr c (.ref f) := by
 refine cutG fun P_ hP_ => ?_
 obtain ⟨fo, name, doc, pm, an, ct, h1, h2⟩ := F.obj
 refine hP_ ?_
 clear hP_ P_
 exact kpr_fn h1 h2
end
noncomputable def nmL : List Str := ["ring", "", "b a", "0", "c", "Z"]
noncomputable def nm (t : Nat) : Str := nmL.getD t ""
noncomputable def dI (t : Nat) : D := .int (t : Int)
noncomputable def dN (t : Nat) : D := .str (nm t)
noncomputable def dIs (l : List Nat) : D := .list (l.map dI)
noncomputable def dNs (l : List Nat) : D := .list (l.map dN)
theorem named_spec {c : Cx} {k : Nat} (hr : Room c.A (k + 1)) {hb₀ : Heap} (G : Gl hb₀) {row : List Nat} (hrow : ∀ t ∈ row, t < 6) (hlen : row.length ≤ 1000) (hh : c.hb = hb₀ := by rfl) :
  CallP c (.ref 100) [dIs row] (dNs row) := by
 subst hh
 refine callP_fn (G.fn 17 100 (by simp)) (bd := [("row", dIs row)]) hr ?_ ?_ (by simp) (fun n => by rfl) (by exact List.nodup_nil) rfl rfl rfl
 ·rintro s vs o ⟨v, _, rfl, h1, rfl⟩
  exact ⟨[("row", v)], fun o_ o_ o_ o_ o_ => BindsTo.of_eq rfl, rfl, ⟨v, _, rfl, h1, rfl⟩⟩
 ·intro L s s₁ o S
  obtain hr' := hr.deeper (fnEnv (fName 17) (fScope 17) L 100 (.ref 99))
  refine ex_cons ?_
  refine ex_return S (d := dNs row) (Ev.weak (ev_comp (xs := row.map dI) (f := fun d => match d with | .int i => dN i.toNat | _ => .none) (p := fun o_ => true) (src_list (k := k) hr' (ev_var rfl)) rfl (fun o_ h => (nomatch h)) (fun o_ o_ o_ o_ o_ => tests_nil) ?_ (by simp; unfold sizeLine; grind)) ?_) ?_
  ·intro d C Dd I hd _
   obtain ⟨t, ht, rfl⟩ := List.mem_map.mp hd
   obtain h6 := hrow t ht
   refine ev_item (ds := nmL.map .str) (k := (t : Int)) (ev_list (evs_cons ev_str (evs_cons ev_str (evs_cons ev_str (evs_cons ev_str (evs_cons ev_str (evs_cons ev_str evs_nil)))))) (by decide)) .val (ev_var rfl) (by grind) (by grind) ?_
   simp only [Int.toNat_natCast, dI]
   obtain this : t = 0 ∨ t = 1 ∨ t = 2 ∨ t = 3 ∨ t = 4 ∨ t = 5 := by grind
   rcases this with rfl | rfl | rfl | rfl | rfl | rfl <;> rfl
  ·unfold dNs
   congr 1
   rw [List.filter_eq_self.mpr (by simp), List.map_map]
   exact List.map_congr_left fun t o_ => by simp [dI]
  ·intro s' v S' r
   exact ⟨v, rfl, S'.kp, r.sub fun a ha => List.mem_append_right _ ha⟩
noncomputable def aStep (ah : List Nat) (p q : Nat) : List Nat := ah.set q (ah.getD q 0 ||| (ah.getD p 0 ||| 2 ^ p))
noncomputable def aRowN (row ah : List Nat) : Nat → List Nat
 | 0 => ah
 | i + 1 => aStep (aRowN row ah i) (row.getD i 0) (row.getD (i + 1) 0)
theorem aRowN_s (row ah : List Nat) (i : Nat) : aRowN row ah (i + 1) = aStep (aRowN row ah i) (row.getD i 0) (row.getD (i + 1) 0) := rfl
noncomputable def aRow (ah row : List Nat) : List Nat := aRowN row ah (row.length - 1)
noncomputable def aAllN (rows : List (List Nat)) (ah : List Nat) : Nat → List Nat
 | 0 => ah
 | i + 1 => aRow (aAllN rows ah i) (rows.getD i [])
theorem aAllN_s (rows : List (List Nat)) (ah : List Nat) (i : Nat) : aAllN rows ah (i + 1) = aRow (aAllN rows ah i) (rows.getD i []) := rfl
noncomputable def aAll (ah : List Nat) (rows : List (List Nat)) : List Nat := aAllN rows ah rows.length
noncomputable def aTurns (rows : List (List Nat)) : Nat → List Nat
 | 0 => List.replicate 6 0
 | i + 1 => aAll (aTurns rows i) rows
noncomputable def aheadF (rows : List (List Nat)) : List Nat := aTurns rows 6
theorem aStep_len (ah : List Nat) (p q : Nat) : (aStep ah p q).length = ah.length := by simp [aStep]
theorem aRowN_len (row ah : List Nat) : ∀ i, (aRowN row ah i).length = ah.length
 | 0 => rfl
 | i + 1 => by rw [aRowN_s, aStep_len, aRowN_len row ah i]
theorem aAllN_len (rows : List (List Nat)) (ah : List Nat) : ∀ i, (aAllN rows ah i).length = ah.length
 | 0 => rfl
 | i + 1 => by rw [aAllN_s, aRow, aRowN_len, aAllN_len rows ah i]
theorem aTurns_len (rows : List (List Nat)) : ∀ i, (aTurns rows i).length = 6
 | 0 => by simp [aTurns]
 | i + 1 => by rw [aTurns, aAll, aAllN_len, aTurns_len rows i]
noncomputable def dRows (rows : List (List Nat)) : D := .list (rows.map dIs)
theorem getD_dI {l : List Nat} {i : Nat} (h : i < l.length) : (l.map dI)[i]? = some (dI (l.getD i 0)) := by
 simp [List.getElem?_map, List.getD, h]
theorem mem_getD {l : List Nat} {i : Nat} (h : i < l.length) : l.getD i 0 ∈ l := by
 simp [List.getD, h]
theorem ret_own {c cc : Cx} {s s' : Shared} {a : Addr} {ds : List D} (o : Ok c s) (S : Sx cc s [] s') (hm : (a, ds) ∈ cc.own) (hX : ∀ b ∈ c.X, b ∈ cc.X) (hh : cc.hb = c.hb := by rfl) : RetP c s (.list ds) (.ret (.ref a)) s' := by
 refine cutG fun P_ hP_ => ?_
 obtain ⟨_, ys, n, hg, hr⟩ := S.ok.own _ hm
 refine hP_ ?_
 clear hP_ P_
 refine ⟨_, rfl, hh ▸ S.kp, a, ys, n, rfl, fun q => ?_, hg, hr.sub hX⟩
 obtain ⟨ob, e⟩ := o.xin a q
 rcases S.free a (List.mem_append_right _ (List.mem_map.mpr ⟨_, hm, rfl⟩)) with z | z
 ·cases z
 ·exact no_some (z.symm.trans e)
theorem lk_id {V : List (Str × D)} : ∀ y d, V.lookup y = some d → V.lookup y = some d := fun o_ o_ h => h
theorem lk_skip {V V' : List (Str × D)} {x : Str} {d₀ : D} (h : ∀ y d, V.lookup y = some d → V'.lookup y = some d) (hn : (V.map (·.1)).contains x = false := by rfl) : ∀ y d, V.lookup y = some d → ((x, d₀) :: V').lookup y = some d := fun y d e => by
 rw [List.lookup_cons]
 cases q : y == x with
 | false => exact h y d e
 | true =>
  rw [eq_of_beq q] at e
  have : x ∈ V.map (·.1) := List.mem_map.mpr ⟨_, mem_of_lookup' e, rfl⟩
  rw [← List.contains_iff_mem, hn] at this; cases this
theorem lk_keep {V V' : List (Str × D)} {x : Str} {d₀ : D} (h : ∀ y d, V.lookup y = some d → V'.lookup y = some d) : ∀ y d, ((x, d₀) :: V).lookup y = some d → ((x, d₀) :: V').lookup y = some d := fun y d e => by
 rw [List.lookup_cons] at e ⊢
 cases q : y == x with
 | false => rw [q] at e; exact h y d e
 | true => rw [q] at e; exact e
theorem lk_nil {V : List (Str × D)} : ∀ y d, ([] : List (Str × D)).lookup y = some d → V.lookup y = some d := fun o_ o_ h => (nomatch h)
theorem at_map {α : Type} {f : α → D} {l : List α} {i : Nat} {d : D} {z : α} (h : (l.map f)[i]? = some d) : i < l.length ∧ d = f (l.getD i z) := by
 rw [List.getElem?_map] at h
 cases q : l[i]? with
 | none => rw [q] at h; cases h
 | some x =>
  rw [q] at h; cases h
  refine ⟨(List.getElem?_eq_some_iff.mp q).1, ?_⟩
  simp [List.getD, q]
theorem mem_getD' {α : Type} {l : List α} {i : Nat} {z : α} (h : i < l.length) : l.getD i z ∈ l := by
 simp [List.getD, h]
theorem at_range {a : Int} {n : Nat} {st : Int} {i : Nat} {d : D} (h : (rangeD a n st)[i]? = some d) : i < n ∧ d = .int (a + i * st) := by
 unfold rangeD at h
 obtain ⟨h1, h2⟩ := at_map (z := 0) h
 have h3 : i < n := by simpa using h1
 refine ⟨h3, ?_⟩
 rw [h2]; simp [List.getD, h3]
theorem aStep_map {ah : List Nat} {p q : Nat} : (ah.map dI).set ((q : Int)).toNat (.int (Builtin.bitOr ((ah.getD q 0 : Nat) : Int) (Builtin.bitOr ((ah.getD p 0 : Nat) : Int) (1 * 2 ^ ((p : Int)).toNat)))) = (aStep ah p q).map dI := by
 obtain e : (1 * 2 ^ ((p : Int)).toNat : Int) = ((2 ^ p : Nat) : Int) := by simp
 rw [e, bitOr_nat, bitOr_nat, aStep, List.map_set]
 rfl
theorem ev_len {c : Cx} {x : Str} {p pos : Pos} {e : Expr} {d : D} {ds : List D} {n : Nat} (hf : Ev c (.Name x p) (.val (.builtin "len"))) (he : Ev c e d) (l : LstD c d ds) (hn : ds.length = n) (hsz : n ≤ 100000)
  (hs : starEach [e] c.env = [(false, eval e c.env)] := by rfl) : Ev c (.Call (.Name x p) [e] [] pos) (.int n) := by
 subst hn
 exact ev_call hf (evs_cons he evs_nil hs) kpr_builtin (call_len l (by unfold sizeLine; grind)) hs (by rw [hs]; rfl)
theorem ahead_spec {c : Cx} {k : Nat} (hr : Room c.A (k + 1)) {hb₀ : Heap} (G : Gl hb₀) {rows : List (List Nat)} (hrow : ∀ row ∈ rows, ∀ t ∈ row, t < 6) (hlen : ∀ row ∈ rows, row.length ≤ 1000) (hl : rows.length ≤ 1000) (hh : c.hb = hb₀ := by rfl) :
  CallP c (.ref 83) [dRows rows] (dIs (aheadF rows)) := by
 subst hh
 refine callP_fn (G.fn 14 83 (by simp)) (bd := [("rows", dRows rows)]) hr ?_ ?_ (by simp) (fun n => by rfl) (by exact List.nodup_nil) rfl rfl rfl
 ·rintro s vs o ⟨v, _, rfl, h1, rfl⟩
  exact ⟨[("rows", v)], fun o_ o_ o_ o_ o_ => BindsTo.of_eq rfl, rfl, ⟨v, _, rfl, h1, rfl⟩⟩
 ·intro L s s₁ o S
  dsimp only [fnCx] at S
  have hr' := hr.deeper (fnEnv (fName 14) (fScope 14) L 83 (.ref 82))
  refine ex_cons ?_
  refine ex_assign_own S (evn_times (d := .int 0) (k := 6) (ev_list (evs_cons ev_int evs_nil) (by decide)) ev_int (by grind) (by grind)) (fun s₂ a S₂ => ?_) rfl rfl rfl
  dsimp only at S₂
  -- for turn in range(6)
  refine ex_cons ?_
  refine ex_for (V := fun o_ => [("ahead", .val (.ref a)), ("rows", dRows rows)]) (W := fun i => [(a, (aTurns rows i).map dI)]) S₂ (src_range1 (n := 6) (Ob := mine _) hr' (ev_bi G rfl) ev_int (by grind)) (fun o_ h => h) (fun y d h => h) rfl (fun o_ => rfl) ?_ ?_ rfl rfl
  ·intro i d I s₃ s₄ hd S₄
   dsimp only at S₄
   -- for row in rows
   refine ex_cons ?_
   refine ex_for (V := fun o_ => [("ahead", .val (.ref a)), ("rows", dRows rows)]) (W := fun j => [(a, (aAllN rows (aTurns rows i) j).map dI)]) S₄ (src_list (ds := rows.map dIs) hr' (ev_var rfl)) (mine_sub S₄) (lk_skip lk_id) rfl (fun o_ => rfl) ?_ ?_ rfl rfl
   ·intro j d' I₂ s₅ s₆ hd' S₆
    dsimp only at S₆
    obtain ⟨hj, rfl⟩ := at_map (z := []) hd'
    obtain hm := mem_getD' (z := []) hj
    generalize hg : rows.getD j [] = row at hm S₆
    obtain hrw := hrow _ hm
    obtain hln := hlen _ hm
    generalize hah : aAllN rows (aTurns rows i) j = ah at S₆
    obtain hal : ah.length = 6 := by rw [← hah, aAllN_len, aTurns_len]
    refine ex_cons ?_
    refine ex_for (V := fun o_ => [("row", dIs row), ("ahead", .val (.ref a)), ("rows", dRows rows)]) (W := fun i => [(a, (aRowN row ah i).map dI)]) S₆
     (src_range2 (Ob := mine _) (a := 1) (b := row.length) hr' (ev_bi G rfl) ev_int (ev_len (n := row.length) (ev_bi G rfl) (ev_var rfl) .val (by simp) (by grind)) (by grind) (by grind) (by grind) (by grind)) (fun o_ h => h) lk_id rfl (fun o_ => rfl) ?_ ?_ rfl rfl
    ·intro m d' I₃ s₇ s₈ hd' S₈
     dsimp only at S₈
     obtain ⟨hm', rfl⟩ := at_range hd'
     have h1 : m + 1 < row.length := by omega
     obtain hq := hrw _ (mem_getD (l := row) h1)
     obtain hp := hrw _ (mem_getD (l := row) (i := m) (by grind))
     obtain hl' : (aRowN row ah m).length = 6 := by rw [aRowN_len, hal]
     have eq : ∀ i : Nat, i < 6 → ((aRowN row ah m).map dI)[((i : Nat) : Int).toNat]? = some (.int ((aRowN row ah m).getD i 0 : Nat)) := fun i hi => by
      rw [Int.toNat_natCast]; exact getD_dI (by grind)
     have er : ∀ i : Nat, i < row.length → (row.map dI)[((i : Nat) : Int).toNat]? = some (.int (row.getD i 0 : Nat)) := fun i hi => by
      rw [Int.toNat_natCast]; exact getD_dI (by grind)
     obtain er1 := er (m + 1) h1
     rw [show ((m + 1 : Nat) : Int) = 1 + (m : Int) * 1 by grind] at er1
     obtain er2 := er m (by grind)
     rw [show ((m : Nat) : Int) = 1 + (m : Int) * 1 - 1 by grind] at er2
     refine ex_cons ?_
     refine ex_ior S₈ (ev_var rfl) (ev_item (ev_var rfl) .val (ev_var rfl) (by grind) (by grind) er1)
      (ev_or (ev_item (ev_var rfl) (.own (.head _)) (ev_item (ev_var rfl) .val (ev_sub (ev_var rfl) ev_int) (by grind) (by grind) er2) (by grind) (by grind) (eq _ hp)) (ev_shl ev_int (ev_item (ev_var rfl) .val (ev_sub (ev_var rfl) ev_int) (by grind) (by grind) er2) (by grind) (by grind) (by decide)))
      (by grind) (by rw [List.length_map, hl']; grind) (by grind) (eq _ hq) (by rw [aStep_map]; exact .head) (fun s₉ S₉ => ?_)
     refine ex_nil ?_
     exact S₉.vars (lk_skip lk_id)
    ·intro s₇ S₇
     refine ex_nil ?_
     refine ex_nil ?_
     obtain e : (rangeD 1 ((row.length : Int) - 1).toNat 1).length = row.length - 1 := by simp [rangeD]
     obtain e2 : aAllN rows (aTurns rows i) (j + 1) = aRowN row ah (rangeD 1 ((row.length : Int) - 1).toNat 1).length := by rw [e, aAllN_s, hg, hah]; rfl
     show Sx { c with A := _, env := _, X := _, vars := _, own := [(a, (aAllN rows (aTurns rows i) (j + 1)).map dI)] } _ _ _
     rw [e2]
     exact S₇.vars (lk_skip lk_id)
   ·intro s₅ S₅
    refine ex_nil ?_
    refine ex_nil ?_
    obtain e2 : aTurns rows (i + 1) = aAllN rows (aTurns rows i) (rows.map dIs).length := by rw [List.length_map]; rfl
    show Sx { c with A := _, env := _, X := _, vars := _, own := [(a, (aTurns rows (i + 1)).map dI)] } _ _ _
    rw [e2]
    exact S₅
  ·intro s₃ S₃
   refine ex_nil ?_
   dsimp only
   refine ex_cons ?_
   refine ex_return S₃ (d := .val (.ref a)) (ev_var rfl) ?_
   rintro s₄ v S₄ rfl
   exact ret_own o S₄ (.head _) fun b hb => .tail _ (List.mem_append_right _ hb)
end Mine
end
section
open PySem PySem.W PyProof.Rows
namespace Mine
open PySem.Calls
noncomputable def back {α : Type} (g : α → D) (d : D) : Option α := open Classical in if h : ∃ x, g x = d then some h.choose else none
theorem back_of {α : Type} {g : α → D} (hg : ∀ x y, g x = g y → x = y) (x : α) : back g (g x) = some x := by
 unfold back
 obtain h : ∃ y, g y = g x := ⟨x, rfl⟩
 rw [dif_pos h, hg _ _ h.choose_spec]
noncomputable def backF {α : Type} (g : α → D) (f : α → D) (d : D) : D := match back g d with | some x => f x | none => .none
noncomputable def backP {α : Type} (g : α → D) (p : α → Bool) (d : D) : Bool := match back g d with | some x => p x | none => false
theorem backF_of {α : Type} {g f : α → D} (hg : ∀ x y, g x = g y → x = y) (x : α) : backF g f (g x) = f x := by unfold backF; rw [back_of hg]
theorem backP_of {α : Type} {g : α → D} {p : α → Bool} (hg : ∀ x y, g x = g y → x = y) (x : α) : backP g p (g x) = p x := by unfold backP; rw [back_of hg]
theorem back_all {α : Type} {g f : α → D} {p : α → Bool} (hg : ∀ x y, g x = g y → x = y) : ∀ l : List α, ((l.map g).filter (backP g p)).map (backF g f) = (l.filter p).map f
 | [] => rfl
 | x :: r => by
  rw [List.map_cons, List.filter_cons, List.filter_cons, backP_of hg]
  cases p x with
  | true => simp only [if_true, List.map_cons, backF_of hg, back_all hg r]
  | false => simpa using back_all hg r
theorem dI_inj : ∀ x y, dI x = dI y → x = y := fun x y h => by
 obtain this : (x : Int) = y := by unfold dI at h; injection h
 grind
theorem map_inj {α : Type} {g : α → D} (hg : ∀ x y, g x = g y → x = y) : ∀ l l' : List α, l.map g = l'.map g → l = l'
 | [], [], _ => rfl
 | [], _ :: _, h => by simp at h
 | _ :: _, [], h => by simp at h
 | x :: r, y :: r', h => by
  simp only [List.map_cons, List.cons.injEq] at h
  rw [hg _ _ h.1, map_inj hg r r' h.2]
theorem dIs_inj : ∀ x y, dIs x = dIs y → x = y := fun x y h => by unfold dIs at h; injection h with h; exact map_inj dI_inj _ _ h
section
variable {c : Cx} {s₀ s : Shared} {O : List Addr} {E : Value → Shared → Prop}
theorem evn_compA {α : Type} {g f : α → D} {l : List α} {p : α → Bool} {elt iter : Expr} {x : Str} {px : Pos} {ifs : List Expr} {scope : Scope} {pos : Pos} {Ob : List Addr} (hg : ∀ x y, g x = g y → x = y)
  (hsrc : Src c Ob iter (l.map g)) (b : blockOk scope c.env x = true) (hown : ∀ q ∈ c.own, q.1 ∈ c.X)
  (tests : ∀ y C Dd I, y ∈ l → TestsOk (inCx c scope x (g y) C Dd I) ifs (p y))
  (elts : ∀ y C Dd I, y ∈ l → p y = true → Ev (inCx c scope x (g y) C Dd I) elt (f y)) (hsz : l.length ≤ 100000)
  (hs : ∀ v, foldedSetIterable iter c.env v = pure v := by intro _; rfl) :
  Evn c (.ListComp elt [⟨.Name x px, iter, ifs, 0⟩] scope pos) ((l.filter p).map f) := by
 rw [← back_all hg]
 refine evn_comp hsrc b hown (fun d C Dd I hd => ?_) (fun d C Dd I hd hp => ?_) (by rw [List.length_map]; unfold sizeLine; grind) hs
 ·obtain ⟨y, hy, rfl⟩ := List.mem_map.mp hd
  rw [backP_of hg]; exact tests y C Dd I hy
 ·obtain ⟨y, hy, rfl⟩ := List.mem_map.mp hd
  rw [backP_of hg] at hp
  rw [backF_of hg]; exact elts y C Dd I hy hp
theorem ev_compA {α : Type} {g f : α → D} {l : List α} {p : α → Bool} {elt iter : Expr} {x : Str} {px : Pos} {ifs : List Expr} {scope : Scope} {pos : Pos} {Ob : List Addr} (hg : ∀ x y, g x = g y → x = y)
  (hsrc : Src c Ob iter (l.map g)) (b : blockOk scope c.env x = true) (hown : ∀ q ∈ c.own, q.1 ∈ c.X)
  (tests : ∀ y C Dd I, y ∈ l → TestsOk (inCx c scope x (g y) C Dd I) ifs (p y))
  (elts : ∀ y C Dd I, y ∈ l → p y = true → Ev (inCx c scope x (g y) C Dd I) elt (f y)) (hsz : l.length ≤ 100000)
  (hs : ∀ v, foldedSetIterable iter c.env v = pure v := by intro _; rfl) :
  Ev c (.ListComp elt [⟨.Name x px, iter, ifs, 0⟩] scope pos) (.list ((l.filter p).map f)) := (evn_compA hg hsrc b hown tests elts hsz hs).ev
theorem ex_compA {α : Type} {g f : α → D} {l : List α} {p : α → Bool} {elt iter : Expr} {x y : Str} {px py pos spos : Pos} {ifs : List Expr} {scope : Scope} {Ob : List Addr} {Q : Flow → Shared → Prop} {M₀ : Model} {A₀ : Around} {env₀ : Env} (hg : ∀ x y, g x = g y → x = y)
  (S : Sx c s₀ O s) (hsrc : Src c Ob iter (l.map g))
  (tests : ∀ y C Dd I, y ∈ l → TestsOk (inCx c scope x (g y) C Dd I) ifs (p y))
  (elts : ∀ y C Dd I, y ∈ l → p y = true → Ev (inCx c scope x (g y) C Dd I) elt (f y)) (hsz : l.length ≤ 100000)
  (h : ∀ s', Sx { c with vars := (y, .list ((l.filter p).map f)) :: c.vars } s₀ O s' → Q .next s')
  (b : blockOk scope c.env x = true) (hb : mayBind c.env y = true) (hkf : c.env.scope.kind = .function)
  (hsw : swapsWith (.ListComp elt [⟨.Name x px, iter, ifs, 0⟩] scope pos) (some (.Name y py)) spos.line c.env = pure true)
  (hs : ∀ v, foldedSetIterable iter c.env v = pure v := by intro _; rfl) (hM₀ : M₀ = model c.prog c.w := by rfl) (hA₀ : A₀ = c.A := by rfl) (hE₀ : env₀ = c.env := by rfl) :
  wpAny M₀ A₀ (exec (.Assign [.Name y py] (.ListComp elt [⟨.Name x px, iter, ifs, 0⟩] scope pos) spos) env₀) Q E s := by
 rw [← back_all hg] at h
 refine ex_assign_comp S hsrc (fun d C Dd I hd => ?_) (fun d C Dd I hd hp => ?_) (by rw [List.length_map]; unfold sizeLine; grind) h b hb hkf hsw hs hM₀ hA₀ hE₀
 ·obtain ⟨y, hy, rfl⟩ := List.mem_map.mp hd
  rw [backP_of hg]; exact tests y C Dd I hy
 ·obtain ⟨y, hy, rfl⟩ := List.mem_map.mp hd
  rw [backP_of hg] at hp
  rw [backF_of hg]; exact elts y C Dd I hy hp
theorem Src.as {Ob : List Addr} {e : Expr} {xs ys : List D} (h : Src c Ob e xs) (eq : xs = ys) : Src c Ob e ys := eq ▸ h
end
-- plain, with no bool: equal for Python is equal
mutual
noncomputable def D.simp : D → Bool
 | .none | .int _ => true
 | .str x => PyData.strOk x
 | .list l => D.simps l
 | .tup l => D.simps l
 | .val _ | .bool _ => false
noncomputable def D.simps : List D → Bool
 | [] => true
 | d :: ds => d.simp && D.simps ds
end
mutual
theorem D.simp_plain : ∀ {d : D}, d.simp = true → d.plain = true
 | .none, _ => rfl
 | .int _, _ => rfl
 | .str _, h => h
 | .list l, h => by exact D.simps_plains (d := l) h
 | .tup l, h => by exact D.simps_plains (d := l) h
 | .val _, h => by cases h
 | .bool _, h => by cases h
theorem D.simps_plains : ∀ {d : List D}, D.simps d = true → D.plains d = true
 | [], _ => rfl
 | d :: ds, h => by
  show (d.plain && D.plains ds) = true
  rw [D.simp_plain (and_b h).1, D.simps_plains (and_b h).2]; rfl
end
mutual
theorem D.eqv_eq : ∀ {d e : D}, d.simp = true → e.simp = true → PyData.eqv d.py e.py = true → d = e
 | .none, e, _, h, z => by cases e <;> first | rfl | (cases z; done) | cases h
 | .int i, e, _, h, z => by
  cases e with
  | int j => rw [show i = j from eq_of_beq z]
  | _ => first | (cases h; done) | cases z
 | .str i, e, _, h, z => by
  cases e with
  | str j => rw [show i = j from eq_of_beq z]
  | _ => first | (cases h; done) | cases z
 | .list l, e, h1, h, z => by
  cases e with
  | list l' => exact congrArg D.list (D.eqvs_eq h1 h z)
  | _ => first | (cases h; done) | cases z
 | .tup l, e, h1, h, z => by
  cases e with
  | tup l' => exact congrArg D.tup (D.eqvs_eq h1 h z)
  | _ => first | (cases h; done) | cases z
 | .val _, _, h, _, _ => by cases h
 | .bool _, _, h, _, _ => by cases h
theorem D.eqvs_eq : ∀ {d e : List D}, D.simps d = true → D.simps e = true → PyData.eqvAll (D.pys d) (D.pys e) = true → d = e
 | [], [], _, _, _ => rfl
 | [], _ :: _, _, _, z => by cases z
 | _ :: _, [], _, _, z => by cases z
 | d :: ds, e :: es, h1, h2, z => by
  rw [D.eqv_eq (and_b h1).1 (and_b h2).1 (and_b z).1, D.eqvs_eq (and_b h1).2 (and_b h2).2 (and_b z).2]
end
mutual
theorem D.eqv_self : ∀ {d : D}, d.simp = true → PyData.eqv d.py d.py = true
 | .none, _ => rfl
 | .int i, _ => by exact beq_self_eq_true i
 | .str i, _ => by exact beq_self_eq_true i
 | .list l, h => by exact D.eqvs_self (d := l) h
 | .tup l, h => by exact D.eqvs_self (d := l) h
 | .val _, h => by cases h
 | .bool _, h => by cases h
theorem D.eqvs_self : ∀ {d : List D}, D.simps d = true → PyData.eqvAll (D.pys d) (D.pys d) = true
 | [], _ => rfl
 | d :: ds, h => by
  show (PyData.eqv d.py d.py && PyData.eqvAll (D.pys ds) (D.pys ds)) = true
  rw [D.eqv_self (and_b h).1, D.eqvs_self (and_b h).2]; rfl
end
theorem D.eqv_iff {d e : D} (h1 : d.simp = true) (h2 : e.simp = true) : PyData.eqv d.py e.py = true ↔ d = e := ⟨D.eqv_eq h1 h2, fun z => by subst z; exact D.eqv_self h1⟩
theorem D.any_iff {ds : List D} {d : D} (h : D.simps ds = true) (hd : d.simp = true) : ((D.pys ds).any fun y => PyData.eqv y d.py) = true ↔ d ∈ ds := by
 induction ds with
 | nil => exact ⟨fun z => (by cases z), fun z => no_nil z⟩
 | cons e r ih =>
  obtain ⟨h1, h2⟩ := and_b h
  show (PyData.eqv e.py d.py || (D.pys r).any fun y => PyData.eqv y d.py) = true ↔ _
  rw [Bool.or_eq_true, D.eqv_iff h1 hd, ih h2, List.mem_cons]
  exact ⟨fun z => z.elim (fun q => .inl q.symm) .inr, fun z => z.elim (fun q => .inl q.symm) .inr⟩
theorem bool_of_iff {a b : Bool} {p : Prop} (h1 : a = true ↔ p) (h2 : b = true ↔ p) : a = b := by
 cases a <;> cases b <;> simp_all
section
variable {c : Cx}
theorem Cmp.as {op : CmpOp} {d e : D} {a b : Bool} (h : Cmp c op d e a) (eq : a = b) : Cmp c op d e b := eq ▸ h
theorem cmp_eqS {k : Nat} (hr : Room c.A k) {d e : D} {b : Bool} (hd : d.simp = true) (he : e.simp = true) (hdep : d.py.depth ≤ 60) (hb : b = true ↔ d = e) : Cmp c .Eq d e b :=
 (cmp_eq hr (D.simp_plain hd) (D.simp_plain he) hdep).as (bool_of_iff (D.eqv_iff hd he) hb)
theorem cmp_neS {k : Nat} (hr : Room c.A k) {d e : D} {b : Bool} (hd : d.simp = true) (he : e.simp = true) (hdep : d.py.depth ≤ 60) (hb : b = true ↔ d ≠ e) : Cmp c .NotEq d e b :=
 (cmp_ne hr (D.simp_plain hd) (D.simp_plain he) hdep).as (bool_of_iff (by rw [Bool.not_eq_true', ← Bool.not_eq_true, D.eqv_iff hd he]) hb)
theorem cmp_inS {k : Nat} (hr : Room c.A k) {d dr : D} {ds : List D} {b : Bool} (l : LstD c dr ds) (hd : d.simp = true) (he : D.simps ds = true) (hdep : d.py.depth ≤ 60) (hb : b = true ↔ d ∈ ds) : Cmp c .In d dr b :=
 (cmp_in hr l (D.simp_plain hd) (D.simps_plains he) hdep).as (bool_of_iff (D.any_iff he hd) hb)
theorem cmp_notinS {k : Nat} (hr : Room c.A k) {d dr : D} {ds : List D} {b : Bool} (l : LstD c dr ds) (hd : d.simp = true) (he : D.simps ds = true) (hdep : d.py.depth ≤ 60) (hb : b = true ↔ d ∉ ds) : Cmp c .NotIn d dr b :=
 (cmp_notin hr l (D.simp_plain hd) (D.simps_plains he) hdep).as (bool_of_iff (by rw [Bool.not_eq_true', ← Bool.not_eq_true, D.any_iff he hd]) hb)
end
theorem simps_map {α : Type} {g : α → D} (h : ∀ x, (g x).simp = true) : ∀ l : List α, D.simps (l.map g) = true
 | [] => rfl
 | x :: r => by show ((g x).simp && D.simps (r.map g)) = true; rw [h x, simps_map h r]; rfl
theorem simp_dI (t : Nat) : (dI t).simp = true := rfl
theorem simp_dIs (l : List Nat) : (dIs l).simp = true := simps_map simp_dI l
theorem nm_cases (t : Nat) : nm t ∈ nmL := by
 unfold nm
 rcases Nat.lt_or_ge t 6 with h | h
 ·exact mem_getD' (l := nmL) h
 ·obtain this : nmL.getD t "" = "" := by simp [List.getD, nmL, h]
  rw [this]; exact .tail _ (.head _)
theorem simp_dN (t : Nat) : (dN t).simp = true := by
 obtain this : ∀ x ∈ nmL, PyData.strOk x = true := by decide +kernel
 exact this _ (nm_cases t)
theorem simp_dNs (l : List Nat) : (dNs l).simp = true := simps_map simp_dN l
theorem mem_map_inj {α : Type} {g : α → D} (hg : ∀ x y, g x = g y → x = y) {x : α} {l : List α} : g x ∈ l.map g ↔ x ∈ l :=
 ⟨fun h => by obtain ⟨y, hy, e⟩ := List.mem_map.mp h; rw [← hg _ _ e]; exact hy, fun h => List.mem_map.mpr ⟨x, h, rfl⟩⟩
end Mine
end
section
open PySem PySem.W PyProof.Rows
namespace Mine
open PySem.Calls
theorem range_dI (n : Nat) : rangeD 0 n 1 = (List.range n).map dI := by
 unfold rangeD dI
 exact List.map_congr_left fun i o_ => by simp
noncomputable def sortN (l : List Nat) : List Nat := l.mergeSort (fun a b => decide (a ≤ b))
theorem sortN_perm (l : List Nat) : (sortN l).Perm l := List.mergeSort_perm l _
theorem sortN_sorted (l : List Nat) : (sortN l).Pairwise (· ≤ ·) := by
 obtain this := List.pairwise_mergeSort (le := fun a b : Nat => decide (a ≤ b)) (fun a b c h1 h2 => by simp at h1 h2 ⊢; grind) (fun a b => by simp; grind) l
 exact this.imp fun h => by simpa using h
theorem sortI_nat (l : List Nat) : sortI (l.map Int.ofNat) = (sortN l).map Int.ofNat :=
 eq_of_sorted_perm ((sortI_perm _).trans ((sortN_perm l).symm.map _)) (sortI_sorted _) (List.pairwise_map.mpr ((sortN_sorted l).imp fun h => by simpa using h))
theorem dI_int (l : List Nat) : l.map dI = (l.map Int.ofNat).map .int := by
 rw [List.map_map]; rfl
section
variable {c : Cx} {s₀ s : Shared} {O : List Addr} {E : Value → Shared → Prop}
theorem ex_rows3 {M₀ : Model} {A₀ : Around} {env₀ : Env} {x : Str} {px pos p p0 p1 p2 : Pos} {Q : Flow → Shared → Prop} (S : Sx c s₀ O s)
  (h : ∀ s' a b0 b1 b2, Sx { c with X := [a, b0, b1, b2] ++ c.X, own := [(a, [.val (.ref b0), .val (.ref b1), .val (.ref b2)]), (b0, []), (b1, []), (b2, [])] ++ c.own, vars := (x, .val (.ref a)) :: c.vars } s₀ O s' → Q .next s')
  (hb : mayBind c.env x = true) (hkf : c.env.scope.kind = .function) (hs : swapsWith (.List [.List [] p0, .List [] p1, .List [] p2] p) (some (.Name x px)) pos.line c.env = pure false)
  (hM₀ : M₀ = model c.prog c.w := by rfl) (hA₀ : A₀ = c.A := by rfl) (hE₀ : env₀ = c.env := by rfl) :
  wpAny M₀ A₀ (exec (.Assign [.Name x px] (.List [.List [] p0, .List [] p1, .List [] p2] p) pos) env₀) Q E s := by
 subst hM₀ hA₀ hE₀
 refine wpAny_Assign_Name (List_ ?_) hs
 obtain one : ∀ q, Evn c (.List [] q) [] := fun q => evn_list evs_nil (by decide)
 refine spliced_more (wpAny_mono (one p0 s E S.ok) (fun v0 s1 h1 => ?_) fun o_ o_ e => e) rfl
 refine cutG fun P_ hP_ => ?_
 obtain ⟨k1, b0, ys0, n0, rfl, f0, g0, r0⟩ := h1
 refine hP_ ?_
 clear hP_ P_
 cases r0
 obtain S1 := S.step k1
 refine spliced_more (wpAny_mono (one p1 s1 E S1.ok) (fun v1 s2 h2 => ?_) fun o_ o_ e => e) rfl
 refine cutG fun P_ hP_ => ?_
 obtain ⟨k2, b1, ys1, n1, rfl, f1, g1, r1⟩ := h2
 refine hP_ ?_
 clear hP_ P_
 cases r1
 obtain S2 := S1.step k2
 refine spliced_more (wpAny_mono (one p2 s2 E S2.ok) (fun v2 s3 h3 => ?_) fun o_ o_ e => e) rfl
 refine cutG fun P_ hP_ => ?_
 obtain ⟨k3, b2, ys2, n2, rfl, f2, g2, r2⟩ := h3
 refine hP_ ?_
 clear hP_ P_
 cases r2
 obtain S3 := S2.step k3
 refine spliced_none ?_
 refine wpAny_newObj_type ?_ (by show 3 ≤ sizeLine; decide)
 have none_of : ∀ {s s' : Shared} {b : Addr}, Kp c.hb [] s s' → s'.heap.get? b = none → s.heap.get? b = none := fun {s s' b} k e => by
  cases q : s.heap.get? b with
  | none => rfl
  | some ob => obtain ⟨o', e', _⟩ := k.data q (fun h => (nomatch h)); exact no_some (e.symm.trans e')
 obtain k03 := (k1.trans k2).trans k3
 have g0' := k3.get (k2.get g0 notFrame_list (fun h => (nomatch h))) notFrame_list (fun h => (nomatch h))
 have g1' := k3.get g1 notFrame_list (fun h => (nomatch h))
 obtain hn01 : b0 ≠ b1 := fun e => by exact clash e f1 g0
 obtain hn02 : b0 ≠ b2 := fun e => by have := k2.get g0 notFrame_list (fun h => (nomatch h)); exact clash e f2 this
 obtain hn12 : b1 ≠ b2 := fun e => by exact clash e f2 g1
 obtain l0 := Heap.lt_size g0'
 obtain l1 := Heap.lt_size g1'
 obtain l2 := Heap.lt_size g2
 obtain kk := k03.trans (Kp.push c.hb s3 { cls := .type "list", data := .seq [Value.ref b0, .ref b1, .ref b2].toArray })
 have T := S.takeL (N := [s3.heap.objs.size, b0, b1, b2]) (M := [(s3.heap.objs.size, [.val (.ref b0), .val (.ref b1), .val (.ref b2)]), (b0, []), (b1, []), (b2, [])]) kk ?_ ?_ ?_ ?_ ?_
 ·exact st_name (c := { c with X := [s3.heap.objs.size, b0, b1, b2] ++ c.X, own := [(s3.heap.objs.size, [.val (.ref b0), .val (.ref b1), .val (.ref b2)]), (b0, []), (b1, []), (b2, [])] ++ c.own }) T hkf (mayBind_of hb) (d := .val (.ref s3.heap.objs.size)) rfl (fun s' S₂ => h s' _ _ _ _ S₂)
 ·simp only [List.forall_mem_cons]
  exact ⟨new_addr k03, f0, none_of k1 f1, none_of (k1.trans k2) f2, fun o_ h => (nomatch h)⟩
 ·simp only [List.forall_mem_cons]
  exact ⟨⟨_, Heap.get?_push_size _ rfl⟩, ⟨_, Heap.get?_push_of_some _ g0'⟩, ⟨_, Heap.get?_push_of_some _ g1'⟩, ⟨_, Heap.get?_push_of_some _ g2⟩, fun o_ h => (nomatch h)⟩
 ·simp
 ·simp only [List.map_cons, List.map_nil, List.nodup_cons, List.mem_cons, List.not_mem_nil, or_false, not_or, List.nodup_nil, and_true, not_false_eq_true]
  exact ⟨⟨(Nat.ne_of_lt l0).symm, (Nat.ne_of_lt l1).symm, (Nat.ne_of_lt l2).symm⟩, ⟨hn01, hn02⟩, hn12⟩
 ·simp only [List.forall_mem_cons]
  exact ⟨⟨_, _, Heap.get?_push_size _ rfl, ⟨_, _, rfl, rfl, _, _, rfl, rfl, _, _, rfl, rfl, rfl⟩⟩, ⟨_, _, Heap.get?_push_of_some _ g0', rfl⟩, ⟨_, _, Heap.get?_push_of_some _ g1', rfl⟩, ⟨_, _, Heap.get?_push_of_some _ g2, rfl⟩, fun o_ h => (nomatch h)⟩
end
noncomputable def layT (x : Int) : Nat := (x.fmod 6).toNat
noncomputable def layR (x : Int) : Nat := ((x.fdiv 6).fmod 3).toNat
noncomputable def putR (r : List Nat) (t : Nat) : List Nat := if t ∈ r then r else r ++ [t]
noncomputable def layStep (st : List Nat × List Nat × List Nat) (x : Int) : List Nat × List Nat × List Nat :=
 if layR x = 0 then (putR st.1 (layT x), st.2.1, st.2.2) else if layR x = 1 then (st.1, putR st.2.1 (layT x), st.2.2) else (st.1, st.2.1, putR st.2.2 (layT x))
noncomputable def laid (xs : List Int) : List Nat × List Nat × List Nat := xs.foldl layStep ([], [], [])
noncomputable def layIn (script : List Int) : List Int := [1, 6, 7, 14] ++ script.take 12
noncomputable def keepK (kind : Int) (k : Nat) : Bool := kind == 0 || (kind == 2 && k == 1)
noncomputable def rowK (kind : Int) (k : Nat) (r : List Nat) : List Nat := if keepK kind k then r else sortN r
noncomputable def rowsF (script : List Int) : List (List Nat) :=
 let st := laid (layIn script)
 let kind := script.sum.fmod 3
 [rowK kind 0 st.1, rowK kind 1 st.2.1, rowK kind 2 st.2.2]
theorem laid_take {xs : List Int} {i : Nat} (h : i < xs.length) : laid (xs.take (i + 1)) = layStep (laid (xs.take i)) (xs.getD i 0) := by
 unfold laid
 rw [List.take_add_one, List.foldl_append]
 simp [List.getD, h]
theorem layT_lt (x : Int) : layT x < 6 := by
 unfold layT
 obtain h1 := Int.fmod_lt_of_pos x (show (0 : Int) < 6 by grind)
 obtain h2 := Int.fmod_nonneg_of_pos x (show (0 : Int) < 6 by grind)
 grind
theorem layT_int (x : Int) : x.fmod 6 = ((layT x : Nat) : Int) := by
 unfold layT
 obtain h2 := Int.fmod_nonneg_of_pos x (show (0 : Int) < 6 by grind)
 grind
theorem layR_lt (x : Int) : layR x < 3 := by
 unfold layR
 obtain h1 := Int.fmod_lt_of_pos (x.fdiv 6) (show (0 : Int) < 3 by grind)
 obtain h2 := Int.fmod_nonneg_of_pos (x.fdiv 6) (show (0 : Int) < 3 by grind)
 grind
theorem layR_int (x : Int) : (x.fdiv 6).fmod 3 = ((layR x : Nat) : Int) := by
 unfold layR
 obtain h2 := Int.fmod_nonneg_of_pos (x.fdiv 6) (show (0 : Int) < 3 by grind)
 grind
noncomputable def rowOk (r : List Nat) : Prop := (∀ t ∈ r, t < 6) ∧ r.Nodup
set_option tactic.hygienic true in
theorem rowOk_put {r : List Nat} {t : Nat} (h : rowOk r) (ht : t < 6) : rowOk (putR r t) := by
 unfold putR
 split
 ·exact h
 ·rename_i hn
  refine ⟨fun u hu => ?_, ?_⟩
  ·rcases List.mem_append.mp hu with z | z
   ·exact h.1 u z
   ·rw [List.mem_singleton.mp z]; exact ht
  ·rw [List.nodup_append]
   exact ⟨h.2, by simp, fun a ha b hb => by rw [List.mem_singleton.mp hb]; exact fun e => hn (e ▸ ha)⟩
theorem nodup_sub_len {α : Type} [DecidableEq α] : ∀ {l l' : List α}, l.Nodup → (∀ x ∈ l, x ∈ l') → l.length ≤ l'.length
 | [], _, _, _ => Nat.zero_le _
 | x :: r, l', hn, h => by
  obtain hx := h x (.head _)
  obtain hn' := List.nodup_cons.mp hn
  obtain this := nodup_sub_len (l := r) (l' := l'.erase x) hn'.2 fun y hy => (List.mem_erase_of_ne (fun (e : y = x) => hn'.1 (e ▸ hy))).mpr (h y (.tail _ hy))
  rw [List.length_erase_of_mem hx] at this
  obtain this : 0 < l'.length := List.length_pos_of_mem hx
  simp only [List.length_cons]; grind
theorem nodup_lt_len {r : List Nat} (h : rowOk r) : r.length ≤ 6 := by
 obtain this := nodup_sub_len (l' := List.range 6) h.2 fun t ht => by simpa using h.1 t ht
 simpa using this
theorem laid_ok : ∀ (xs : List Int) (st : List Nat × List Nat × List Nat), rowOk st.1 → rowOk st.2.1 → rowOk st.2.2 →
  rowOk (xs.foldl layStep st).1 ∧ rowOk (xs.foldl layStep st).2.1 ∧ rowOk (xs.foldl layStep st).2.2
 | [], _, a, b, c => ⟨a, b, c⟩
 | x :: r, st, a, b, c => by
  rw [List.foldl_cons]
  refine laid_ok r _ ?_ ?_ ?_ <;> unfold layStep <;> split <;> (try split) <;> first | assumption | (refine rowOk_put ?_ (layT_lt x); assumption)
theorem laid_ok' (xs : List Int) : rowOk (laid xs).1 ∧ rowOk (laid xs).2.1 ∧ rowOk (laid xs).2.2 := laid_ok xs _ ⟨fun o_ h => (nomatch h), .nil⟩ ⟨fun o_ h => (nomatch h), .nil⟩ ⟨fun o_ h => (nomatch h), .nil⟩
theorem Et.as {c : Cx} {e : Expr} {a b : Bool} (h : Et c e a) (eq : a = b) : Et c e b := eq ▸ h
theorem call_sortedN {c : Cx} {d : D} {l : List Nat} (hl : LstD c d (l.map dI)) (h64 : l.length < 64) : CallP c (.builtin "sorted") [d] (dIs (sortN l)) := by
 have := call_sorted (c := c) (d := d) (l := l.map Int.ofNat) (by rw [← dI_int]; exact hl) (by rwa [List.length_map])
 rw [sortI_nat, ← dI_int] at this
 exact this
theorem depth_dI (t : Nat) : (dI t).py.depth ≤ 60 := by
 simp [dI, D.py, PyData.depth]
theorem depth_map {α : Type} {g : α → D} {n : Nat} (h : ∀ x, (g x).py.depth ≤ n) : ∀ l : List α, PyData.depthAll (D.pys (l.map g)) ≤ n
 | [] => by simp [D.pys, PyData.depthAll]
 | x :: r => by
  obtain h1 := h x
  obtain h2 := depth_map h r
  simp only [List.map_cons, D.pys, PyData.depthAll]
  grind
set_option tactic.hygienic true in
theorem rows_spec {c : Cx} {k : Nat} (hr : Room c.A (k + 1)) {hb₀ : Heap} (G : Gl hb₀) {script : List Int} (hlen : script.length ≤ 1000) (hh : c.hb = hb₀ := by rfl) :
  CallP c (.ref 76) [.list (script.map .int)] (dRows (rowsF script)) := by
 subst hh
 refine callP_fn (G.fn 13 76 (by simp)) (bd := [("script", .list (script.map .int))]) hr ?_ ?_ (by simp) (fun n => by rfl) (by exact (by decide : (["kind", "rows"] : List Str).Nodup)) rfl rfl rfl
 ·rintro s vs o ⟨v, _, rfl, h1, rfl⟩
  exact ⟨[("script", v)], fun o_ o_ o_ o_ o_ => BindsTo.of_eq rfl, rfl, ⟨v, _, rfl, h1, rfl⟩⟩
 ·intro L s s₁ o S
  dsimp only [fnCx] at S
  have hr' := hr.deeper (fnEnv (fName 13) (fScope 13) L 76 (.ref 75))
  refine ex_cons ?_
  refine ex_rows3 S (fun s₂ a b0 b1 b2 S₂ => ?_) rfl rfl rfl
  dsimp only [List.cons_append, List.nil_append] at S₂
  refine ex_cons ?_
  refine ex_for (V := fun o_ => [("rows", .val (.ref a)), ("script", .list (script.map .int))]) (W := fun i => [(a, [.val (.ref b0), .val (.ref b1), .val (.ref b2)]), (b0, (laid ((layIn script).take i)).1.map dI), (b1, (laid ((layIn script).take i)).2.1.map dI), (b2, (laid ((layIn script).take i)).2.2.map dI)]) S₂
   (src_list (k := k) (ds := (layIn script).map .int) hr' ((ev_cat (ev_list (evs_cons ev_int (evs_cons ev_int (evs_cons ev_int (evs_cons ev_int evs_nil)))) (by decide)) .val (ev_slice_upto (k := 12) (ev_var rfl) .val ev_int (by rw [List.length_map]; unfold sizeLine; grind)) .val (by simp; unfold sizeLine; grind)).weak (by simp [layIn]))) (mine_sub S₂) lk_id rfl (fun o_ => rfl) ?_ ?_ rfl rfl
  ·intro i d I s₃ s₄ hd S₄
   dsimp only at S₄
   obtain ⟨hi, rfl⟩ := at_map (z := 0) hd
   obtain hstep := laid_take hi
   obtain hok := laid_ok' ((layIn script).take i)
   generalize (layIn script).getD i 0 = x at S₄ hstep
   generalize laid ((layIn script).take i) = st at S₄ hstep hok
   obtain ⟨b, r, W', hrk, hb, u, h1, h2⟩ : ∃ (b : Addr) (r : List Nat) (W' : List (Addr × List D)), rowOk r ∧ [D.val (.ref b0), .val (.ref b1), .val (.ref b2)][((layR x : Nat) : Int).toNat]? = some (.val (.ref b)) ∧
     OwnUpd b (r.map dI) ((r ++ [layT x]).map dI) [(a, [.val (.ref b0), .val (.ref b1), .val (.ref b2)]), (b0, st.1.map dI), (b1, st.2.1.map dI), (b2, st.2.2.map dI)] W' ∧
     (layT x ∈ r → laid ((layIn script).take (i + 1)) = st) ∧ (layT x ∉ r → W' = [(a, [.val (.ref b0), .val (.ref b1), .val (.ref b2)]), (b0, (laid ((layIn script).take (i + 1))).1.map dI), (b1, (laid ((layIn script).take (i + 1))).2.1.map dI), (b2, (laid ((layIn script).take (i + 1))).2.2.map dI)]) := by
    rcases (show layR x = 0 ∨ layR x = 1 ∨ layR x = 2 by have := layR_lt x; grind) with h | h | h
    ·refine ⟨b0, st.1, _, hok.1, (by rw [h]; rfl), (.tail .head), (fun hm => ?_), (fun hm => ?_)⟩ <;> rw [hstep] <;> simp [layStep, h, putR, hm]
    ·refine ⟨b1, st.2.1, _, hok.2.1, (by rw [h]; rfl), (.tail (.tail .head)), (fun hm => ?_), (fun hm => ?_)⟩ <;> rw [hstep] <;> simp [layStep, h, putR, hm]
    ·refine ⟨b2, st.2.2, _, hok.2.2, (by rw [h]; rfl), (.tail (.tail (.tail .head))), (fun hm => ?_), (fun hm => ?_)⟩ <;> rw [hstep] <;> simp [layStep, h, putR, hm]
   refine ex_cons ?_
   refine ex_if (b := decide (layT x ∉ r)) S₄ (et_cmp ((ev_mod (ev_var rfl) ev_int (by decide)).weak (d' := dI (layT x)) (by rw [layT_int]; rfl)) (ev_item (ev_var rfl) (.own (.head _)) ((ev_mod (ev_fdiv (ev_var rfl) ev_int (by decide) (by decide)) ev_int (by decide)).weak (by rw [layR_int])) (by grind) (by have := layR_lt x; grind) hb) (cmp_notinS hr' (.own u.mem) (simp_dI _) (simps_map simp_dI _) (depth_dI _) (by rw [mem_map_inj dI_inj]; simp))) ?_ ?_
   ·intro hn s₅ S₅
    refine ex_cons ?_
    refine ex_meth S₅ (ev_item (ev_var rfl) (.own (.head _)) ((ev_mod (ev_fdiv (ev_var rfl) ev_int (by decide) (by decide)) ev_int (by decide)).weak (by rw [layR_int])) (by grind) (by have := layR_lt x; grind) hb) u (evs_cons ((ev_mod (ev_var rfl) ev_int (by decide)).weak (d' := dI (layT x)) (by rw [layT_int]; rfl)) evs_nil) (by rw [List.map_append]; exact meth_append (S₅.offs.x _ (List.mem_map.mpr ⟨_, u.mem, rfl⟩)) (by have := nodup_lt_len hrk; rw [List.length_map]; unfold sizeLine; grind)) F.slot_list_append F.type_list_append (fun s₆ S₆ => ?_) rfl rfl rfl
    refine ex_nil ?_
    refine ex_nil ?_
    rw [h2 (by simpa using hn)] at S₆
    exact S₆.vars (lk_skip lk_id)
   ·intro hn s₅ S₅
    refine ex_nil ?_
    refine ex_nil ?_
    obtain e := h1 (by simpa using hn)
    rw [← e] at S₅
    exact S₅.vars (lk_skip lk_id)
  ·intro s₃ S₃
   refine ex_nil ?_
   rw [List.length_map, List.take_length] at S₃
   dsimp only at S₃ ⊢
   obtain hok := laid_ok' (layIn script)
   obtain hrF : rowsF script = [rowK (script.sum.fmod 3) 0 (laid (layIn script)).1, rowK (script.sum.fmod 3) 1 (laid (layIn script)).2.1, rowK (script.sum.fmod 3) 2 (laid (layIn script)).2.2] := rfl
   generalize laid (layIn script) = st at S₃ hok hrF
   refine ex_cons ?_
   refine ex_assign S₃ (ev_mod (ev_call (ev_bi G rfl) (evs_cons (ev_var rfl) evs_nil) kpr_builtin (call_sum hr' .val)) ev_int (by decide)) (fun s₄ S₄ => ?_) rfl rfl rfl
   dsimp only at S₄
   refine ex_cons ?_
   refine ex_return S₄ (ev_compA (l := List.range 3) (g := dI) (p := fun o_ => true) (f := fun k => if keepK (script.sum.fmod 3) k then .val (.ref (if k = 0 then b0 else if k = 1 then b1 else b2)) else dIs (sortN (if k = 0 then st.1 else if k = 1 then st.2.1 else st.2.2))) dI_inj
    ((src_range1 (n := 3) (Ob := []) hr' (ev_bi G rfl) ev_int (by grind)).as (range_dI 3)) rfl (fun q hq => S₄.offs.x _ (List.mem_map.mpr ⟨_, hq, rfl⟩)) (fun o_ o_ o_ o_ o_ => tests_nil) (fun k' C Dd I hk o_ => ?_) (by decide)) ?_
   ·have hk3 : k' = 0 ∨ k' = 1 ∨ k' = 2 := by have := List.mem_range.mp hk; grind
    obtain ⟨b, rr, hb, hm, hrk, e1, e2⟩ : ∃ (b : Addr) (rr : List Nat), [D.val (.ref b0), .val (.ref b1), .val (.ref b2)][((k' : Nat) : Int).toNat]? = some (.val (.ref b)) ∧ (b, rr.map dI) ∈ [(a, [D.val (.ref b0), .val (.ref b1), .val (.ref b2)]), (b0, st.1.map dI), (b1, st.2.1.map dI), (b2, st.2.2.map dI)] ∧ rowOk rr ∧
      (if k' = 0 then b0 else if k' = 1 then b1 else b2) = b ∧ (if k' = 0 then st.1 else if k' = 1 then st.2.1 else st.2.2) = rr := by
     rcases hk3 with h | h | h <;> subst h
     ·exact ⟨b0, st.1, rfl, .tail _ (.head _), hok.1, rfl, rfl⟩
     ·exact ⟨b1, st.2.1, rfl, .tail _ (.tail _ (.head _)), hok.2.1, rfl, rfl⟩
     ·exact ⟨b2, st.2.2, rfl, .tail _ (.tail _ (.tail _ (.head _))), hok.2.2, rfl, rfl⟩
    rw [e1, e2]
    refine ev_if (p := keepK (script.sum.fmod 3) k') (Et.as (et_or (et_cmp (ev_var rfl) ev_int cmp_eq_int) (fun o_ => et_or (et_and (et_cmp (ev_var rfl) ev_int cmp_eq_int) (fun o_ => et_and (et_cmp (ev_var rfl) ev_int cmp_eq_int) (fun o_ => et_and_nil))) (fun o_ => et_or_nil))) ?_) (fun h => ?_) (fun h => ?_)
    ·unfold keepK
     rw [Bool.and_true, Bool.or_false]
     congr 2
     rcases hk3 with h | h | h <;> subst h <;> rfl
    ·rw [if_pos h]
     exact ev_item (ev_var rfl) (.own (.head _)) (ev_var rfl) (by grind) (by grind) hb
    ·rw [if_neg (by rw [h]; decide)]
     exact ev_call (ev_bi G rfl) (evs_cons (ev_item (ev_var rfl) (.own (.head _)) (ev_var rfl) (by grind) (by grind) hb) evs_nil) kpr_builtin (call_sortedN (.own hm) (by have := nodup_lt_len hrk; grind))
   ·intro s₅ v S₅ r
    refine ⟨v, rfl, S₅.kp, ?_⟩
    have hX : ∀ b ∈ c.X, b ∈ a :: b0 :: b1 :: b2 :: (homes (fnEnv (fName 13) (fScope 13) L 76 (Value.ref (76 - 1))) ++ c.X) := fun b hb => by simp [hb]
    have thaw : ∀ (k' : Nat) (b : Addr) (rr : List Nat) (v : Value), (b, rr.map dI) ∈ [(a, [D.val (.ref b0), .val (.ref b1), .val (.ref b2)]), (b0, st.1.map dI), (b1, st.2.1.map dI), (b2, st.2.2.map dI)] →
      Rep (a :: b0 :: b1 :: b2 :: (homes (fnEnv (fName 13) (fScope 13) L 76 (Value.ref (76 - 1))) ++ c.X)) s₅.heap (if keepK (script.sum.fmod 3) k' then .val (.ref b) else dIs (sortN rr)) v → Rep c.X s₅.heap (dIs (rowK (script.sum.fmod 3) k' rr)) v := fun k' b rr v hm hv => by
     unfold rowK
     split at hv
     ·rename_i hk
      rw [if_pos hk]
      cases hv
      obtain ⟨_, e, _, hq⟩ := ret_own o S₅ hm hX
      cases e
      exact hq
     ·rename_i hk
      rw [if_neg hk]
      exact hv.sub hX
    obtain ⟨l, vs, n, rfl, hl, hg, v0, _, rfl, h0, v1, _, rfl, h1, v2, _, rfl, h2, rfl⟩ := r
    rw [hrF]
    exact ⟨l, _, n, rfl, fun q => hl (hX _ q), hg, v0, _, rfl, thaw 0 b0 st.1 v0 (.tail _ (.head _)) h0, v1, _, rfl, thaw 1 b1 st.2.1 v1 (.tail _ (.tail _ (.head _))) h1, v2, _, rfl, thaw 2 b2 st.2.2 v2 (.tail _ (.tail _ (.tail _ (.head _)))) h2, rfl⟩
end Mine
end
section
open PySem PySem.W PyProof.Rows
namespace Mine
open PySem.Calls
namespace BM
theorem slot_get : Slot "method_descriptor" "__get__" "method_descriptor.__get__" :=
 .of (owner := "method_descriptor") (n := "__get__") (by rw [typeLookup_type, builtinLookup_eq_fast]; kernel_rfl) (by decide +kernel) (by decide +kernel) (by decide +kernel)
  (by first | exact .inl (by decide +kernel) | exact .inr (by decide +kernel)) (by rw [isSubtype_type]; kernel_rfl)
theorem entry_get : entryFor table "method_descriptor.__get__" = some Builtin.«method_descriptor.__get__» := entryFor_of_tree (by kernel_rfl)
theorem args_get (a b c : Value) : argsOk "method_descriptor.__get__" ⟨[a, b, c], []⟩ := by unfold argsOk; kernel_rfl
theorem get_look : specialOf (.builtin "list.index") "__get__" = pure (some (.builtin "method_descriptor.__get__")) := by
 unfold specialOf; rw [F.type_list_index]; exact slot_get.lookup
theorem set_look : specialOf (.builtin "list.index") "__set__" = pure none := by
 unfold specialOf; rw [F.type_list_index]; show typeLookup _ _ = _; rw [typeLookup_type, builtinLookup_eq_fast]; kernel_rfl
theorem del_look : specialOf (.builtin "list.index") "__delete__" = pure none := by
 unfold specialOf; rw [F.type_list_index]; show typeLookup _ _ = _; rw [typeLookup_type, builtinLookup_eq_fast]; kernel_rfl
noncomputable abbrev bound (a : Addr) : Obj := { cls := .type "builtin_function_or_method", data := .fields #[.builtin "list.index", .ref a] }
theorem owner_ix : (kfb_private% "ownerAndName") "list.index" = ("list", "index") := by first | decide +kernel | kernel_rfl
section
variable {M : Model} {A : Around} {E : Value → Shared → Prop} {s : Shared}
theorem run_get {a : Addr} {P : Fin → Shared → Prop} (hT : s.TypeIs (.ref a) "list") (h : P (.done (.ret (.ref s.heap.objs.size))) { s with heap := s.heap.push (bound a) }) :
  wpAny M A (Builtin.«method_descriptor.__get__» ⟨[.builtin "list.index", .ref a, .type "list"], []⟩) P E s := by
 unfold Builtin.«method_descriptor.__get__»
 refine wpAny_bind (wpAny_of_eq (a := (.builtin "list.index", some (.ref a), some (.type "list"))) (by first | rfl | kernel_rfl) ?_)
 dsimp only
 refine KFB.if_not (by decide +kernel) ?_
 obtain e1 : (kfb_private% "nameAndClass") (.builtin "list.index") = pure (Str.ofString "index", Value.type "list") := by
  show (match (kfb_private% "ownerAndName") "list.index" with | (owner, name) => pure (Str.ofString name, Value.type owner)) = _
  rw [owner_ix]
 show wpAny M A ((kfb_private% "checkInstance") (.builtin "list.index") (.ref a) >>= fun o_ => (newFields "builtin_function_or_method" [.builtin "list.index", .ref a] >>= fun v => ret v)) P E s
 refine wpAny_bind ?_
 refine wpAny_bind (wpAny_of_eq e1 ?_)
 refine wpAny_bind (wpAny_isInstance hT (b := true) (by rw [isSubtype_type]; kernel_rfl) ?_)
 refine KFB.if_not rfl ?_
 refine wpAny_pure ?_
 exact wpAny_bind (wpAny_newObj_type (wpAny_pure h))
theorem meets_hit (a : Addr) (xs : Array Value) (k : Nat) (u : Tok) :
  Meets (Builtin.«object.__getattribute__» ⟨[.ref a, .str "index" u], []⟩) (fun o_ R s => s.heap.get? a = some { cls := .type "list", dict := none, data := .seq xs k } ∧ R (.ok (.ret (.ref s.heap.objs.size))) { s with heap := s.heap.push (bound a) }) :=
 Meets.of_wp fun prog w A R s hs => by
  obtain ⟨hp, g, d, tk, os⟩ := s
  obtain ⟨hx, hs⟩ := hs
  obtain hT : (⟨hp, g, d, tk, os⟩ : Shared).TypeIs (.ref a) "list" := ⟨_, hx, rfl⟩
  unfold Builtin.«object.__getattribute__»
  refine wpAny_bind (wpAny_of_eq (a := (.ref a, [.str "index" u])) (by first | rfl | kernel_rfl) ?_)
  dsimp only
  refine wpAny_bind (wpAny_of_eq (a := (Str.ofString "index")) (by first | rfl | kernel_rfl) ?_)
  refine wpAny_bind (wpAny_typeOf hT ?_)
  refine wpAny_bind ?_
  unfold Builtin.ObjectAttr.find
  refine wpAny_bind (wpAny_of_eq F.slot_list_index.lookup ?_)
  refine wpAny_bind (wpAny_of_eq get_look ?_)
  refine wpAny_bind ?_
  show wpAny _ _ (Builtin.ObjectAttr.takesStores (.builtin "list.index") >>= _) _ _ _
  refine wpAny_bind ?_
  unfold Builtin.ObjectAttr.takesStores
  refine wpAny_bind (wpAny_of_eq set_look ?_)
  refine KFB.if_not rfl ?_
  refine wpAny_bind (wpAny_of_eq del_look ?_)
  refine wpAny_pure ?_
  refine KFB.if_not rfl ?_
  refine wpAny_pure ?_
  dsimp only
  unfold Builtin.ObjectAttr.ownThenClass
  refine wpAny_bind ?_
  repeat (any_goals (first | assumption | ((with_reducible show wpAny _ _ (call (Value.builtin "method_descriptor.__get__") _ _) _ _ _); refine wpAny_call_entry slot_get F.type_list_index entry_get (run_get hT ⟨_, rfl, wpAny_pure ⟨_, rfl, hs⟩⟩) (args_get _ _ _)) | wp_step))
end
section
variable {prog : Program} {w : World} {A : Around} {E : Value → Shared → Prop} {s : Shared}
theorem getAttr_index {a : Addr} {xs : Array Value} {k : Nat} {Q : Value → Shared → Prop} (hx : s.heap.get? a = some { cls := .type "list", dict := none, data := .seq xs k })
  (h : Q (.ref s.heap.objs.size) { s with heap := s.heap.push (bound a), toks := s.toks + 1 }) : wpAny (model prog w) A (getAttr (.ref a) "index" true) Q E s := by
 obtain ⟨hp, g, d, tk, os⟩ := s
 have hT : ∀ tk', (⟨hp, g, d, tk', os⟩ : Shared).TypeIs (.ref a) "list" := fun o_ => ⟨_, hx, rfl⟩
 obtain f3 := F.slot_list_getattribute.lookup
 obtain f4 := F.slot_list_getattribute.bind (.ref a)
 unfold getAttr getAttrBy
 repeat (any_goals (first | assumption | exact hT _ | ((with_reducible show wpAny _ _ (call (Value.builtin "list.__getattribute__") _ _) _ _ _); refine call_meets F.slot_list_getattribute (hT _) am_entry_list_getattribute (F.args_list_getattribute_2 _ _) (meets_hit a xs k _) ⟨hx, ?_⟩) | wp_step))
 show wpAny _ _ (handedOut _) _ _ _
 exact wpAny_pure h
theorem call_bound {q a : Addr} {v : Value} {xs : Array Value} {k : Nat} {R : Result → Shared → Prop} (hq : s.heap.get? q = some (bound a)) (hx : s.heap.get? a = some { cls := .type "list", dict := none, data := .seq xs k })
  (h : codeAny (model prog w) A (.builtin "list.index" ⟨[.ref a, v], []⟩) R s) : codeAny (model prog w) A (.call (.ref q) ⟨[v], []⟩) R s := by
 obtain hT : s.TypeIs (.ref a) "list" := ⟨_, hx, rfl⟩
 refine codeAny_of_tree ?_
 show wpAny _ A.in1 (callAny (.ref q) ⟨[v], []⟩) _ _ s
 dsimp only [callAny]
 refine wpAny_bind (wpAny_load hq ?_)
 dsimp only [show (Value.type "builtin_function_or_method" == Value.type "method" || Value.type "builtin_function_or_method" == Value.type "builtin_function_or_method" || Value.type "builtin_function_or_method" == Value.type "method-wrapper") = true by decide, if_true]
 refine KFB.if_so (by decide) ?_
 refine wpAny_bind ?_
 unfold checkBoundCall
 obtain e1 : Manifest.signature? "list.index" = some ⟨.positional, "list.index", "index", .self, [⟨"value", .posOnly, true⟩, ⟨"start", .posOnly, false⟩, ⟨"stop", .posOnly, false⟩]⟩ := by kernel_rfl
 obtain e2 : builtinKind "list.index" = some .method := by decide +kernel
 dsimp only [e1, e2]
 refine wpAny_bind (wpAny_isInstance hT (b := false) (by rw [isSubtype_type]; kernel_rfl) ?_)
 refine KFB.if_not (by decide +kernel) ?_
 refine wpAny_bind ?_
 show wpAny _ _ (isType (.ref a)) _ _ _
 unfold isType
 refine wpAny_bind (wpAny_loadPart' hx (wpAny_pure ?_))
 refine KFB.if_not rfl ?_
 refine wpAny_bind (wpAny_typeOf hT ?_)
 dsimp only
 refine wpAny_of_eq (a := ()) (by first | rfl | kernel_rfl) ?_
 refine wpAny_bind (wpAny_pure (wpAny_pure ?_))
 exact ⟨Code.quiet_builtin _ (by decide +kernel), h⟩
end
end BM
section
variable {prog : Program} {w : World} {A : Around} {E : Value → Shared → Prop} {hb : Heap} {s : Shared} {l q I S : Addr} {vs : List Value} {n : Nat} {R : Result → Shared → Prop} {Q : Value → Shared → Prop}
noncomputable abbrev sq (xs : Array Value) (c : Nat) : Obj := { cls := .type "list", data := .seq xs c }
theorem min_loop (kf : Nat → Int) (hh : A.handled = none) (hl : s.heap.get? l = some (listO vs n)) (hI : s.heap.get? I = none) (hS : s.heap.get? S = none) (hSI : S ≠ I)
  (turn : ∀ (i : Nat) (v : Value) (s' : Shared), vs[i]? = some v → Kp hb [] s s' → wpAny (model prog w) A.in1 (call (.ref q) [v]) (fun r s'' => Kp hb [] s' s'' ∧ ∃ t, r = .int (kf i) t) (fun o_ o_ => False) s')
  (hR : ∀ i v s', vs[i]? = some v → (∀ j, j < vs.length → kf i ≤ kf j ∧ (j < i → kf i < kf j)) → Kp hb [] s s' → R (.ok (.ret v)) s') :
  ∀ (r j i : Nat) (s' : Shared) (vb : Value) (tb : Tok) (c : Nat), vs.length - (j + 1) = r → j + 1 ≤ vs.length → Kp hb [] s s' →
   s'.heap.get? S = some (sq #[vb, .int (kf i) tb] c) → s'.heap.IsListIter I l (j + 1) → vs[i]? = some vb → i ≤ j → (∀ j', j' ≤ j → kf i ≤ kf j' ∧ (j' < i → kf i < kf j')) →
   codeAny (model prog w) A (.builtin "min.loop" ⟨[.ref I, .ref q, .ref S], []⟩) R s' := by
 have hname : (toString "min" ++ toString ".loop" : String) = "min.loop" := by decide
 obtain hlI : l ≠ I := fun e => by exact clash e hI hl
 have W := Walks.list (prog := prog) (w := w) (A := A.in1) hh I l hlI vs.toArray
 have hsz : vs.toArray.size = vs.length := List.size_toArray ..
 obtain hlS : l ≠ S := fun e => by exact clash e hS hl
 have lst : ∀ {s' : Shared}, Kp hb [] s s' → s'.heap.IsList l vs.toArray := fun {s'} k => ⟨_, k.get hl notFrame_list (fun h => (nomatch h)), rfl, n, rfl⟩
 obtain nfS : ∀ {xs : Array Value} {c : Nat}, notFrame (sq xs c) := fun {xs c} _ _ h => by cases h
 have oneI : ∀ a ∈ [I], a ∈ ([] : List Addr) ∨ s.heap.get? a = none := fun a ha => .inr (by rw [List.mem_singleton.mp ha]; exact hI)
 have oneS : ∀ a ∈ [S], a ∈ ([] : List Addr) ∨ s.heap.get? a = none := fun a ha => .inr (by rw [List.mem_singleton.mp ha]; exact hS)
 intro r
 induction r with
 | zero =>
  intro j i s' vb tb c hr hj k nS hit hvb hij hbest
  obtain hin : j + 1 = vs.length := by grind
  refine codeAny_builtin PySem.F.entry_min_loop ?_
  rw [Around.under_plainId PySem.F.plain_min_loop _]
  show wpAny _ A.in1 (seqItems? (.ref S) >>= _) _ _ _
  refine wpAny_bind (wpAny_seqItems nS rfl ?_)
  show wpAny _ A.in1 (tryCatch (pyNext (.ref I)) _ >>= _) _ _ _
  refine wpAny_bind (wpAny_tryCatch (W.done _ _ _ ⟨by rw [hsz, ← hin]; exact hit, lst k⟩ fun h' tk' hk' => ?_))
  obtain kI : Kp hb [I] s' { s' with heap := h', toks := tk' } := ⟨h', tk', rfl, fun b o e hb' => .inl (hk' b o hb' e)⟩
  obtain hS' := hk' S _ (by simpa using hSI) nS
  obtain s1 := Heap.SameBut.update h' S (Obj.mapSeq fun o_ => (#[] : Array Value))
  show wpAny _ A.in1 (updateSeq S (fun o_ => #[]) >>= _) _ _ _
  refine wpAny_bind ?_
  refine wpAny_updateSeq hS' rfl (wpAny_bind (wpAny_letGo (wpAny_pure ?_)))
  obtain kS : Kp hb [S] { s' with heap := h', toks := tk' } { s' with heap := h'.update S (Obj.mapSeq fun o_ => (#[] : Array Value)), toks := tk' } := sameBut_kp (s := { s' with heap := h', toks := tk' }) s1 tk'
  exact hR i vb _ hvb (fun j' hj' => hbest j' (by grind)) ((k.join kI oneI).join kS oneS)
 | succ r ih =>
  intro j i s' vb tb c hr hj k nS hit hvb hij hbest
  have hlt : j + 1 < vs.length := by grind
  refine codeAny_builtin PySem.F.entry_min_loop ?_
  rw [Around.under_plainId PySem.F.plain_min_loop _]
  show wpAny _ A.in1 (seqItems? (.ref S) >>= _) _ _ _
  refine wpAny_bind (wpAny_seqItems nS rfl ?_)
  show wpAny _ A.in1 (tryCatch (pyNext (.ref I)) _ >>= _) _ _ _
  refine wpAny_bind (wpAny_tryCatch (W.item (j + 1) _ _ _ (by rw [hsz]; exact hlt) ⟨hit, lst k⟩ fun v h' tk' hP hst' hk' => ?_))
  have hv : vs[j + 1]? = some v := by simpa using hP
  obtain ⟨oI', hoI', hoc, hod⟩ := id hst'.1
  obtain kI : Kp hb [I] s' { s' with heap := h', toks := tk' } := ⟨h', tk', rfl, fun b o e hb' => .inl (hk' b o hb' e)⟩
  have k1 := k.join kI oneI
  obtain hS' := hk' S _ (by simpa using hSI) nS
  show wpAny _ A.in1 (tryCatch (holding [v] (call (.ref q) [v])) _ >>= _) _ _ _
  refine wpAny_bind (wpAny_tryCatch (wpAny_holding (wpAny_mono (turn (j + 1) v { s' with heap := h', toks := tk' } hv k1) (fun x s'' he => ?_) fun o_ o_ hF => hF.elim)))
  obtain ⟨k2, t2, rfl⟩ := he
  have nS2 : s''.heap.get? S = some (sq #[vb, .int (kf i) tb] c) := k2.get hS' nfS (fun h => (nomatch h))
  have nI2 : s''.heap.get? I = some oI' := k2.get hoI' (fun es n h => by cases hod.symm.trans h) (fun h => (nomatch h))
  obtain hit2 : s''.heap.IsListIter I l (j + 1 + 1) := ⟨oI', nI2, hoc, hod⟩
  have k3 := k1.trans k2
  show wpAny _ A.in1 (tryCatch (holding [v, .int (kf (j + 1)) t2] (richCompare .Lt (.int (kf (j + 1)) t2) (.int (kf i) tb) >>= _)) _ >>= _) _ _ _
  refine wpAny_bind (wpAny_tryCatch (wpAny_holding (wpAny_bind (CmpOf.ints_lt (prog := prog) (w := w) (A := A.in1) (P := fun i v => ∃ t, v = .int (kf i) t) kf (fun i v h => h) (j + 1) i _ _ _ _ _ ⟨t2, rfl⟩ ⟨tb, rfl⟩ ?_))))
  refine wpAny_bind (wpAny_holding (wpAny_truthy_bool ?_))
  refine wpAny_bind (wpAny_letGo (wpAny_pure ?_))
  by_cases hb' : kf (j + 1) < kf i
  ·have s1 := Heap.SameBut.update s''.heap S (Obj.mapSeq fun o_ => #[v, .int (kf (j + 1)) t2])
   obtain ⟨c2, hc2⟩ : ∃ c2, (s''.heap.update S (Obj.mapSeq fun o_ => #[v, .int (kf (j + 1)) t2])).get? S = some (sq #[v, .int (kf (j + 1)) t2] c2) := ⟨_, get?_update_seq nS2 fun o_ => #[v, .int (kf (j + 1)) t2]⟩
   simp only [hb', decide_true, if_true]
   refine wpAny_bind ?_
   refine wpAny_updateSeq nS2 rfl (wpAny_bind (wpAny_letGo ?_))
   rw [hname]
   obtain kS : Kp hb [S] s'' { s'' with heap := s''.heap.update S (Obj.mapSeq fun o_ => #[v, .int (kf (j + 1)) t2]) } := sameBut_kp (s := s'') s1 s''.toks
   refine wpAny_pure ⟨plainId_quiet PySem.F.plain_min_loop _, ih (j + 1) (j + 1) _ v t2 c2 (by grind) hlt (k3.join kS oneS) hc2 ⟨oI', (s1.2 I hSI.symm).trans nI2, hoc, hod⟩ hv (Nat.le_refl _) fun j' hj' => ?_⟩
   by_cases e : j' = j + 1
   ·subst e
    exact ⟨by grind, fun o_ => by grind⟩
   ·obtain hb1 := hbest j' (by grind)
    obtain hb2 := hb1.1
    exact ⟨by grind, fun o_ => by grind⟩
  ·simp only [hb', decide_false, Bool.false_eq_true, if_false]
   refine wpAny_bind (wpAny_letGo ?_)
   rw [hname]
   refine wpAny_pure ⟨plainId_quiet PySem.F.plain_min_loop _, ih (j + 1) i _ vb tb c (by grind) hlt k3 nS2 hit2 hvb (by grind) fun j' hj' => ?_⟩
   by_cases e : j' = j + 1
   ·subst e
    exact ⟨by grind, fun o_ => by grind⟩
   ·exact hbest j' (by grind)
theorem min_key (kf : Nat → Int) (hh : A.handled = none) (hl : s.heap.get? l = some (listO vs n)) (hne : 0 < vs.length)
  (turn : ∀ (i : Nat) (v : Value) (s' : Shared), vs[i]? = some v → Kp hb [] s s' → wpAny (model prog w) A.in1 (call (.ref q) [v]) (fun r s'' => Kp hb [] s' s'' ∧ ∃ t, r = .int (kf i) t) (fun o_ o_ => False) s')
  (hQ : ∀ i v s', vs[i]? = some v → (∀ j, j < vs.length → kf i ≤ kf j ∧ (j < i → kf i < kf j)) → Kp hb [] s s' → Q v s') :
  wpAny (model prog w) A (call (.builtin "min") [.ref l] [(Str.ofString "key", .ref q)]) Q E s := by
 have hname : (toString "min" ++ toString ".loop" : String) = "min.loop" := by decide
 obtain hls : s.heap.IsList l vs.toArray := ⟨_, hl, rfl, n, rfl⟩
 refine kmk_tree PySem.F.kind_min PySem.F.plain_min PySem.F.entry_min (kmk_min_key _ _) ?_
 show wpAny _ A.in1 (Builtin.Builtins.bindParams "min" ["key", "default"] 0 ⟨[], [(Str.ofString "key", .ref q)]⟩ >>= _) _ _ s
 refine wpAny_bind (wpAny_of_eq (show Builtin.Builtins.bindParams "min" ["key", "default"] 0 ⟨[], [(Str.ofString "key", .ref q)]⟩ = pure [some (.ref q), none] from rfl) ?_)
 refine wpAny_bind (wpAny_pure ?_)
 refine wpAny_bind (wpAny_pyIter_list hls ?_)
 refine wpAny_bind (wpAny_newList ?_ (Nat.zero_le _))
 rw [hname]
 generalize hH : s.heap.push { cls := .type "list_iterator", data := .fields #[.ref l, .int 0 0] } = H
 have hS : H.objs.size = s.heap.objs.size + 1 := by rw [← hH]; exact size_push' ..
 have hSI : H.objs.size ≠ s.heap.objs.size := by rw [hS]; exact Nat.ne_of_gt (Nat.lt_succ_self _)
 have fI : s.heap.get? s.heap.objs.size = none := Heap.get?_none_of_le (Nat.le_refl _)
 have fS : s.heap.get? H.objs.size = none := Heap.get?_none_of_le (by rw [hS]; exact Nat.le_succ _)
 refine wpAny_pure ⟨plainId_quiet PySem.F.plain_min_loop _, ?_⟩
 obtain gI : (H.push (sq #[] 0)).get? s.heap.objs.size = some { cls := .type "list_iterator", data := .fields #[.ref l, .int 0 0] } :=
  Heap.get?_push_of_some _ (hH ▸ Heap.get?_push_size _ rfl)
 have gS : (H.push (sq #[] 0)).get? H.objs.size = some (sq #[] 0) := Heap.get?_push_size _ rfl
 have k0 : Kp hb [] s { s with heap := H.push (sq #[] 0) } := ⟨_, s.toks, rfl, fun b o e o_ => .inl (Heap.get?_push_of_some _ (hH ▸ Heap.get?_push_of_some _ e))⟩
 obtain hlI : l ≠ s.heap.objs.size := fun e => by exact clash e fI hl
 obtain W := Walks.list (prog := prog) (w := w) (A := A.in1) hh s.heap.objs.size l hlI vs.toArray
 obtain hsz : vs.toArray.size = vs.length := List.size_toArray ..
 obtain nfS : ∀ {xs : Array Value} {c : Nat}, notFrame (sq xs c) := fun {xs c} _ _ h => by cases h
 obtain oneI : ∀ a ∈ [s.heap.objs.size], a ∈ ([] : List Addr) ∨ s.heap.get? a = none := fun a ha => .inr (by rw [List.mem_singleton.mp ha]; exact fI)
 obtain oneS : ∀ a ∈ [H.objs.size], a ∈ ([] : List Addr) ∨ s.heap.get? a = none := fun a ha => .inr (by rw [List.mem_singleton.mp ha]; exact fS)
 refine codeAny_builtin PySem.F.entry_min_loop ?_
 rw [Around.under_plainId PySem.F.plain_min_loop _]
 show wpAny _ A.in1 (seqItems? (.ref _) >>= _) _ _ _
 refine wpAny_bind (wpAny_seqItems gS rfl ?_)
 show wpAny _ A.in1 (tryCatch (pyNext (.ref s.heap.objs.size)) _ >>= _) _ _ _
 refine wpAny_bind (wpAny_tryCatch (W.item 0 _ _ _ (by rw [hsz]; exact hne) ⟨⟨_, gI, rfl, rfl⟩, ⟨_, k0.get hl notFrame_list (fun h => (nomatch h)), rfl, n, rfl⟩⟩ fun v h' tk' hP hst' hk' => ?_))
 have hv : vs[0]? = some v := by simpa using hP
 obtain ⟨oI', hoI', hoc, hod⟩ := id hst'.1
 obtain kI : Kp hb [s.heap.objs.size] { s with heap := H.push (sq #[] 0) } { s with heap := h', toks := tk' } := ⟨h', tk', rfl, fun b o e hb' => .inl (hk' b o hb' e)⟩
 have k1 := k0.join kI oneI
 obtain gS' : h'.get? H.objs.size = some (sq #[] 0) := hk' _ _ (by simpa using hSI) gS
 show wpAny _ A.in1 (tryCatch (holding [v] (call (.ref q) [v])) _ >>= _) _ _ _
 refine wpAny_bind (wpAny_tryCatch (wpAny_holding (wpAny_mono (turn 0 v { s with heap := h', toks := tk' } hv k1) (fun x s'' he => ?_) fun o_ o_ hF => hF.elim)))
 obtain ⟨k2, t2, rfl⟩ := he
 have nS2 : s''.heap.get? H.objs.size = some (sq #[] 0) := k2.get gS' nfS (fun h => (nomatch h))
 obtain nI2 : s''.heap.get? s.heap.objs.size = some oI' := k2.get hoI' (fun es n h => by cases hod.symm.trans h) (fun h => (nomatch h))
 have s1 := Heap.SameBut.update s''.heap H.objs.size (Obj.mapSeq fun o_ => #[v, .int (kf 0) t2])
 obtain ⟨c2, hc2⟩ : ∃ c2, (s''.heap.update H.objs.size (Obj.mapSeq fun o_ => #[v, .int (kf 0) t2])).get? H.objs.size = some (sq #[v, .int (kf 0) t2] c2) := ⟨_, get?_update_seq nS2 fun o_ => #[v, .int (kf 0) t2]⟩
 show wpAny _ A.in1 (updateSeq H.objs.size (fun o_ => #[v, .int (kf 0) t2]) >>= _) _ _ _
 refine wpAny_bind ?_
 refine wpAny_updateSeq nS2 rfl ?_
 rw [hname]
 obtain kS : Kp hb [H.objs.size] s'' { s'' with heap := s''.heap.update H.objs.size (Obj.mapSeq fun o_ => #[v, .int (kf 0) t2]) } := sameBut_kp (s := s'') s1 s''.toks
 refine wpAny_pure ⟨plainId_quiet PySem.F.plain_min_loop _, min_loop kf hh hl fI fS hSI turn hQ _ 0 0 _ v t2 c2 rfl hne ((k1.trans k2).join kS oneS) hc2 ⟨oI', (s1.2 _ hSI.symm).trans nI2, hoc, hod⟩ hv (Nat.le_refl _) fun j' hj' => ?_⟩
 obtain e : j' = 0 := by grind
 subst e
 exact ⟨by grind, fun h => absurd h (Nat.lt_irrefl _)⟩
end
end Mine
end
section
open PySem PySem.W PyProof.Rows
namespace Mine
open PySem.Calls
theorem plain_ix : plainId "list.index" = true := by decide +kernel
theorem call_ix {prog : Program} {w : World} {A : Around} {E : Value → Shared → Prop} {hb : Heap} {X : List Addr} {s : Shared} {q a : Addr} {l : List Nat} {ys : List Value} {n t : Nat} {v : Value}
  (hq : s.heap.get? q = some (BM.bound a)) (hg : s.heap.get? a = some (listO ys n)) (hr : RepAll X s.heap (l.map dI) ys) (hv : Rep X s.heap (dI t) v) (hm : t ∈ l) (hsz : l.length ≤ 1000) :
  wpAny (model prog w) A (call (.ref q) [v]) (fun r s' => Kp hb [] s s' ∧ ∃ u, r = .int (l.idxOf t : Nat) u) E s := by
 obtain hlen := hr.length
 rw [List.length_map] at hlen
 obtain hj : l.idxOf t < l.length := List.idxOf_lt_length_of_mem hm
 have hr' : RepAll X s.heap ((l.map Int.ofNat).map scalInt.d) ys := by
  rw [dI_int] at hr; exact hr
 have hv' : Rep X s.heap (scalInt.d (t : Int)) v := hv
 refine wpAny_call (BM.call_bound hq hg (codeAny_builtin F.entry_list_index ?_))
 rw [Around.under_plainId plain_ix _]
 refine MeetsSeq.list_index a ys.toArray n v (scalInt.is (t : Int)) (fun y hy => ?_) (l.idxOf t) (by rw [List.size_toArray]; grind) (by grind) ?_ (fun m hm' hmj => ?_) prog w A (fun r s' => match r with | .ok (.ret v) => Kp hb [] s s' ∧ ∃ u, v = .int (l.idxOf t : Nat) u | .ok _ => False | .error e => E e s') s ⟨hg, ?_⟩
 ·obtain ⟨z, _, r⟩ := scal_at scalInt hr' y (by simpa using hy)
  exact scalInt.gives _ _ _ z y v r hv'
 ·obtain r := scal_get scalInt hr' (i := l.idxOf t) (by grind) (by rw [List.length_map]; grind)
  rw [List.getElem_toArray, scalInt.rd _ _ _ _ _ r]
  simp
 ·obtain hm2 : m < ys.length := by simpa using hm'
  obtain r := scal_get scalInt hr' (i := m) hm2 (by rw [List.length_map]; grind)
  rw [List.getElem_toArray, scalInt.rd _ _ _ _ _ r]
  refine decide_eq_false fun e => ?_
  obtain e' : l[m]'(by grind) = t := by
   obtain e3 : ((l[m]'(by grind) : Nat) : Int) = (t : Int) := by simpa using e
   grind
  obtain this := List.not_of_lt_findIdx (xs := l) (p := (· == t)) hmj
  simp [e'] at this
 ·exact ⟨Kp.tok _ _ _ _, _, rfl⟩
theorem idxOf_ne {x y : Nat} {l : List Nat} (h : x ≠ y) : (x :: l).idxOf y = l.idxOf y + 1 := by
 rw [List.idxOf_cons, beq_eq_false_iff_ne.mpr h]; rfl
noncomputable def firstIn (flat free : List Nat) : Nat := (flat.find? fun t => decide (t ∈ free)).getD 0
theorem firstIn_of : ∀ {flat free : List Nat} {t : Nat}, t ∈ free → (∀ u ∈ free, u ∈ flat) → (∀ u ∈ free, flat.idxOf t ≤ flat.idxOf u) → firstIn flat free = t
 | [], free, t, ht, hs, _ => absurd (hs t ht) (by simp)
 | x :: r, free, t, ht, hs, hm => by
  unfold firstIn
  rw [List.find?_cons]
  by_cases hx : x ∈ free
  ·obtain h0 := hm x hx
   rw [List.idxOf_cons_self] at h0
   have : t = x := by
    by_cases e : t = x
    ·exact e
    ·rw [idxOf_ne (fun z => e z.symm)] at h0; grind
   simp [hx, this]
  ·simp only [hx, decide_false]
   obtain hne : ∀ u ∈ free, u ≠ x := fun u hu e => hx (e ▸ hu)
   refine firstIn_of (flat := r) ht (fun u hu => ?_) (fun u hu => ?_)
   ·rcases List.mem_cons.mp (hs u hu) with z | z
    ·exact absurd z (hne u hu)
    ·exact z
   ·have := hm u hu
    rw [idxOf_ne (fun z => hne t ht z.symm), idxOf_ne (fun z => hne u hu z.symm)] at this
    grind
section
variable {c : Cx}
theorem ev_min {x fl : Str} {p pf ap kp pos : Pos} {e : Expr} {free flat : List Nat} {k : Nat} (hr : Room c.A k) (hf : Ev c (.Name x p) (.val (.builtin "min"))) (he : Ev c e (dIs free)) (hfl : Ev c (.Name fl pf) (dIs flat))
  (hs : ∀ t ∈ free, t ∈ flat) (hne : free ≠ []) (hsz : flat.length ≤ 1000)
  (h1 : starEach [e] c.env = [(false, eval e c.env)] := by rfl) :
  Ev c (.Call (.Name x p) [e] [⟨some "key", .Attribute (.Name fl pf) "index" ap, kp⟩] pos) (dI (firstIn flat free)) := fun s E o => by
 rw [show eval (.Call (.Name x p) [e] [⟨some "key", .Attribute (.Name fl pf) "index" ap, kp⟩] pos) c.env = (do callWith pos (← eval (.Name x p) c.env) [] (backTo pos (starEach [e] c.env)) (backToKw pos (keywordEach [⟨some "key", .Attribute (.Name fl pf) "index" ap, kp⟩] c.env))) from rfl]
 refine wpAny_bind (wpAny_mono (hf s E o) (fun f' s₁ h₁ => ?_) fun o_ o_ e => e)
 obtain ⟨k₁, rfl⟩ := h₁
 refine callWith_kw (wpAny_mono (evs_cons he evs_nil h1 pos s₁ E (o.kp k₁)) (fun vs s₂ h₂ => ?_) fun o_ o_ e => e) (by rw [h1]; rfl) (by rw [h1]; rfl)
 refine cutG fun P_ hP_ => ?_
 obtain ⟨k₂, v, _, rfl, ⟨l, ys, n, rfl, hlx, hg, hy⟩, rfl⟩ := h₂
 refine hP_ ?_
 clear hP_ P_
 obtain o₂ := (o.kp k₁).kp k₂
 refine kws_cons ?_
 show wpAny _ _ (do let ov ← eval (.Name fl pf) c.env; standAt ap.atName; let r ← holding [ov] (getAttr ov "index" true); letTemporaryGo (.Name fl pf) ov r; pure r) _ _ _
 refine wpAny_bind (wpAny_mono (hfl s₂ E o₂) (fun fv s₃ h₃ => ?_) fun o_ o_ e => e)
 refine cutG fun P_ hP_ => ?_
 obtain ⟨k₃, la, zs, m, rfl, hlax, hga, hz⟩ := h₃
 refine hP_ ?_
 clear hP_ P_
 refine wpAny_bind (wpAny_standAt (wpAny_bind (wpAny_holding (BM.getAttr_index hga ?_))))
 refine wpAny_bind ?_
 show wpAny _ _ (pure ()) _ _ _
 refine wpAny_pure (wpAny_pure (kws_nil ?_))
 have k₄ : Kp c.hb [] s₃ { s₃ with heap := s₃.heap.push (BM.bound la), toks := s₃.toks + 1 } := (Kp.push c.hb s₃ (BM.bound la)).toks _
 have kall := ((k₁.trans k₂).trans k₃).trans k₄
 generalize hs4 : ({ s₃ with heap := s₃.heap.push (BM.bound la), toks := s₃.toks + 1 } : Shared) = s₄ at k₄ kall
 obtain hq : s₄.heap.get? s₃.heap.objs.size = some (BM.bound la) := by rw [← hs4]; exact Heap.get?_push_size _ rfl
 obtain hg4 : s₄.heap.get? l = some (listO ys n) := (k₃.trans k₄).get hg notFrame_list (fun h => (nomatch h))
 have hy4 := (k₃.trans k₄).repAll (X := c.X) (fun o_ h => (nomatch h)) hy
 obtain hga4 : s₄.heap.get? la = some (listO zs m) := k₄.get hga notFrame_list (fun h => (nomatch h))
 obtain hz4 := k₄.repAll (X := c.X) (fun o_ h => (nomatch h)) hz
 have hyl := hy4.length
 rw [List.length_map] at hyl
 obtain nfq : notFrame (BM.bound la) := fun o_ o_ h => by cases h
 show wpAny _ _ (call (.builtin "min") [.ref l] [(Str.ofString "key", .ref s₃.heap.objs.size)]) _ _ _
 refine min_key (hb := c.hb) (fun i => ((flat.idxOf (free.getD i 0) : Nat) : Int)) hr.1 hg4 (by rw [hyl]; exact List.length_pos_iff.mpr hne) (fun i v s' hv k' => ?_) (fun i v s' hv hb k' => ?_)
 ·have hi : i < free.length := by have := (List.getElem?_eq_some_iff.mp hv).1; grind
  refine cutG fun P_ hP_ => ?_
  obtain ⟨v', e1, hr'⟩ := hy4.get (getD_dI hi)
  obtain rfl := Option.some.inj (hv.symm.trans e1)
  refine hP_ ?_
  clear hP_ P_
  exact call_ix (X := c.X) (k'.get hq nfq (fun h => (nomatch h))) (k'.get hga4 notFrame_list (fun h => (nomatch h))) (k'.repAll (fun o_ h => (nomatch h)) hz4) (k'.rep (fun o_ h => (nomatch h)) hr') (hs _ (mem_getD' hi)) hsz
 ·have hi : i < free.length := by have := (List.getElem?_eq_some_iff.mp hv).1; grind
  refine cutG fun P_ hP_ => ?_
  obtain ⟨v', e1, hr'⟩ := hy4.get (getD_dI hi)
  obtain rfl := Option.some.inj (hv.symm.trans e1)
  refine hP_ ?_
  clear hP_ P_
  refine ⟨kall.trans k', ?_⟩
  obtain e2 : firstIn flat free = free.getD i 0 := firstIn_of (mem_getD' hi) hs fun u hu => by
   refine cutG fun P_ hP_ => ?_
   obtain ⟨j, hj, rfl⟩ := List.getElem_of_mem hu
   refine hP_ ?_
   clear hP_ P_
   have := (hb j (by grind)).1
   simp only [List.getD, hj, List.getElem?_eq_getElem, Option.getD_some] at this ⊢
   grind
  rw [e2]
  exact k'.rep (fun o_ h => (nomatch h)) hr'
end
end Mine
end
section
open PySem PySem.W PyProof.Rows
namespace Mine
open PySem.Calls
noncomputable def scalNat : Scal Nat where
 d := dI
 is := fun x u => match u with | .int i _ => i == (x : Int) | _ => false
 rd := fun X h x z u r => by
  obtain ⟨t, rfl⟩ := r
  show ((z : Int) == (x : Int)) = decide (z = x)
  by_cases e : z = x
  ·subst e; simp
  ·rw [decide_eq_false e]; exact beq_eq_false_iff_ne.mpr (by grind)
 gives := fun X h x z u v r r' => by obtain ⟨t, rfl⟩ := r; obtain ⟨t', rfl⟩ := r'; exact MeetsSeq.EqGives.int z x t t'
noncomputable def freeOf (ah left : List Nat) : List Nat := left.filter fun t => decide ((left.filter fun u => (ah.getD t 0).testBit u) = [])
noncomputable def rankF (ah flat : List Nat) : Nat → List Nat → List Nat
 | 0, _ => []
 | n + 1, left => if left = [] then [] else firstIn flat (freeOf ah left) :: rankF ah flat n (left.erase (firstIn flat (freeOf ah left)))
noncomputable def rankL (ah flat left : List Nat) : List Nat := rankF ah flat left.length left
noncomputable def left0 (flat : List Nat) : List Nat := (List.range 6).filter fun t => decide (t ∈ flat)
theorem firstIn_mem {flat free : List Nat} (hne : free ≠ []) (hs : ∀ t ∈ free, t ∈ flat) : firstIn flat free ∈ free := by
 unfold firstIn
 cases q : flat.find? fun t => decide (t ∈ free) with
 | some t => have := List.find?_some q; simpa using this
 | none =>
  rw [List.find?_eq_none] at q
  obtain ⟨x, r, rfl⟩ := List.exists_cons_of_ne_nil hne
  have := q x (hs x (.head _))
  simp at this
theorem freeOf_sub {ah left : List Nat} : ∀ t ∈ freeOf ah left, t ∈ left := fun t ht => (List.mem_filter.mp ht).1
theorem rankL_cons {ah flat left : List Nat} (hne : left ≠ []) (hf : freeOf ah left ≠ []) (hs : ∀ t ∈ left, t ∈ flat) :
  rankL ah flat left = firstIn flat (freeOf ah left) :: rankL ah flat (left.erase (firstIn flat (freeOf ah left))) := by
 obtain hm := freeOf_sub _ (firstIn_mem hf fun t ht => hs t (freeOf_sub t ht))
 obtain hl := List.length_erase_of_mem hm
 obtain hp : 0 < left.length := List.length_pos_iff.mpr hne
 unfold rankL
 rw [hl]
 obtain ⟨n, hn⟩ : ∃ n, left.length = n + 1 := ⟨left.length - 1, by grind⟩
 rw [hn]
 show (if left = [] then [] else _) = _
 rw [if_neg hne]
 rfl
theorem bit_py (a u : Nat) : (Builtin.bitAnd ((a : Int).fdiv (2 ^ ((u : Int)).toNat)) 1 != 0) = a.testBit u := by
 obtain e1 : (a : Int).fdiv (2 ^ ((u : Int)).toNat) = ((a / 2 ^ u : Nat) : Int) := by
  rw [Int.toNat_natCast, Int.fdiv_eq_ediv_of_nonneg _ (Int.pow_nonneg (by grind))]
  rfl
 rw [e1, show (1 : Int) = ((1 : Nat) : Int) from rfl, bitAnd_nat, Nat.testBit, Nat.shiftRight_eq_div_pow]
 rw [Nat.and_comm]
 cases q : (1 &&& a / 2 ^ u) with
 | zero => rfl
 | succ n => rfl
section
variable {c : Cx} {s₀ s : Shared} {O : List Addr} {E : Value → Shared → Prop}
theorem runs_cellA {α : Type} {g f : α → D} {l : List α} {p : α → Bool} {elt iter : Expr} {x : Str} {px : Pos} {ifs : List Expr} {scope : Scope} {pos : Pos} (hg : ∀ x y, g x = g y → x = y)
  (b : blockOkK scope c.env x = true) (hx1 : OneCell scope x) (hown : ∀ q ∈ c.own, q.1 ∈ c.X)
  (tests : ∀ y C K Dd I, y ∈ l → TestsOk (inCxK c scope x (g y) C K Dd I) ifs (p y))
  (elts : ∀ y C K Dd I, y ∈ l → p y = true → Ev (inCxK c scope x (g y) C K Dd I) elt (f y)) (hsz : l.length ≤ 100000) : CompRuns noT c [] (fun o_ => c.own) elt iter x px ifs scope pos (l.map g) ((l.filter p).map f) := by
 rw [← back_all hg]
 refine runs_cell b hx1 hown (fun d C K Dd I hd => ?_) (fun d C K Dd I hd hp => ?_) (by rw [List.length_map]; unfold sizeLine; grind)
 ·obtain ⟨y, hy, rfl⟩ := List.mem_map.mp hd
  rw [backP_of hg]; exact tests y C K Dd I hy
 ·obtain ⟨y, hy, rfl⟩ := List.mem_map.mp hd
  rw [backP_of hg] at hp
  rw [backF_of hg]; exact elts y C K Dd I hy hp
end
section
variable {c : Cx}
theorem cmp_neL {k : Nat} (hr : Room c.A k) {dl dr : D} {ds : List D} {b : Bool} (l : LstD c dl ds) (hd : D.simps ds = true) (he : dr.simp = true) (hdep : (D.list ds).py.depth ≤ 60) (hb : b = true ↔ D.list ds ≠ dr) : Cmp c .NotEq dl dr b := fun s E x y o hx hy => by
 refine cutG fun P_ hP_ => ?_
 obtain ⟨a, vs, n, rfl, hg, hr'⟩ := l.at o hx
 obtain ⟨as, ra⟩ := lst_reads hg hr' (D.simps_plains hd)
 obtain ⟨bs, rb⟩ := hy.reads (D.simp_plain he)
 refine hP_ ?_
 clear hP_ P_
 obtain hu := hr.units
 obtain e : b = !PyData.eqv (D.list ds).py dr.py := bool_of_iff hb (by rw [Bool.not_eq_true', ← Bool.not_eq_true, D.eqv_iff (d := .list ds) hd he])
 subst e
 exact SeqAt.compareNe_reads ra rb (D.canLay (d := .list ds) (D.simps_plains hd)) (D.canLay (D.simp_plain he)) (by have : min (D.list ds).py.depth dr.py.depth ≤ (D.list ds).py.depth := Nat.min_le_left _ _; simp only [D.py] at *; grind) ⟨Kp.refl _ _ _, rfl⟩
end
theorem last_at {l : List D} {d : D} : (l ++ [d])[(-1 + ((l ++ [d]).length : Int)).toNat]? = some d := by
 obtain this : (-1 + ((l ++ [d]).length : Int)).toNat = l.length := by rw [List.length_append]; simp only [List.length_cons, List.length_nil]; grind
 rw [this]; simp
theorem depth_dIs (l : List Nat) : (dIs l).py.depth ≤ 60 := by
 obtain this := depth_map (g := dI) (n := 2) (fun t => by simp [dI, D.py, PyData.depth]) l
 dsimp only [dIs, D.py, PyData.depth]; grind
theorem ranked_spec {c : Cx} {k : Nat} (hr : Room c.A (k + 1)) {hb₀ : Heap} (G : Gl hb₀) {r0 r1 r2 ah flat : List Nat} (hflat : r0 ++ r1 ++ r2 = flat) (h6 : ∀ t ∈ flat, t < 6) (hlen : flat.length ≤ 1000) (hal : ah.length = 6)
  (hfree : ∀ left : List Nat, left ≠ [] → (∀ t ∈ left, t ∈ flat) → freeOf ah left ≠ []) (hh : c.hb = hb₀ := by rfl) :
  CallP c (.ref 88) [.list [dIs r0, dIs r1, dIs r2], dIs ah] (dIs (rankL ah flat (left0 flat))) := by
 subst hh
 refine callP_fn (G.fn 15 88 (by simp)) (bd := [("rows", .list [dIs r0, dIs r1, dIs r2]), ("ahead", dIs ah)]) hr ?_ ?_ (by exact (by decide : (["rows", "ahead"] : List Str).Nodup)) (fun n => by rfl) (by exact (by decide : (["left", "flat", "ahead"] : List Str).Nodup)) rfl rfl rfl
 ·rintro s vs o ⟨v, _, rfl, h1, u, _, rfl, h2, rfl⟩
  exact ⟨[("rows", v), ("ahead", u)], fun o_ o_ o_ o_ o_ => BindsTo.of_eq rfl, rfl, ⟨v, _, rfl, h1, u, _, rfl, h2, rfl⟩⟩
 ·intro L s s₁ o S
  dsimp only [fnCx] at S
  have hr' := hr.deeper (fnEnv (fName 15) (fScope 15) L 88 (.ref 87))
  obtain hl3 : r0.length + r1.length + r2.length = flat.length := by rw [← hflat]; simp [Nat.add_assoc]
  refine ex_cons ?_
  refine ex_assign S ((ev_cat (ev_cat (ev_item (k := 0) (ev_var rfl) .val ev_int (by grind) (by grind) rfl) .val (ev_item (k := 1) (ev_var rfl) .val ev_int (by grind) (by grind) rfl) .val (by simp; unfold sizeLine; grind)) .val (ev_item (k := 2) (ev_var rfl) .val ev_int (by grind) (by grind) rfl) .val (by simp; unfold sizeLine; grind)).weak (d' := dIs flat) (by rw [← hflat]; simp [dIs])) (fun s₂ S₂ => ?_) rfl rfl rfl
  dsimp only at S₂
  refine ex_cons ?_
  refine ex_assign_own S₂ (evn_compA (l := List.range 6) (g := dI) (f := dI) (p := fun t => decide (t ∈ flat)) dI_inj ((src_range1 (n := 6) (Ob := []) hr' (ev_bi G rfl) ev_int (by grind)).as (range_dI 6)) rfl (fun q hq => (by cases hq)) (fun t C Dd I ht => tests_one (et_cmp (ev_var rfl) (ev_var rfl) (cmp_inS hr' .val (simp_dI _) (simps_map simp_dI _) (depth_dI _) (by rw [mem_map_inj dI_inj]; simp)))) (fun t C Dd I ht o_ => ev_var rfl) (by decide)) (fun s₃ lo S₃ => ?_) rfl rfl rfl
  dsimp only at S₃
  refine ex_cons ?_
  refine ex_assign_own S₃ (evn_list evs_nil (by decide)) (fun s₄ td S₄ => ?_) rfl rfl rfl
  dsimp only at S₄
  refine ex_cons ?_
  refine ex_while (α := { p : List Nat × List Nat // p.1 ++ rankL ah flat p.2 = rankL ah flat (left0 flat) ∧ (∀ t ∈ p.2, t ∈ flat) ∧ p.2.length ≤ 6 ∧ p.1.length + p.2.length ≤ 6 })
   (ctx := fun p => { prog := c.prog, w := c.w, A := c.A.deeper (fnEnv (fName 15) (fScope 15) L 88 (.ref (88 - 1))), hb := c.hb, env := fnEnv (fName 15) (fScope 15) L 88 (.ref (88 - 1)), X := td :: lo :: (homes (fnEnv (fName 15) (fScope 15) L 88 (.ref (88 - 1))) ++ c.X), vars := [("told", .val (.ref td)), ("left", .val (.ref lo)), ("flat", dIs flat), ("rows", .list [dIs r0, dIs r1, dIs r2]), ("ahead", dIs ah)], own := [(td, p.1.1.map dI), (lo, p.1.2.map dI)] })
   (μ := fun p => p.1.2.length) (a₀ := ⟨([], left0 flat), rfl, ?_, ?_, ?_⟩) (fun o_ => ⟨rfl, rfl, rfl, rfl⟩) S₄ ?_
  ·intro t ht; simpa [left0] using (List.mem_filter.mp ht).2
  ·exact Nat.le_trans (List.length_filter_le _ _) (by simp)
  ·simpa [left0] using Nat.le_trans (List.length_filter_le (fun t => decide (t ∈ flat)) (List.range 6)) (by simp)
  ·rintro ⟨⟨told, left⟩, hi1, hi2, hi3, hi4⟩
   dsimp only at hi1 hi2 hi3 hi4 ⊢
   refine ⟨decide (left ≠ []), ?_, ?_, ?_⟩
   ·refine et_cmp (ev_var rfl) (ev_list evs_nil (by decide)) (cmp_neL hr' (.own (.tail _ (.head _))) (simps_map simp_dI _) rfl (depth_dIs left) ?_)
    simp
   ·intro hb s₅ S₅
    have hne : left ≠ [] := by simpa using hb
    obtain hf := hfree left hne hi2
    obtain hfs : ∀ t ∈ freeOf ah left, t ∈ flat := fun t ht => hi2 t (freeOf_sub t ht)
    obtain htm := freeOf_sub _ (firstIn_mem hf hfs)
    obtain hcons := rankL_cons hne hf hi2
    obtain hel := List.length_erase_of_mem htm
    obtain hpos : 0 < left.length := List.length_pos_iff.mpr hne
    try dsimp only at S₅
    refine ex_cons ?_
    refine ex_assign_compR (out := (freeOf ah left).map dI) S₅ (src_own (Ob := []) hr' (ev_var rfl) (.tail _ (.head _)) (by simp))
     (runs_cellA (l := left) (g := dI) (f := dI) (p := fun t => decide ((left.filter fun u => (ah.getD t 0).testBit u) = [])) dI_inj rfl ⟨fun o_ o_ => rfl, fun o_ => rfl⟩ (fun q hq => (S₅.ok.own q hq).1) (fun t C K Dd I ht => tests_one ?_) (fun t C K Dd I ht o_ => ev_var rfl) (by grind))
     (fun s₆ S₆ => ?_) (namesK (x := "t") rfl) rfl rfl rfl
    ·obtain ht6 := h6 t (hi2 t ht)
     refine et_cmp (ev_compA (l := left) (g := dI) (f := dI) (p := fun u => (ah.getD t 0).testBit u) dI_inj (src_own (Ob := []) hr' (ev_var rfl) (.tail _ (.head _)) (by simp)) rfl (fun q hq => .tail _ (.tail _ (.tail _ (.tail _ (S₅.ok.own q hq).1)))) (fun u C₂ D₂ I₂ hu => tests_one ?_) (fun u C₂ D₂ I₂ hu o_ => ev_var rfl) (by grind)) (ev_list evs_nil (by decide)) (cmp_eqS hr' (simp_dIs _) rfl (depth_dIs _) (by simp))
     refine Et.as (et_int (ev_and (ev_shr (ev_item (x := dI (ah.getD t 0)) (ev_var rfl) .val (ev_var rfl) (by grind) (by grind) (by rw [Int.toNat_natCast]; exact getD_dI (by grind))) (ev_var rfl) (by grind)) ev_int)) (bit_py _ _)
    dsimp only at S₆
    refine ex_cons ?_
    refine ex_meth (own' := [(td, (told ++ [firstIn flat (freeOf ah left)]).map dI), (lo, left.map dI)]) S₆ (ev_var rfl) .head (evs_cons (ev_min hr' (ev_bi G rfl) (free := freeOf ah left) (ev_var rfl) (ev_var rfl) hfs hf hlen) evs_nil) (by rw [List.map_append]; exact meth_append (.head _) (by rw [List.length_map]; unfold sizeLine; grind)) F.slot_list_append F.type_list_append (fun s₇ S₇ => ?_) rfl rfl rfl
    dsimp only at S₇
    refine ex_cons ?_
    refine ex_meth (own' := [(td, (told ++ [firstIn flat (freeOf ah left)]).map dI), (lo, (left.erase (firstIn flat (freeOf ah left))).map dI)]) S₇ (ev_var rfl) (.tail .head) (evs_cons (ev_item_neg (k := -1) (x := dI (firstIn flat (freeOf ah left))) (ev_var rfl) (.own (.head _)) (ev_neg ev_int) (by grind) (by simp; grind) (by grind) (by rw [List.map_append]; exact last_at)) evs_nil) (meth_remove scalNat (.tail _ (.head _)) htm (by unfold sizeLine; grind)) F.slot_list_remove F.type_list_remove (fun s₈ S₈ => ?_) rfl rfl rfl
    refine ex_nil ?_
    refine ⟨⟨(told ++ [firstIn flat (freeOf ah left)], left.erase (firstIn flat (freeOf ah left))), ?_, ?_, ?_, ?_⟩, ?_, S₈.vars (lk_skip lk_id)⟩
    ·rw [← hi1, hcons]; simp
    ·intro t ht; exact hi2 t (List.mem_of_mem_erase ht)
    ·dsimp only; grind
    ·simp only [List.length_append, List.length_cons, List.length_nil]; grind
    ·dsimp only; grind
   ·intro hb s₅ S₅
    obtain hnil : left = [] := by simpa using hb
    subst hnil
    obtain e : told = rankL ah flat (left0 flat) := by rw [← hi1]; simp [rankL, rankF]
    refine ex_nil ?_
    dsimp only at S₅ ⊢
    refine ex_cons ?_
    refine ex_return S₅ (d := .val (.ref td)) (ev_var rfl) ?_
    rintro s₆ v S₆ rfl
    rw [← e]
    exact ret_own o S₆ (.head _) fun b hb => .tail _ (.tail _ (List.mem_append_right _ hb))
end Mine
end
section
open PySem PySem.W PyProof.Rows
namespace Mine
open PySem.Calls
noncomputable abbrev frA (l : List Env) : List Addr := l.filterMap (·.frame)
structure Fly (hb : Heap) (l₀ l : List Env) (s₁ : Shared) (e : Addr) (X : String) (args : Option (List Value)) (fl : Value) (s' : Shared) : Prop where
 ff : FF s₁.heap hb l₀
 st : ∃ h tk, s' = { s₁ with heap := h, toks := tk }
 slots : s₁.heap.UpToSlots s'.heap
 now : ∃ base a0, (∀ b o, s₁.heap.get? b = some o → b ∉ frA l₀ → base.get? b = some o) ∧ base.StaysIn s'.heap ∧ base.get? e = none ∧ s'.heap.FunFrames base l ∧ s'.heap.TracedAtW base e (.type X) a0 fl ∧
  ∀ as, args = some as → ∃ t, a0 = .ref t ∧ base.get? t = none ∧ s'.heap.TupAt t as
theorem Fly.kp {hb : Heap} {l₀ l : List Env} {s₁ s' : Shared} {e : Addr} {X : String} {args : Option (List Value)} {fl : Value} (x : Fly hb l₀ l s₁ e X args fl s') : Kp hb [] s₁ s' := by
 refine cutG fun P_ hP_ => ?_
 obtain ⟨h, tk, rfl⟩ := x.st
 obtain ⟨base, a0, h1, h2, _⟩ := x.now
 refine hP_ ?_
 clear hP_ P_
 refine ⟨h, tk, rfl, fun b o e o_ => ?_⟩
 by_cases hf : b ∈ frA l₀
 ·refine cutG fun P_ hP_ => ?_
  obtain ⟨o', es, n, ho, hd⟩ := x.ff.2 b hf
  obtain rfl := Option.some.inj (e.symm.trans ho)
  obtain ⟨sl, hs⟩ := x.slots b o e fun vs q => by cases hd.symm.trans q
  refine hP_ ?_
  clear hP_ P_
  exact .inr ⟨(x.ff.mem hf).1, ⟨es, n, hd⟩, sl, hs⟩
 ·exact .inl (h2 b o (h1 b o e hf))
structure Made (s₁ : Shared) (e : Addr) (X : String) (args : Option (List Value)) (s' : Shared) : Prop where
 st : ∃ h tk, s' = { s₁ with heap := h, toks := tk }
 keeps : ∀ b o, s₁.heap.get? b = some o → s'.heap.get? b = some o
 new : s₁.heap.get? e = none
 there : ∃ ob a0, s'.heap.get? e = some ob ∧ ob.cls = .type X ∧ ob.data = .fields #[a0, .none, .none, .none, .bool false, .none] ∧ ∀ as, args = some as → ∃ t, a0 = .ref t ∧ s₁.heap.get? t = none ∧ s'.heap.TupAt t as
theorem Made.of {s : Shared} {h' : Heap} {tk : Nat} {e : Addr} {X : String} (x : Heap.NewExc s.heap h' e X) : Made s e X none { s with heap := h', toks := tk } := by
 refine cutG fun P_ hP_ => ?_
 obtain ⟨ob, t, h1, h2, h3⟩ := x.there
 refine hP_ ?_
 clear hP_ P_
 exact ⟨⟨_, _, rfl⟩, x.keeps, x.new, ob, t, h1, h2, h3, fun o_ h => by cases h⟩
theorem Made.of2 {s : Shared} {h' : Heap} {e : Addr} {X : String} {as : List Value} (x : Heap.MadeExc s.heap h' e X as) : Made s e X (some as) { s with heap := h' } := by
 refine cutG fun P_ hP_ => ?_
 obtain ⟨t, h1, h2, h3⟩ := x.there
 refine hP_ ?_
 clear hP_ P_
 exact ⟨⟨_, s.toks, rfl⟩, x.keeps, x.new, _, _, h1, rfl, rfl, fun as' h => by cases h; exact ⟨t, rfl, h2, _, _, h3, rfl, rfl⟩⟩
theorem frames_new {h base : Heap} {l₀ : List Env} (hbase : ∀ b ∈ frA l₀, base.get? b = none) {hb : Heap} : ∀ {l : List Env}, (∀ a ∈ frA l, a ∈ frA l₀) → h.FunFrames hb l → h.FunFrames base l
 | [], _, _ => trivial
 | env :: r, hs, ⟨hk, ⟨L, o, hf, hn, ho, hd⟩, hr⟩ => ⟨hk, ⟨L, o, hf, hbase L (hs L (by simp [frA, hf])), ho, hd⟩, frames_new hbase (fun a ha => hs a (by
   show a ∈ List.filterMap _ (env :: r)
   rw [List.filterMap_cons, hf]; exact .tail _ ha)) hr⟩
section
variable {M : Model} {A : Around} {E : Value → Shared → Prop} {hb : Heap} {env : Env} {outer : List Env} {L e : Addr} {X : String} {args : Option (List Value)} {s₁ s' : Shared} {Q : Unit → Shared → Prop}
theorem note_made (m : Made s₁ e X args s') (hfr : A.frames = some (env :: outer)) (ff : FF s₁.heap hb (env :: outer)) (hf : env.frame = some L)
  (hQ : ∀ s'', Fly hb (env :: outer) (env :: outer) s₁ e X args (rawInt L) s'' → Q () s'') : wpAny M A (noteFrame (.ref e) env) Q E s' := by
 refine cutG fun P_ hP_ => ?_
 obtain ⟨h, tk, rfl⟩ := m.st
 obtain ⟨ob, a0, he, hcls, hd, harg⟩ := m.there
 refine hP_ ?_
 clear hP_ P_
 obtain hkb : (hideAll s₁.heap (frA (env :: outer))).StaysIn h := fun b o q => m.keeps b o (of_hideAll _ q)
 have none' : ∀ b, s₁.heap.get? b = none → (hideAll s₁.heap (frA (env :: outer))).get? b = none := fun b hb' => by
  cases q : (hideAll s₁.heap (frA (env :: outer))).get? b with
  | none => rfl
  | some o => have := of_hideAll _ q; exact no_some (hb'.symm.trans this)
 obtain hff : h.FunFrames (hideAll s₁.heap (frA (env :: outer))) (env :: outer) :=
  (frames_new (fun b hb' => hideAll_none _ hb') (fun o_ h => h) ff.1).of_keeps fun b o q o_ => ⟨o, m.keeps b o q, rfl⟩
 unfold noteFrame
 simp only [hf]
 refine wpAny_bind (wpAny_field he hd (x := .none) rfl ?_)
 rw [if_neg (by decide)]
 refine wpAny_entryW (a0 := a0) hfr hff hf he hkb (none' e m.new) hd (by show 1 < 6; decide) rfl fun h' hN => ?_
 refine cutG fun P_ hP_ => ?_
 obtain ⟨k1, k2, k3, k4⟩ := hN
 refine hP_ ?_
 clear hP_ P_
 have us : h.UpToSlots h' := k4
 refine hQ _ ⟨ff, ⟨h', tk, rfl⟩, (Heap.UpToSlots.of_keeps m.keeps).trans us, _, a0, fun b o q hn => hideAll_get _ q hn, k1, none' e m.new, k2, by rw [← hcls]; exact k3, fun as h => ?_⟩
 refine cutG fun P_ hP_ => ?_
 obtain ⟨t, h1, h2, h3⟩ := harg as h
 refine hP_ ?_
 clear hP_ P_
 exact ⟨t, h1, none' t h2, h3.of_slots us⟩
theorem note_fly {l₀ : List Env} (x : Fly hb l₀ (env :: outer) s₁ e X args .none s') (hfr : A.frames = some (env :: outer)) (hf : env.frame = some L)
  (hQ : ∀ s'', Fly hb l₀ (env :: outer) s₁ e X args (rawInt L) s'' → Q () s'') : wpAny M A (noteFrame (.ref e) env) Q E s' := by
 refine cutG fun P_ hP_ => ?_
 obtain ⟨base, a0, h1, h2, h3, h4, h5, h6⟩ := x.now
 obtain ⟨h, tk, rfl⟩ := x.st
 refine hP_ ?_
 clear hP_ P_
 refine wpAny_noteFrame_onW hfr h4 hf h5 h2 h3 fun h' hN => ?_
 refine cutG fun P_ hP_ => ?_
 obtain ⟨k1, k2, k3, k4⟩ := hN
 refine hP_ ?_
 clear hP_ P_
 have us : h.UpToSlots h' := k4
 exact hQ _ ⟨x.ff, ⟨h', tk, rfl⟩, x.slots.trans us, base, a0, h1, k1, h3, k2, k3, fun as q => by
  obtain ⟨t, q1, q2, q3⟩ := h6 as q; exact ⟨t, q1, q2, q3.of_slots us⟩⟩
theorem note_again {l₀ l : List Env} (x : Fly hb l₀ l s₁ e X args (rawInt L) s') (hf : env.frame = some L) (hQ : Q () s') : wpAny M A (noteFrame (.ref e) env) Q E s' := by
 refine cutG fun P_ hP_ => ?_
 obtain ⟨base, a0, h1, h2, h3, h4, h5, h6⟩ := x.now
 refine hP_ ?_
 clear hP_ P_
 exact wpAny_noteFrame_againW hf h5 hQ
theorem set_fly {l₀ l : List Env} {fl : Value} {f : Option Addr} (x : Fly hb l₀ l s₁ e X args fl s')
  (hQ : ∀ s'', Fly hb l₀ l s₁ e X args (f.elim .none fun f => rawInt f) s'' → Q () s'') : wpAny M A (setFlight (.ref e) f) Q E s' := by
 refine cutG fun P_ hP_ => ?_
 obtain ⟨base, a0, h1, h2, h3', h4, ⟨oe, vs, T, oT, ts, he, hcls, hd, hv1, hnT, hTe, hT, hdT, h3⟩, h6⟩ := x.now
 obtain ⟨h, tk, rfl⟩ := x.st
 refine hP_ ?_
 clear hP_ P_
 have hsz3 : 3 < ts.size := (Array.getElem?_eq_some_iff.mp h3).1
 have other : ∀ b, b ≠ T → (h.update T (Obj.mapFields (·.setIfInBounds 3 (f.elim Value.none fun f => rawInt f)))).get? b = h.get? b := fun b hb => Heap.get?_update_other _ _ (Ne.symm hb)
 have noRecord : ∀ b o, h.get? b = some o → (∀ vs, o.data ≠ .fields vs) → b ≠ T := fun b o hb hnf q => by
  rw [q, hT] at hb; injection hb with hb; subst hb; exact hnf ts hdT
 have us : h.UpToSlots (h.update T (Obj.mapFields (·.setIfInBounds 3 (f.elim Value.none fun f => rawInt f)))) := fun b o hb hnf => ⟨o.slots, (other b (noRecord b o hb hnf)).trans hb⟩
 unfold setFlight
 refine wpAny_bind (wpAny_field he hd hv1 ?_)
 rw [if_pos (show (Value.ref T != Value.none) = true from by simp)]
 refine wpAny_setField hT hdT hsz3 (hQ _ ⟨x.ff, ⟨_, tk, rfl⟩, x.slots.trans us, base, a0, h1, fun b o hbo => (other b fun q => by exact clash q hnT hbo).trans (h2 b o hbo), h3',
  h4.of_keeps fun b o hb hnf => ⟨o, (other b (noRecord b o hb hnf)).trans hb, rfl⟩, ?_, fun as q => ?_⟩)
 ·exact ⟨oe, vs, T, _, _, (other e (Ne.symm hTe)).trans he, hcls, hd, hv1, hnT, hTe, Heap.get?_update_self _ hT (Obj.isFreed_of_fields (Obj.data_mapFields hdT _)), Obj.data_mapFields hdT _, by simp [hsz3]⟩
 ·obtain ⟨t, q1, q2, q3⟩ := h6 as q; exact ⟨t, q1, q2, q3.of_slots us⟩
theorem Fly.pop {l₀ l : List Env} {fl : Value} (x : Fly hb l₀ (env :: l) s₁ e X args fl s') : Fly hb l₀ l s₁ e X args fl s' := by
 refine cutG fun P_ hP_ => ?_
 obtain ⟨base, a0, h1, h2, h3, ⟨_, _, h4⟩, h5, h6⟩ := x.now
 refine hP_ ?_
 clear hP_ P_
 exact ⟨x.ff, x.st, x.slots, base, a0, h1, h2, h3, h4, h5, h6⟩
theorem leave_fly {l₀ : List Env} (x : Fly hb l₀ (env :: outer) s₁ e X args (rawInt L) s') (hf : env.frame = some L) (hQ : ∀ s'', Fly hb l₀ outer s₁ e X args .none s'' → Q () s'') : wpAny M A (leaving env (.ref e)) Q E s' := by
 unfold leaving
 exact wpAny_bind (note_again x hf (set_fly (f := none) x fun s'' y => hQ s'' y.pop))
theorem came_back {l₀ l : List Env} (x : Fly hb l₀ l s₁ e X args (rawInt L) s') (hf : env.frame = some L) (hQ : ∀ s'', Fly hb l₀ l s₁ e X args (rawInt L) s'' → E (.ref e) s'') : cameBackBy M A env E (.ref e) s' := by
 unfold cameBackBy
 refine cutG fun P_ hP_ => ?_
 obtain ⟨base, a0, h1, h2, h3', h4, ⟨oe, vs, T, oT, ts, he, hcls, hd, hv1, hnT, hTe, hT, hdT, h3⟩, h6⟩ := x.now
 refine hP_ ?_
 clear hP_ P_
 refine wpAny_bind (wpAny_field he hd hv1 ?_)
 rw [if_neg (show ¬ ((Value.ref T == Value.none) = true) from by simp)]
 rw [hf]
 exact set_fly (f := some L) x hQ
end
end Mine
end
section
open PySem PySem.W PyProof.Rows
namespace Mine
open PySem.Calls
section
variable {α : Type} [DecidableEq α]
noncomputable def c3cand (seqs : List (List α)) : Option α := (seqs.filterMap List.head?).find? fun t => seqs.all fun s => decide (t ∉ s.tail)
noncomputable def c3head (t : α) (s : List α) : List α := if s.head? = some t then s.tail else s
noncomputable def c3F : Nat → List (List α) → Option (List α)
 | 0, _ => some []
 | n + 1, seqs => if seqs.filter (fun s => decide (s ≠ [])) = [] then some [] else match c3cand (seqs.filter fun s => decide (s ≠ [])) with
  | none => none
  | some t => (c3F n (seqs.map (c3head t))).map (t :: ·)
theorem c3F_s (n : Nat) (q : List (List α)) : c3F (n + 1) q = if q.filter (fun s => decide (s ≠ [])) = [] then some [] else match c3cand (q.filter fun s => decide (s ≠ [])) with
  | none => none
  | some t => (c3F n (q.map (c3head t))).map (t :: ·) := rfl
noncomputable def c3len (seqs : List (List α)) : Nat := (seqs.map List.length).sum
theorem c3head_le (t : α) (s : List α) : (c3head t s).length ≤ s.length := by
 unfold c3head; split
 ·simp
 ·exact Nat.le_refl _
theorem c3len_le (t : α) : ∀ (seqs : List (List α)), c3len (seqs.map (c3head t)) ≤ c3len seqs
 | [] => Nat.le_refl _
 | s :: r => by
  obtain h1 := c3head_le t s
  obtain h2 := c3len_le t r
  simp only [c3len, List.map_cons, List.sum_cons] at h2 ⊢
  grind
theorem c3len_lt {t : α} : ∀ {seqs : List (List α)}, t ∈ seqs.filterMap List.head? → c3len (seqs.map (c3head t)) < c3len seqs
 | [], h => by simp at h
 | s :: r, h => by
  obtain h1 := c3head_le t s
  obtain h2 := c3len_le t r
  rw [List.filterMap_cons] at h
  cases q : s.head? with
  | none =>
   rw [q] at h
   obtain h3 := c3len_lt (seqs := r) h
   simp only [c3len, List.map_cons, List.sum_cons] at h2 h3 ⊢
   grind
  | some u =>
   rw [q] at h
   rcases List.mem_cons.mp h with e | h
   ·subst e
    obtain this : (c3head t s).length < s.length := by
     unfold c3head; rw [if_pos q]
     cases s with
     | nil => simp at q
     | cons => simp
    simp only [c3len, List.map_cons, List.sum_cons] at h2 ⊢
    grind
   ·obtain h3 := c3len_lt (seqs := r) h
    simp only [c3len, List.map_cons, List.sum_cons] at h2 h3 ⊢
    grind
theorem c3cand_mem {seqs : List (List α)} {t : α} (h : c3cand seqs = some t) : t ∈ seqs.filterMap List.head? := List.mem_of_find?_eq_some h
theorem heads_filter (seqs : List (List α)) : (seqs.filter fun s => decide (s ≠ [])).filterMap List.head? = seqs.filterMap List.head? := by
 induction seqs with
 | nil => rfl
 | cons s r ih =>
  cases s with
  | nil => rw [List.filter_cons_of_neg (by simp), List.filterMap_cons, List.head?_nil]; exact ih
  | cons a b => rw [List.filter_cons_of_pos (by simp), List.filterMap_cons, List.filterMap_cons, List.head?_cons, ih]
end
noncomputable abbrev ownM (as : List Addr) (ct : Addr → List Str) : List (Addr × List D) := as.map fun a => (a, (ct a).map .str)
theorem ownM_keys (as : List Addr) (ct : Addr → List Str) : (ownM as ct).map (·.1) = as := by
 simp [ownM, List.map_map, Function.comp_def]
theorem ownM_mem {as : List Addr} {ct : Addr → List Str} {a : Addr} (h : a ∈ as) : (a, (ct a).map D.str) ∈ ownM as ct := List.mem_map.mpr ⟨a, h, rfl⟩
theorem ownM_upd {as : List Addr} {ct ct' : Addr → List Str} {a : Addr} (h : a ∈ as) (nd : as.Nodup) (h' : ∀ b, b ≠ a → ct' b = ct b) : OwnUpd a ((ct a).map .str) ((ct' a).map .str) (ownM as ct) (ownM as ct') := by
 induction as with
 | nil => cases h
 | cons b r ih =>
  obtain nd' := List.nodup_cons.mp nd
  rcases List.mem_cons.mp h with e | h
  ·subst e
   obtain this : ownM r ct' = ownM r ct := List.map_congr_left fun b hb => by rw [h' b fun e => nd'.1 (e ▸ hb)]
   show OwnUpd _ _ _ ((_, _) :: ownM r ct) ((_, _) :: ownM r ct')
   rw [this]
   exact .head
  ·obtain hb : b ≠ a := fun e => nd'.1 (e ▸ h)
   show OwnUpd _ _ _ ((b, (ct b).map .str) :: ownM r ct) ((b, (ct' b).map .str) :: ownM r ct')
   rw [h' b hb]
   exact .tail (ih h nd'.2)
noncomputable def refD (a : Addr) : D := .val (.ref a)
theorem refD_inj : ∀ x y, refD x = refD y → x = y := fun x y h => by unfold refD at h; injection h with h; injection h
theorem simp_str {l : List Str} (h : ∀ x ∈ l, PyData.strOk x = true) : D.simps (l.map .str) = true := by
 induction l with
 | nil => rfl
 | cons x r ih =>
  simp only [List.map_cons, D.simps, Bool.and_eq_true, D.simp]
  exact ⟨h x (.head _), ih fun y hy => h y (.tail _ hy)⟩
theorem str_inj : ∀ x y : Str, D.str x = D.str y → x = y := fun x y h => by injection h
theorem depth_str (x : Str) : (D.str x).py.depth ≤ 60 := by simp [D.py, PyData.depth]
end Mine
end
section
open PySem PySem.W PyProof.Rows
namespace Mine
open PySem.Calls
noncomputable abbrev c3Env (L : Addr) : Env := fnEnv (fName 4) (fScope 4) L 35 (.ref (35 - 1))
noncomputable abbrev c3C (c : Cx) (L r : Addr) (V : List (Str × D)) (as : List Addr) (ct : Addr → List Str) (res : List Str) : Cx :=
 { prog := c.prog, w := c.w, A := c.A.deeper (c3Env L), hb := c.hb, env := c3Env L, X := r :: (homes (c3Env L) ++ c.X), vars := V, own := (r, res.map .str) :: ownM as ct }
noncomputable def c3Body : List Stmt := match (fBody 4).getD 1 (.Pass ⟨0, 0, 0, 0⟩) with | .While _ b _ _ => b | _ => []
structure C3St (as js : List Addr) (ct : Addr → List Str) : Prop where
 sub : ∀ a ∈ js, a ∈ as
 same : js.filter (fun a => decide (ct a ≠ [])) = as.filter (fun a => decide (ct a ≠ []))
 ok : ∀ a ∈ as, ∀ x ∈ ct a, PyData.strOk x = true
 sz : ∀ a ∈ as, (ct a).length ≤ 1000
 len : js.length ≤ 1000
noncomputable abbrev neOf (as : List Addr) (ct : Addr → List Str) : List Addr := as.filter fun a => decide (ct a ≠ [])
theorem ne_head {as : List Addr} {ct : Addr → List Str} {a : Addr} (h : a ∈ neOf as ct) : a ∈ as ∧ ∃ x tl, ct a = x :: tl := by
 obtain ⟨h1, h2⟩ := List.mem_filter.mp h
 exact ⟨h1, List.exists_cons_of_ne_nil (by simpa using h2)⟩
theorem ne_map {as : List Addr} {ct : Addr → List Str} : (as.map ct).filter (fun s => decide (s ≠ [])) = (neOf as ct).map ct := by
 rw [List.filter_map]; rfl
noncomputable abbrev c3V (js : List Addr) (r : Addr) : List (Str × D) := [("sequences", .list (js.map refD)), ("result", refD r)]
noncomputable def c3Msg : Str := "Inconsistent hierarchy"
section
variable {c : Cx} {k : Nat} {L r : Addr} {as : List Addr} {s₀ : Shared}
noncomputable def c3Q (c : Cx) (L r : Addr) (as : List Addr) (ct : Addr → List Str) (res : List Str) (s₀ : Shared) (f : Flow) (s'' : Shared) : Prop := match f with
 | .next | .cont => ∃ t, c3cand ((neOf as ct).map ct) = some t ∧ Sx (c3C c L r (c3V (neOf as ct) r) as (fun a => c3head t (ct a)) (res ++ [t])) s₀ as s''
 | .brk => False
 | .ret v => neOf as ct = [] ∧ v = .ref r ∧ Sx (c3C c L r (c3V (neOf as ct) r) as ct res) s₀ as s''
noncomputable def c3E (c : Cx) (L r : Addr) (as : List Addr) (ct : Addr → List Str) (res : List Str) (s₀ : Shared) (e : Value) (s'' : Shared) : Prop :=
 neOf as ct ≠ [] ∧ c3cand ((neOf as ct).map ct) = none ∧ ∃ V s₁ a t, e = .ref a ∧ Sx (c3C c L r V as ct res) s₀ as s₁ ∧ Made s₁ a "RuntimeError" (some [.str c3Msg t]) s''
noncomputable def candD (o : Option Str) : D := match o with | some t => .str t | none => .none
theorem c3_rest (hr : Room (c.A.deeper (c3Env L)) k) (G : Gl c.hb) (hnd : as.Nodup) (ct : Addr → List Str) (res : List Str) (hok : ∀ a ∈ as, ∀ x ∈ ct a, PyData.strOk x = true) (hsz : ∀ a ∈ as, (ct a).length ≤ 1000) (hres : res.length ≤ 1000) (hal : as.length ≤ 1000) {s : Shared} (hnot : neOf as ct ≠ []) (cand : Option Str) (hc : c3cand ((neOf as ct).map ct) = cand)
  (S : Sx (c3C c L r (("candidate", candD cand) :: c3V (neOf as ct) r) as ct res) s₀ as s) :
  wpAny (model c.prog c.w) (c.A.deeper (c3Env L)) (execs (c3Body.drop 3) (c3Env L)) (c3Q c L r as ct res s₀) (c3E c L r as ct res s₀) s := by
 obtain hnl : (neOf as ct).length ≤ 1000 := Nat.le_trans (List.length_filter_le _ _) hal
 obtain hnn : (neOf as ct).Nodup := hnd.filter _
 cases cand with
 | none =>
  refine ex_cons ?_
  refine ex_if (b := true) S (et_cmp (ev_var rfl) ev_none cmp_is_none_none) (fun o_ s₂ S₂ => ?_) (fun h => by cases h)
  refine ex_cons ?_
  refine Raise_madeB PySem.F.excCall_RuntimeError PySem.F.excRaise_RuntimeError hr.1 ?_
  obtain hRE : ∀ np, Ev (c3C c L r (("candidate", candD none) :: c3V (neOf as ct) r) as ct res) (.Name "RuntimeError" np) (.val (.type "RuntimeError")) := fun np => ev_bi G rfl
  obtain hEs : Evs (c3C c L r (("candidate", candD none) :: c3V (neOf as ct) r) as ct res) [.Constant (.str "Inconsistent hierarchy") 0 ⟨55, 31, 55, 55⟩] [.str c3Msg] := evs_cons ev_str evs_nil
  refine wpAny_mono (hRE _ s₂ _ S₂.ok) (fun f s₃ h₃ => ⟨h₃.2, ?_⟩) (fun o_ o_ e => e)
  refine wpAny_mono (hEs _ s₃ _ (S₂.ok.kp h₃.1)) (fun vs s₄ h₄ => ?_) (fun o_ o_ e => e)
  refine cutG fun P_ hP_ => ?_
  obtain ⟨k₄, v, _, rfl, ⟨u, rfl⟩, rfl⟩ := h₄
  refine hP_ ?_
  clear hP_ P_
  exact ⟨by show 1 ≤ sizeLine; decide, fun h' e hm => ⟨hnot, hc, _, s₄, e, u, rfl, (S₂.step h₃.1).step k₄, Made.of2 hm⟩⟩
 | some t =>
  obtain hmem : t ∈ ((neOf as ct).map ct).filterMap List.head? := c3cand_mem hc
  obtain htok : PyData.strOk t = true := by
   refine cutG fun P_ hP_ => ?_
   obtain ⟨sq, h1, h2⟩ := List.mem_filterMap.mp hmem
   obtain ⟨a, ha, rfl⟩ := List.mem_map.mp h1
   refine hP_ ?_
   clear hP_ P_
   exact hok a (ne_head ha).1 t (List.mem_of_mem_head? h2)
  refine ex_cons ?_
  refine ex_if (b := false) S (et_cmp (ev_var rfl) ev_none (cmp_is_none fun X h v hv e => by obtain ⟨u, rfl⟩ := hv; cases e)) (fun h => by cases h) (fun o_ s₂ S₂ => ?_)
  refine ex_nil ?_
  refine ex_cons ?_
  refine ex_meth (own' := (r, (res ++ [t]).map .str) :: ownM as ct) S₂ (ev_var rfl) .head (evs_cons (ev_var rfl) evs_nil) (by rw [List.map_append]; exact meth_append (.head _) (by rw [List.length_map]; unfold sizeLine; grind)) F.slot_list_append F.type_list_append (fun s₃ S₃ => ?_) rfl rfl rfl
  dsimp only at S₃
  refine ex_cons ?_
  refine ex_for (V := fun o_ => ("candidate", .str t) :: c3V (neOf as ct) r) (W := fun i => (r, (res ++ [t]).map .str) :: ownM as (fun a => if a ∈ (neOf as ct).take i then c3head t (ct a) else ct a)) S₃ (src_list (ds := (neOf as ct).map refD) hr (ev_var rfl)) (mine_sub S₃) lk_id (rfl) (fun i => by simp [ownA, ownM_keys]) ?_ ?_ rfl rfl
  ·intro i d I s₄ s₅ hd S₅
   obtain ⟨hi, rfl⟩ := at_map (z := 0) hd
   obtain hm := mem_getD' (z := 0) hi
   have htake : (neOf as ct).take (i + 1) = (neOf as ct).take i ++ [(neOf as ct).getD i 0] := by rw [List.take_add_one]; simp [List.getD, hi]
   have hnot : (neOf as ct).getD i 0 ∉ (neOf as ct).take i := fun h => by
    have := hnn
    rw [← List.take_append_drop (i + 1) (neOf as ct), htake] at this
    have := (List.nodup_append.mp (List.nodup_append.mp this).1).2.2 _ h _ (.head _)
    exact this rfl
   generalize (neOf as ct).getD i 0 = a at hm htake hnot S₅
   refine cutG fun P_ hP_ => ?_
   obtain ⟨ha, x, tl, hx⟩ := ne_head hm
   refine hP_ ?_
   clear hP_ P_
   have hca : (if a ∈ (neOf as ct).take i then c3head t (ct a) else ct a) = x :: tl := by rw [if_neg hnot, hx]
   obtain hxok : PyData.strOk x = true := hok a ha x (by rw [hx]; exact .head _)
   obtain hown : (a, (x :: tl).map D.str) ∈ (r, (res ++ [t]).map D.str) :: ownM as (fun a => if a ∈ (neOf as ct).take i then c3head t (ct a) else ct a) := by
    rw [← hca]; exact .tail _ (ownM_mem (ct := fun a => if a ∈ (neOf as ct).take i then c3head t (ct a) else ct a) ha)
   refine ex_cons ?_
   refine ex_if (b := decide (x = t)) S₅ (et_cmp (ev_item (k := 0) (x := .str x) (ev_var rfl) (.own hown) ev_int (by grind) (by grind) rfl) (ev_var rfl) (cmp_eqS hr hxok htok (depth_str _) (by simp))) (fun hb s₆ S₆ => ?_) (fun hb s₆ S₆ => ?_)
   ·obtain hxt : x = t := by simpa using hb
    have u := ownM_upd (ct := fun a => if a ∈ (neOf as ct).take i then c3head t (ct a) else ct a) (ct' := fun a => if a ∈ (neOf as ct).take (i + 1) then c3head t (ct a) else ct a) ha hnd (fun b hb => by
     obtain this : b ∈ (neOf as ct).take (i + 1) ↔ b ∈ (neOf as ct).take i := by rw [htake]; simp [hb]
     simp only [this])
    obtain e1 : (if a ∈ (neOf as ct).take (i + 1) then c3head t (ct a) else ct a) = tl := by rw [if_pos (by rw [htake]; simp), hx, c3head, if_pos (by rw [hxt]; rfl)]; rfl
    rw [hca, e1] at u
    refine ex_cons ?_
    refine ex_del0 (d := .str x) (ds := tl.map .str) S₆ (ev_var rfl) ev_int (by rw [List.length_map]; have := hsz a ha; rw [hx] at this; simp at this; unfold sizeLine; grind) (.tail u) (fun s₇ S₇ => ?_)
    refine ex_nil ?_
    refine ex_nil ?_
    exact S₇.vars (lk_skip lk_id)
   ·obtain hxt : x ≠ t := by simpa using hb
    refine ex_nil ?_
    refine ex_nil ?_
    obtain e2 : ownM as (fun a => if a ∈ (neOf as ct).take (i + 1) then c3head t (ct a) else ct a) = ownM as (fun a => if a ∈ (neOf as ct).take i then c3head t (ct a) else ct a) := List.map_congr_left fun b hb => by
     dsimp only
     by_cases e : b = a
     ·rw [e, if_pos (by rw [htake]; simp), if_neg hnot, hx, c3head, if_neg (by simpa using hxt)]
     ·obtain this : b ∈ (neOf as ct).take (i + 1) ↔ b ∈ (neOf as ct).take i := by rw [htake]; simp [e]
      simp only [this]
    dsimp only at S₆
    rw [← e2] at S₆
    exact S₆.vars (lk_skip lk_id)
  ·intro s₄ S₄
   refine ex_nil ?_
   refine ex_nil ?_
   refine ⟨t, hc, ?_⟩
   obtain e : ownM as (fun a => if a ∈ (neOf as ct).take ((neOf as ct).map refD).length then c3head t (ct a) else ct a) = ownM as (fun a => c3head t (ct a)) := List.map_congr_left fun b hb => by
    dsimp only
    rw [List.length_map, List.take_length]
    by_cases h : b ∈ neOf as ct
    ·rw [if_pos h]
    ·obtain this : ct b = [] := by
      by_cases q : ct b = []
      ·exact q
      ·exact absurd (List.mem_filter.mpr ⟨hb, by simpa using q⟩) h
     rw [if_neg h, this]; rfl
   dsimp only at S₄
   rw [e] at S₄
   exact S₄.vars (lk_skip lk_id)
theorem c3cand_some {ne : List Addr} {ct : Addr → List Str} {i : Nat} {x : Str} {tl : List Str} (hi : i < ne.length) (hx : ct (ne.getD i 0) = x :: tl)
  (hp : ∀ a ∈ ne.take i, ∀ y tl, ct a = y :: tl → ∃ b ∈ ne, y ∈ (ct b).tail) (hne : ∀ a ∈ ne, ∃ y tl, ct a = y :: tl) (hok : ∀ b ∈ ne, x ∉ (ct b).tail) : c3cand (ne.map ct) = some x := by
 unfold c3cand
 obtain hd : ne.drop i = ne.getD i 0 :: ne.drop (i + 1) := by
  rw [List.drop_eq_getElem_cons hi]; simp [List.getD, hi]
 obtain h1 : (ne.map ct).filterMap List.head? = ((ne.take i).map ct).filterMap List.head? ++ x :: ((ne.drop (i + 1)).map ct).filterMap List.head? := by
  conv => lhs; rw [← List.take_append_drop i ne, hd, List.map_append, List.filterMap_append, List.map_cons, List.filterMap_cons, hx]
  rfl
 rw [h1, List.find?_append, List.find?_eq_none.mpr ?_, Option.none_or, List.find?_cons_of_pos]
 ·simp only [List.all_eq_true, decide_eq_true_eq]
  intro s hs
  obtain ⟨b, hb, rfl⟩ := List.mem_map.mp hs
  exact hok b hb
 ·intro y hy hall
  obtain ⟨s, hs, hy'⟩ := List.mem_filterMap.mp hy
  obtain ⟨a, ha, rfl⟩ := List.mem_map.mp hs
  obtain ⟨z, tl', hz⟩ := hne a (List.mem_of_mem_take ha)
  rw [hz] at hy'; cases hy'
  obtain ⟨b, hb, hm⟩ := hp a ha _ tl' hz
  simp only [List.all_eq_true, decide_eq_true_eq] at hall
  exact hall _ (List.mem_map.mpr ⟨b, hb, rfl⟩) hm
theorem c3cand_none {ne : List Addr} {ct : Addr → List Str} (hp : ∀ a ∈ ne, ∀ y tl, ct a = y :: tl → ∃ b ∈ ne, y ∈ (ct b).tail) (hne : ∀ a ∈ ne, ∃ y tl, ct a = y :: tl) : c3cand (ne.map ct) = none := by
 unfold c3cand
 rw [List.find?_eq_none]
 intro y hy hall
 obtain ⟨s, hs, hy'⟩ := List.mem_filterMap.mp hy
 obtain ⟨a, ha, rfl⟩ := List.mem_map.mp hs
 obtain ⟨z, tl', hz⟩ := hne a ha
 rw [hz] at hy'; cases hy'
 obtain ⟨b, hb, hm⟩ := hp a ha _ tl' hz
 simp only [List.all_eq_true, decide_eq_true_eq] at hall
 exact hall _ (List.mem_map.mpr ⟨b, hb, rfl⟩) hm
noncomputable def c3W (ne : List Addr) (r : Addr) : Nat → List (Str × D)
 | 0 => c3V ne r
 | _ + 1 => ("candidate", .none) :: c3V ne r
theorem c3W_sub (ne : List Addr) (r : Addr) : ∀ i, ∀ y d, (c3V ne r).lookup y = some d → (c3W ne r i).lookup y = some d
 | 0 => lk_id
 | _ + 1 => lk_skip lk_id
theorem c3_turn (hr : Room (c.A.deeper (c3Env L)) k) (G : Gl c.hb) (hnd : as.Nodup) (hra : r ∉ as) (js : List Addr) (ct : Addr → List Str) (res : List Str) (I : C3St as js ct) (hres : res.length ≤ 1000) (hal : as.length ≤ 1000) {s : Shared}
  (S : Sx (c3C c L r (c3V js r) as ct res) s₀ as s) :
  wpAny (model c.prog c.w) (c.A.deeper (c3Env L)) (execs c3Body (c3Env L)) (c3Q c L r as ct res s₀) (c3E c L r as ct res s₀) s := by
 obtain hown : ∀ a ∈ as, (a, (ct a).map D.str) ∈ (r, res.map D.str) :: ownM as ct := fun a ha => .tail _ (ownM_mem ha)
 refine ex_cons ?_
 -- sequences = [s for s in sequences if s]
 refine ex_compA (l := js) (g := refD) (f := refD) (p := fun a => decide (ct a ≠ [])) refD_inj S (src_list (ds := js.map refD) hr (ev_var rfl)) (fun a C Dd I' ha => tests_one ?_) (fun a C Dd I' ha o_ => ev_var rfl) (Nat.le_trans I.len (by decide)) (fun s₁ S₁ => ?_) rfl rfl rfl rfl
 ·refine Et.as (et_list (d := refD a) (ds := (ct a).map .str) (ev_var rfl) (.own (hown a (I.sub a ha))) (by rw [List.length_map]; have := I.sz a (I.sub a ha); unfold sizeLine; grind)) ?_
  cases ct a <;> rfl
 rw [I.same] at S₁
 dsimp only at S₁
 obtain S₁ : Sx (c3C c L r (c3V (neOf as ct) r) as ct res) s₀ as s₁ := S₁.vars (V := c3V (neOf as ct) r) (lk_keep (lk_skip lk_id))
 obtain hnl : (neOf as ct).length ≤ 1000 := Nat.le_trans (List.length_filter_le _ _) hal
 refine ex_cons ?_
 refine ex_if (b := decide (neOf as ct = [])) S₁ (Et.as (et_not (et_list (ds := (neOf as ct).map refD) (ev_var rfl) .val (by rw [List.length_map]; unfold sizeLine; grind))) (by cases (neOf as ct) <;> simp)) ?_ ?_
 ·intro hb s₂ S₂
  refine ex_cons ?_
  refine ex_return S₂ (d := refD r) (ev_var rfl) ?_
  rintro s₃ v S₃ rfl
  exact ⟨by simpa using hb, rfl, S₃⟩
 ·intro hb s₂ S₂
  refine ex_nil ?_
  obtain hnh : ∀ a ∈ neOf as ct, ∃ y tl, ct a = y :: tl := fun a ha => (ne_head ha).2
  have hnot : neOf as ct ≠ [] := by simpa using hb
  refine ex_cons ?_
  refine ex_forJ (fun i => ∀ a ∈ (neOf as ct).take i, ∀ y tl, ct a = y :: tl → ∃ b ∈ neOf as ct, y ∈ (ct b).tail) (by simp) (XB := fun o_ o_ => False) (V := c3W (neOf as ct) r) (W := fun o_ => (r, res.map .str) :: ownM as ct) S₂ (src_list (ds := (neOf as ct).map refD) hr (ev_var rfl)) (mine_sub S₂) lk_id rfl (fun o_ => rfl) ?_ ?_ (fun o_ o_ h => h.elim) rfl rfl
  ·intro i d I₁ s₃ s₄ hJ hd S₄
   refine cutG fun P_ hP_ => ?_
   obtain ⟨hi, rfl⟩ := at_map (z := 0) hd
   obtain ⟨ha, x, tl, hx⟩ := ne_head (mem_getD' (z := 0) hi)
   refine hP_ ?_
   clear hP_ P_
   obtain htake : (neOf as ct).take (i + 1) = (neOf as ct).take i ++ [(neOf as ct).getD i 0] := by rw [List.take_add_one]; simp [List.getD, hi]
   obtain hxok : PyData.strOk x = true := I.ok _ ha x (by rw [hx]; exact .head _)
   obtain hown1 := hown _ ha
   rw [hx] at hown1
   dsimp only at S₄
   refine ex_cons ?_
   refine ex_assign S₄ (ev_item (k := 0) (x := .str x) (ev_var rfl) (.own hown1) ev_int (by grind) (by grind) rfl) (fun s₅ S₅ => ?_) rfl rfl rfl
   dsimp only at S₅
   have S₅ := S₅.vars (V := ("candidate", .str x) :: c3V (neOf as ct) r) (lk_keep (lk_skip (c3W_sub _ _ i)))
   refine ex_cons ?_
   refine ex_forJ (fun j => ∀ b ∈ (neOf as ct).take j, x ∉ (ct b).tail) (by simp) (XB := fun o_ o_ => False) (V := fun o_ => ("candidate", .str x) :: c3V (neOf as ct) r) (W := fun o_ => (r, res.map .str) :: ownM as ct) S₅ (src_list (ds := (neOf as ct).map refD) hr (ev_var rfl)) (mine_sub S₅) lk_id rfl (fun o_ => rfl) ?_ ?_ (fun o_ o_ h => h.elim) rfl rfl
   ·intro j d I₂ s₆ s₇ hJ' hd S₇
    refine cutG fun P_ hP_ => ?_
    obtain ⟨hj, rfl⟩ := at_map (z := 0) hd
    obtain ⟨hb', y, tl', hy⟩ := ne_head (mem_getD' (z := 0) hj)
    refine hP_ ?_
    clear hP_ P_
    obtain hmj := mem_getD' (z := 0) hj
    obtain htake' : (neOf as ct).take (j + 1) = (neOf as ct).take j ++ [(neOf as ct).getD j 0] := by rw [List.take_add_one]; simp [List.getD, hj]
    dsimp only at S₇
    refine ex_cons ?_
    refine ex_if (b := decide (x ∈ (ct ((neOf as ct).getD j 0)).tail)) S₇ (et_cmp (ev_var rfl) (ev_slice_from (k := 1) (ev_var rfl) (.own (hown _ hb')) ev_int (by rw [List.length_map]; have := I.sz _ hb'; unfold sizeLine; grind)) (cmp_inS hr .val hxok ?_ (depth_str _) ?_)) (fun h s₈ S₈ => ?_) (fun h s₈ S₈ => ?_)
    ·rw [← List.map_drop]
     exact simp_str fun z hz => I.ok _ hb' z (List.mem_of_mem_drop hz)
    ·rw [← List.map_drop, mem_map_inj str_inj, List.drop_one]; simp
    ·obtain hmem : x ∈ (ct ((neOf as ct).getD j 0)).tail := by simpa using h
     refine ex_cons ?_
     refine ex_assign S₈ ev_none (fun s₉ S₉ => ?_) rfl rfl rfl
     dsimp only at S₉
     refine ex_cons (ex_break ?_)
     refine ⟨("candidate", .none) :: c3V (neOf as ct) r, _, rfl, S₉.vars (lk_keep (lk_skip (lk_skip lk_id))), fun S' => ?_⟩
     refine ex_nil ⟨fun a ha' y' tl'' hy' => ?_, S'⟩
     rw [htake] at ha'
     rcases List.mem_append.mp ha' with z | z
     ·exact hJ a z y' tl'' hy'
     ·rw [List.mem_singleton.mp z, hx] at hy'; cases hy'
      exact ⟨_, hmj, hmem⟩
    ·obtain hmem : x ∉ (ct ((neOf as ct).getD j 0)).tail := by simpa using h
     refine ex_nil ?_
     refine ex_nil ⟨fun b hb'' => ?_, S₈.vars (lk_skip lk_id)⟩
     rw [htake'] at hb''
     rcases List.mem_append.mp hb'' with z | z
     ·exact hJ' b z
     ·rw [List.mem_singleton.mp z]; exact hmem
   ·intro s₆ hJ' S₆
    refine ex_cons (ex_break ?_)
    refine ⟨("candidate", .str x) :: c3V (neOf as ct) r, _, rfl, S₆, fun S' => ?_⟩
    rw [List.length_map, List.take_length] at hJ'
    exact c3_rest hr G hnd ct res I.ok I.sz hres hal hnot (some x) (c3cand_some hi hx hJ hnh hJ') S'
  ·intro s₃ hJ S₃
   refine ex_nil ?_
   rw [List.length_map, List.take_length] at hJ
   refine c3_rest hr G hnd ct res I.ok I.sz hres hal hnot none (c3cand_none hJ hnh) ?_
   obtain ⟨n, hn⟩ : ∃ n, (neOf as ct).length = n + 1 := ⟨(neOf as ct).length - 1, by have := List.length_pos_iff.mpr hnot; grind⟩
   rw [List.length_map, hn] at S₃
   exact S₃
end
end Mine
end
section
open PySem PySem.W PyProof.Rows
namespace Mine
open PySem.Calls
theorem neOf_next {as : List Addr} {ct : Addr → List Str} {t : Str} : (neOf as ct).filter (fun a => decide (c3head t (ct a) ≠ [])) = as.filter (fun a => decide (c3head t (ct a) ≠ [])) := by
 unfold neOf
 rw [List.filter_filter]
 refine List.filter_congr fun a o_ => ?_
 by_cases h : ct a = []
 ·simp [h, c3head]
 ·simp [h]
theorem c3head_sub {t : Str} {s : List Str} : ∀ x ∈ c3head t s, x ∈ s := fun x hx => by
 unfold c3head at hx
 split at hx
 ·exact List.mem_of_mem_tail hx
 ·exact hx
theorem C3St.next {as js : List Addr} {ct : Addr → List Str} (I : C3St as js ct) (hal : as.length ≤ 1000) (t : Str) : C3St as (neOf as ct) (fun a => c3head t (ct a)) where
 sub := fun a ha => (List.mem_filter.mp ha).1
 same := neOf_next
 ok := fun a ha x hx => I.ok a ha x (c3head_sub x hx)
 sz := fun a ha => Nat.le_trans (c3head_le t (ct a)) (I.sz a ha)
 len := Nat.le_trans (List.length_filter_le _ _) hal
theorem c3F_step {n : Nat} {as : List Addr} {ct : Addr → List Str} {t : Str} (h : c3cand ((neOf as ct).map ct) = some t) : c3F (n + 1) (as.map ct) = (c3F n (as.map fun a => c3head t (ct a))).map (t :: ·) := by
 obtain hne : (neOf as ct).map ct ≠ [] := fun e => by rw [e] at h; cases h
 rw [c3F_s, ne_map, if_neg hne, h]
 simp only [List.map_map, Function.comp_def]
theorem c3F_none {n : Nat} {as : List Addr} {ct : Addr → List Str} (h : c3cand ((neOf as ct).map ct) = none) (hne : neOf as ct ≠ []) : c3F (n + 1) (as.map ct) = none := by
 rw [c3F_s, ne_map, if_neg (by simpa using hne), h]
theorem c3F_done {n : Nat} {as : List Addr} {ct : Addr → List Str} (h : neOf as ct = []) : c3F (n + 1) (as.map ct) = some [] := by
 rw [c3F_s, ne_map, if_pos (by rw [h]; rfl)]
theorem c3len_step {as : List Addr} {ct : Addr → List Str} {t : Str} (h : c3cand ((neOf as ct).map ct) = some t) : c3len (as.map fun a => c3head t (ct a)) < c3len (as.map ct) := by
 obtain h1 := c3cand_mem h
 rw [← ne_map, heads_filter] at h1
 have := c3len_lt h1
 rwa [List.map_map] at this
noncomputable def C3Raised (c : Cx) (s : Shared) (as : List Addr) (e : Value) (s' : Shared) : Prop :=
 ∃ (s₁ : Shared) (a L : Addr) (l : List Env) (t : Tok) (ct' : Addr → List Str), e = .ref a ∧ c.A.frames = some l ∧ Kp c.hb as s s₁ ∧ (∀ b ∈ as, ∃ vs n, s₁.heap.get? b = some (listO vs n) ∧ RepAll c.X s₁.heap ((ct' b).map .str) vs) ∧
  Fly c.hb (c3Env L :: l) l s₁ a "RuntimeError" (some [.str c3Msg t]) .none s'
theorem lk_swap {x x' : Str} {a b : D} {V : List (Str × D)} (h : (x == x') = false := by decide) : ∀ y d, ((x, a) :: (x', b) :: V).lookup y = some d → ((x', b) :: (x, a) :: V).lookup y = some d := fun y d e => by
 simp only [List.lookup_cons] at e ⊢
 cases q : y == x with
 | true =>
  cases q' : y == x' with
  | true => rw [eq_of_beq q] at q'; rw [h] at q'; cases q'
  | false => rw [q] at e; exact e
 | false =>
  rw [q] at e
  cases q' : y == x' with
  | true => rw [q'] at e; exact e
  | false => rw [q'] at e; exact e
noncomputable def c3R (as : List Addr) (ct : Addr → List Str) : Option (List Str) := c3F (c3len (as.map ct) + 1) (as.map ct)
theorem c3_call {c : Cx} {k : Nat} (hr : Room c.A (k + 1)) (G : Gl c.hb) {as : List Addr} {ct : Addr → List Str} (hnd : as.Nodup) (hown : ∀ a ∈ as, (a, (ct a).map D.str) ∈ c.own) (hoff : Off c as) (hok : ∀ a ∈ as, ∀ x ∈ ct a, PyData.strOk x = true) (hsz : c3len (as.map ct) ≤ 900) (hsz1 : ∀ a ∈ as, (ct a).length ≤ 1000) (hal : as.length ≤ 1000)
  {s : Shared} {vs : List Value} (o : Ok c s) (hv : RepAll c.X s.heap [.list (as.map refD)] vs) :
  wpAny (model c.prog c.w) c.A (call (.ref 35) vs)
   (fun v s' => ∃ res, c3R as ct = some res ∧ Kp c.hb as s s' ∧ Rep c.X s'.heap (.list (res.map .str)) v ∧ ∀ a ∈ as, ∃ n, s'.heap.get? a = some (listO [] n))
   (fun e s' => c3R as ct = none ∧ C3Raised c s as e s') s := by
 refine cutG fun P_ hP_ => ?_
 obtain ⟨v, _, rfl, h1, rfl⟩ := hv
 refine hP_ ?_
 clear hP_ P_
 refine wpAny_call (enter_fn (G.fn 4 35 (by simp)) (bd := [("sequences", .list (as.map refD))]) (ow := ownM as ct) (binds := [("sequences", v)]) o hr (fun o_ o_ o_ o_ o_ => BindsTo.of_eq rfl) rfl ⟨v, _, rfl, h1, rfl⟩ (by simp) (fun n => by rfl) (fun p hp => ?_) (by rw [ownM_keys]; exact hnd) (by rw [ownM_keys]; exact hoff) (fun L s₁ hL S => ?_) (by exact List.nodup_nil) rfl rfl rfl)
 ·refine cutG fun P_ hP_ => ?_
  obtain ⟨a, ha, rfl⟩ := List.mem_map.mp hp
  refine hP_ ?_
  clear hP_ P_
  exact hown a ha
 ·have hr' := hr.deeper (c3Env L)
  rw [ownM_keys] at S
  dsimp only [fnCx] at S
  refine cutQ fun Q₁ E₁ hQ hE => ?_
  refine ex_cons ?_
  refine ex_assign_own S (evn_list evs_nil (by decide)) (fun s₂ r S₂ => ?_) rfl rfl rfl
  dsimp only at S₂
  have hra : r ∉ as := fun h => by
   have := (List.nodup_cons.mp S₂.nd).1
   exact this (by show r ∈ (ownM as ct).map (·.1); rw [ownM_keys]; exact h)
  have S₂ : Sx (c3C c L r (c3V as r) as ct []) s as s₂ := S₂.vars (V := c3V as r) lk_swap
  have ret : ∀ {fl : Flow} {s' : Shared}, (∃ res ct', c3R as ct = some res ∧ neOf as ct' = [] ∧ fl = .ret (.ref r) ∧ Sx (c3C c L r (c3V (neOf as ct') r) as ct' res) s as s') →
    (∃ res, c3R as ct = some res ∧ Kp c.hb as s s' ∧ Rep c.X s'.heap (.list (res.map .str)) (match fl with | .ret v => v | _ => .none) ∧ ∀ a ∈ as, ∃ n, s'.heap.get? a = some (listO [] n)) := fun {fl s'} h => by
   refine cutG fun P_ hP_ => ?_
   obtain ⟨res, ct', h1, h2, rfl, S'⟩ := h
   refine hP_ ?_
   clear hP_ P_
   refine ⟨res, h1, S'.kp, ?_, fun a ha => ?_⟩
   ·refine cutG fun P_ hP_ => ?_
    obtain ⟨_, ys, n, hg, hr⟩ := S'.ok.own _ (.head _)
    refine hP_ ?_
    clear hP_ P_
    refine ⟨r, ys, n, rfl, fun q => ?_, hg, hr.sub fun b hb => .tail _ (List.mem_append_right _ hb)⟩
    obtain ⟨ob, e⟩ := o.xin r q
    rcases S'.free r (List.mem_append_right _ (.head _)) with z | z
    ·exact hra z
    ·exact no_some (z.symm.trans e)
   ·refine cutG fun P_ hP_ => ?_
    obtain ⟨_, ys, n, hg, hr⟩ := S'.ok.own _ (.tail _ (ownM_mem ha))
    refine hP_ ?_
    clear hP_ P_
    have : ct' a = [] := by
     by_cases q : ct' a = []
     ·exact q
     ·have : a ∈ neOf as ct' := List.mem_filter.mpr ⟨ha, by simpa using q⟩
      rw [h2] at this; cases this
    rw [this] at hr; cases hr
    exact ⟨n, hg⟩
  refine ex_cons ?_
  refine ex_whileX (XB := fun e s'' => c3R as ct = none ∧ ∃ V ct' res s₁ a t, e = .ref a ∧ Sx (c3C c L r V as ct' res) s as s₁ ∧ Made s₁ a "RuntimeError" (some [.str c3Msg t]) s'')
   (α := { p : Nat × List Addr × (Addr → List Str) × List Str // C3St as p.2.1 p.2.2.1 ∧ c3len (as.map p.2.2.1) < p.1 ∧ (c3F p.1 (as.map p.2.2.1)).map (p.2.2.2 ++ ·) = c3R as ct ∧ p.2.2.2.length + c3len (as.map p.2.2.1) ≤ 900 })
   (ctx := fun p => c3C c L r (c3V p.1.2.1 r) as p.1.2.2.1 p.1.2.2.2) (μ := fun p => p.1.1) (a₀ := ⟨(c3len (as.map ct) + 1, as, ct, []), ⟨fun o_ h => h, rfl, hok, hsz1, hal⟩, by simp, by simp [c3R], by simpa using hsz⟩) (fun o_ => ⟨rfl, rfl, rfl, rfl⟩) S₂ ?_ ?_
  ·rintro ⟨⟨n, js, ct', res⟩, I, hlt, heq, hlen⟩
   dsimp only at I hlt heq hlen ⊢
   refine cutG fun P_ hP_ => ?_
   obtain ⟨m, rfl⟩ : ∃ m, n = m + 1 := ⟨n - 1, by omega⟩
   refine hP_ ?_
   clear hP_ P_
   refine ⟨true, et_bool ev_bool, fun o_ s₃ S₃ => ?_, fun h => by cases h⟩
   refine wpAny_mono (c3_turn hr' G hnd hra js ct' res I (by omega) hal S₃) (fun f s₄ hq => ?_) (fun e s₄ he => ?_)
   ·cases f with
    | next =>
     obtain ⟨t, ht, S₄⟩ := hq
     have hl := c3len_step ht
     refine ⟨⟨(m, neOf as ct', fun a => c3head t (ct' a), res ++ [t]), I.next hal t, by dsimp only; omega, ?_, ?_⟩, by dsimp only; omega, S₄⟩
     ·dsimp only; rw [← heq, c3F_step ht, Option.map_map]
      congr 1; funext l; simp
     ·simp only [List.length_append, List.length_cons, List.length_nil]; omega
    | cont =>
     obtain ⟨t, ht, S₄⟩ := hq
     have hl := c3len_step ht
     refine ⟨⟨(m, neOf as ct', fun a => c3head t (ct' a), res ++ [t]), I.next hal t, by dsimp only; omega, ?_, ?_⟩, by dsimp only; omega, S₄⟩
     ·dsimp only; rw [← heq, c3F_step ht, Option.map_map]
      congr 1; funext l; simp
     ·simp only [List.length_append, List.length_cons, List.length_nil]; omega
    | brk => exact hq.elim
    | ret v =>
     refine cutG fun P_ hP_ => ?_
     obtain ⟨h1, rfl, S₄⟩ := hq
     refine hP_ ?_
     clear hP_ P_
     rw [c3F_done h1] at heq
     refine hQ _ _ ?_
     exact ret ⟨res, ct', by rw [← heq]; simp, h1, rfl, S₄⟩
   ·refine cutG fun P_ hP_ => ?_
    obtain ⟨h0, h1, V, s₅, a, t, rfl, S₅, hm⟩ := he
    refine hP_ ?_
    clear hP_ P_
    rw [c3F_none h1 h0] at heq
    exact ⟨heq.symm, V, ct', res, s₅, a, t, rfl, S₅, hm⟩
  ·rintro e s₃ ⟨hn, V, ct', res, s₄, a, t, rfl, S₄, hm⟩
   refine cutG fun P_ hP_ => ?_
   obtain ⟨l', hl', ff⟩ := S₄.ok.frames
   obtain ⟨l, hl, _⟩ := o.frames
   refine hP_ ?_
   clear hP_ P_
   have hfr : (c.A.deeper (c3Env L)).frames = some (c3Env L :: l) := Around.frames_deeper hl
   have : l' = c3Env L :: l := by obtain rfl := Option.some.inj (hfr.symm.trans hl'); rfl
   subst this
   refine note_made (L := L) hm hfr ff rfl fun s₅ f5 => ?_
   refine came_back f5 rfl fun s₆ f6 => ?_
   refine hE _ _ ?_
   refine leave_fly f6 rfl fun s₇ f7 => ?_
   refine ⟨hn, s₄, a, L, l, t, ct', rfl, hl, S₄.kp, fun b hb => ?_, f7⟩
   refine cutG fun P_ hP_ => ?_
   obtain ⟨_, vs, n, hg, hr⟩ := S₄.ok.own _ (.tail _ (ownM_mem hb))
   refine hP_ ?_
   clear hP_ P_
   exact ⟨vs, n, hg, hr.sub fun b hb => .tail _ (List.mem_append_right _ hb)⟩
end Mine
end
section
open PySem PySem.W PyProof.Rows
namespace Mine
open PySem.Calls
noncomputable def mergedD (o : Option (List Str)) : D := match o with | some res => .list (res.map .str) | none => .str c3Msg
theorem Sx.mark {c : Cx} {s₀ s : Shared} {O : List Addr} {h : Option Value} (S : Sx c s₀ O s) : Sx { c with A := c.A.mark h } s₀ O s :=
 ⟨⟨S.ok.base, S.ok.frames, S.ok.xin, S.ok.vars, S.ok.own, S.ok.home⟩, S.kp, S.free, S.hx, ⟨S.offs.x, S.offs.home, S.offs.base, S.offs.frame⟩, S.nd, S.fr, S.cap⟩
theorem bi_at {M : Model} {A : Around} {E : Value → Shared → Prop} {hb : Heap} {env : Env} {s : Shared} (G : Gl hb) (hst : hb.StaysIn s.heap) {x : Str} {v : Value} {pos : Pos} {Q : Value → Shared → Prop} (h : biList.lookup x = some v) (hq : Q v s)
  (hk : env.scope.kind = .function := by rfl) (hg : env.globals = mainGlobals := by rfl) (hb' : env.builtins = builtinsNs := by rfl)
  (hx : env.kindOf x = some .globalImplicit := by rfl) (hd : (x == ("__debug__" : Str)) = false := by decide) : wpAny M A (eval (.Name x pos) env) Q E s := by
 refine cutG fun P_ hP_ => ?_
 obtain ⟨mg, mb, N, h1, _⟩ := G.names
 refine hP_ ?_
 clear hP_ P_
 exact Name_function_global hk hx (loadGlobal_builtin (env := env) (by rw [hg]; exact N.g.keeps hst) (h1 x v h).1 (by rw [hb']; exact N.b.keeps hst) (h1 x v h).2 hq) hd
theorem Fly.typeIs {hb : Heap} {l₀ l : List Env} {s₁ s' : Shared} {e : Addr} {X : String} {args : Option (List Value)} {fl : Value} (x : Fly hb l₀ l s₁ e X args fl s') : s'.TypeIs (.ref e) X := by
 refine cutG fun P_ hP_ => ?_
 obtain ⟨base, a0, h1, h2, h3, h4, h5, h6⟩ := x.now
 refine hP_ ?_
 clear hP_ P_
 exact h5.there
theorem Fly.bears {hb : Heap} {l₀ l : List Env} {s₁ s' : Shared} {e : Addr} {X : String} {as : List Value} {fl : Value} (x : Fly hb l₀ l s₁ e X (some as) fl s') :
  ∃ oe ws t ot n, s'.heap.get? e = some oe ∧ oe.cls = .type X ∧ oe.data = .fields ws ∧ ws[0]? = some (.ref t) ∧ s'.heap.get? t = some ot ∧ ot.cls = .type "tuple" ∧ ot.data = .seq as.toArray n := by
 refine cutG fun P_ hP_ => ?_
 obtain ⟨base, a0, h1, h2, h3, h4, ⟨oe, vs, T, oT, ts, he, ⟨hcls, h0⟩, hd, hv1, _⟩, h6⟩ := x.now
 obtain ⟨t, rfl, ht, ot, n, q1, q2, q3⟩ := h6 as rfl
 refine hP_ ?_
 clear hP_ P_
 exact ⟨oe, vs, t, ot, n, he, hcls, hd, h0, q1, q2, q3⟩
noncomputable abbrev mC (c : Cx) (L : Addr) (as : List Addr) (ct : Addr → List Str) : Cx := { prog := c.prog, w := c.w, A := c.A.deeper (fnEnv (fName 16) (fScope 16) L 95 (.ref (95 - 1))), hb := c.hb, env := fnEnv (fName 16) (fScope 16) L 95 (.ref (95 - 1)), X := homes (fnEnv (fName 16) (fScope 16) L 95 (.ref (95 - 1))) ++ c.X, vars := [("rows", .list (as.map refD))], own := ownM as ct }
theorem merged_call {c : Cx} {k : Nat} (hr : Room c.A (k + 2)) (G : Gl c.hb) {as : List Addr} {ct : Addr → List Str} (hnd : as.Nodup) (hown : ∀ a ∈ as, (a, (ct a).map D.str) ∈ c.own) (hoff : Off c as) (hok : ∀ a ∈ as, ∀ x ∈ ct a, PyData.strOk x = true) (hsz : c3len (as.map ct) ≤ 900) (hsz1 : ∀ a ∈ as, (ct a).length ≤ 1000) (hal : as.length ≤ 1000)
  {s : Shared} {vs : List Value} {E : Value → Shared → Prop} (o : Ok c s) (hv : RepAll c.X s.heap [.list (as.map refD)] vs) :
  wpAny (model c.prog c.w) c.A (call (.ref 95) vs)
   (fun v s' => Kp c.hb as s s' ∧ Rep c.X s'.heap (mergedD (c3R as ct)) v ∧ ∀ a ∈ as, ∃ vs n, s'.heap.get? a = some (listO vs n) ∧ (c3R as ct ≠ none → vs = [])) E s := by
 refine cutG fun P_ hP_ => ?_
 obtain ⟨v, _, rfl, h1, rfl⟩ := hv
 refine hP_ ?_
 clear hP_ P_
 refine wpAny_call (enter_fn (G.fn 16 95 (by simp)) (bd := [("rows", .list (as.map refD))]) (ow := ownM as ct) (binds := [("rows", v)]) o hr (fun o_ o_ o_ o_ o_ => BindsTo.of_eq rfl) rfl ⟨v, _, rfl, h1, rfl⟩ (by simp) (fun n => by rfl) (fun p hp => ?_) (by rw [ownM_keys]; exact hnd) (by rw [ownM_keys]; exact hoff) (fun L s₁ hL S => ?_) (by exact List.nodup_nil) rfl rfl rfl)
 ·refine cutG fun P_ hP_ => ?_
  obtain ⟨a, ha, rfl⟩ := List.mem_map.mp hp
  refine hP_ ?_
  clear hP_ P_
  exact hown a ha
 ·have hr' := hr.deeper (fnEnv (fName 16) (fScope 16) L 95 (.ref 94))
  rw [ownM_keys] at S
  have hoff' : Off (fnCx c (fnEnv (fName 16) (fScope 16) L 95 (.ref (95 - 1))) [("rows", .list (as.map refD))] (ownM as ct)) as := by
   have := S.offs; unfold ownA at this; rw [show (fnCx c (fnEnv (fName 16) (fScope 16) L 95 (.ref (95 - 1))) [("rows", .list (as.map refD))] (ownM as ct)).own = ownM as ct from rfl, ownM_keys] at this; exact this
  dsimp only [fnCx] at S hoff'
  refine cutQ fun Q₁ E₁ hQ hE => ?_
  refine ex_cons ?_
  refine wpAny_Try_except ?_
  refine cutQ fun Q₂ E₂ hQ₂ hE₂ => ?_
  refine ex_cons ?_
  refine wpAny_Return_some ?_
  obtain hgl : ∀ np, Ev { prog := c.prog, w := c.w, A := c.A.deeper (fnEnv (fName 16) (fScope 16) L 95 (.ref (95 - 1))), hb := c.hb, env := fnEnv (fName 16) (fScope 16) L 95 (.ref (95 - 1)), X := homes (fnEnv (fName 16) (fScope 16) L 95 (.ref (95 - 1))) ++ c.X, vars := [("rows", .list (as.map refD))], own := ownM as ct } (.Name "_c3_merge" np) (.val (.ref 35)) := fun np => ev_gl G rfl
  refine Call_Name rfl (wpAny_mono (hgl _ s₁ _ S.ok) (fun f' s₂ h₂ => ?_) fun o_ o_ e => e)
  obtain ⟨k₂, rfl⟩ := h₂
  have S₂ := S.step k₂
  refine callWith_data S₂.ok (FnAt.kpr (G.fn 4 35 (.head _))) (evs_cons (ev_var rfl) evs_nil) (fun s₃ ws k₃ hws => ?_) rfl rfl
  have S₃ := S₂.step k₃
  refine wpAny_mono (c3_call (c := mC c L as ct) hr' G hnd (fun a ha => ownM_mem ha) hoff' hok hsz hsz1 hal S₃.ok hws) (fun v s₄ h₄ => ?_) (fun e s₄ h₄ => ?_)
  ·refine cutG fun P_ hP_ => ?_
   obtain ⟨res, e1, k₄, r₄, l₄⟩ := h₄
   refine hP_ ?_
   clear hP_ P_
   refine hQ₂ _ _ (hQ _ _ ?_)
   refine ⟨S₃.kp.join k₄ (fun a ha => .inl ha), ?_, fun a ha => ?_⟩
   ·rw [e1]; exact r₄.sub fun b hb => List.mem_append_right _ hb
   ·obtain ⟨n, hg⟩ := l₄ a ha; exact ⟨[], n, hg, fun o_ => rfl⟩
  ·refine cutG fun P_ hP_ => ?_
   obtain ⟨hn, s₅, a, L', l', t, ct', rfl, hl', k₅, hcts, fly⟩ := h₄
   have S₅ : Sx (mC c L as ct') s as s₅ := by
    have hk : ownA (mC c L as ct') = as := ownM_keys as ct'
    obtain hk0 : ownA (mC c L as ct) = as := ownM_keys as ct
    refine ⟨S₃.ok.off k₅ hoff' (fun b hb => ?_) (fun p hp => ?_), S₃.kp.join k₅ (fun b hb => .inl hb), fun b hb => S₃.free b (by rw [hk0]; rw [hk] at hb; exact hb), S₃.hx, by rw [hk]; exact ⟨hoff'.x, hoff'.home, hoff'.base, hoff'.frame⟩, by rw [hk]; exact hnd, S₃.fr.kp k₅ (fun b hb hm => hoff'.home b hm hb), S₃.cap⟩
    ·obtain ⟨us, n, hg, _⟩ := hcts b hb; exact ⟨_, hg⟩
    ·obtain ⟨b, hb, rfl⟩ := List.mem_map.mp hp
     obtain ⟨us, n, hg, hr5⟩ := hcts b hb
     exact ⟨hoff'.x b hb, us, n, hg, hr5⟩
   obtain ⟨l, hl, _⟩ := o.frames
   refine hP_ ?_
   clear hP_ P_
   have hfr : (c.A.deeper (fnEnv (fName 16) (fScope 16) L 95 (.ref (95 - 1)))).frames = some (fnEnv (fName 16) (fScope 16) L 95 (.ref (95 - 1)) :: l) := Around.frames_deeper hl
   have : l' = fnEnv (fName 16) (fScope 16) L 95 (.ref (95 - 1)) :: l := by rw [show (mC c L as ct).A.frames = _ from hfr] at hl'; cases hl'; rfl
   subst this
   refine hE₂ _ _ ?_
   refine note_fly (L := L) fly hfr rfl fun s₆ f6 => ?_
   refine set_fly (f := none) f6 fun s₇ f7 => ?_
   refine wpAny_handleBy_builtin_as (X := "RuntimeError") (T := "RuntimeError") (b := true) PySem.F.isExc_RuntimeError PySem.F.notTuple_RuntimeError (by rw [isSubtype_type]; kernel_rfl) ?_
   refine bi_at G (S₅.step f7.kp).ok.base rfl ⟨rfl, f7.typeIs, ?_⟩
   rw [if_pos rfl]
   refine set_fly (f := none) f7 fun s₈ f8 => ?_
   have S₈ := S₅.step f8.kp
   refine cutG fun P_ hP_ => ?_
   obtain ⟨oe, ws, t', ot, n', he, hc, hd, h0, ht, htc, htd⟩ := f8.bears
   refine hP_ ?_
   clear hP_ P_
   have S₈m := S₈.mark (h := some (.ref a))
   have hmine : ∀ b ∈ mine { mC c L as ct' with A := (c.A.deeper (fnEnv (fName 16) (fScope 16) L 95 (.ref (95 - 1)))).mark (some (.ref a)) }, (∃ o es n, s₈.heap.get? b = some o ∧ o.data = .dict es n) ∨ ∃ us n, s₈.heap.get? b = some (listO us n) := fun b hb => by
    rcases List.mem_append.mp hb with z | z
    ·refine cutG fun P_ hP_ => ?_
     obtain ⟨m, ob, es, ep, e, d, _⟩ := S₈.fr.1
     refine hP_ ?_
     clear hP_ P_
     have z' : b ∈ [L] := z
     have : b = L := List.mem_singleton.mp z'
     rw [this]; exact .inl ⟨ob, es, ep, e, d⟩
    ·refine cutG fun P_ hP_ => ?_
     obtain ⟨p, hp, rfl⟩ := List.mem_map.mp z
     obtain ⟨_, us, n, e, _⟩ := S₈.ok.own p hp
     refine hP_ ?_
     clear hP_ P_
     exact .inr ⟨us, n, e⟩
   obtain ha : a ∉ mine { mC c L as ct' with A := (c.A.deeper (fnEnv (fName 16) (fScope 16) L 95 (.ref (95 - 1)))).mark (some (.ref a)) } := fun hb => by
    rcases hmine a hb with ⟨ob, es, n, e, d⟩ | ⟨us, n, e⟩
    ·cases he.symm.trans e; cases hd.symm.trans d
    ·obtain rfl := Option.some.inj (he.symm.trans e); cases hd
   obtain ht' : t' ∉ mine { mC c L as ct' with A := (c.A.deeper (fnEnv (fName 16) (fScope 16) L 95 (.ref (95 - 1)))).mark (some (.ref a)) } := fun hb => by
    rcases hmine t' hb with ⟨ob, es, n, e, d⟩ | ⟨us, n, e⟩
    ·cases ht.symm.trans e; cases htd.symm.trans d
    ·obtain rfl := Option.some.inj (ht.symm.trans e); exact absurd (show Value.type "list" = Value.type "tuple" from htc) (by decide)
   refine st_name (c := { mC c L as ct' with A := (c.A.deeper (fnEnv (fName 16) (fScope 16) L 95 (.ref (95 - 1)))).mark (some (.ref a)) }) S₈m.rebase rfl (.inl rfl) (d := refD a) rfl fun s₉ S₉ => ?_
   obtain he9 := S₉.kp.get he (fun es n z => by cases hd.symm.trans z) ha
   obtain ht9 := S₉.kp.get ht (fun es n z => by cases htd.symm.trans z) ht'
   have S₉' := S₈m.back S₉ rfl
   dsimp only at S₉'
   refine ex_cons ?_
   refine wpAny_Return_some ?_
   refine Call_Name rfl (bi_at G S₉'.ok.base rfl ?_)
   refine callWith_data S₉'.ok kpr_type (evs_cons (ev_var (d := refD a) rfl) evs_nil) (fun s₁₀ us k₁₀ hus => ?_) rfl rfl
   refine cutG fun P_ hP_ => ?_
   obtain ⟨v', _, rfl, rfl, rfl⟩ := hus
   refine hP_ ?_
   clear hP_ P_
   have S₁₀ := S₉'.step k₁₀
   refine P.str_of_exc_one PySem.F.excStr_RuntimeError (by have := hr'.units; show (c.A.deeper (fnEnv (fName 16) (fScope 16) L 95 (.ref 94))).units + 2 < cLine; omega) ⟨oe, ws, k₁₀.get he9 (fun es n z => by cases hd.symm.trans z) (fun h => (nomatch h)), hc, hd, h0⟩ ⟨ot, n', k₁₀.get ht9 (fun es n z => by cases htd.symm.trans z) (fun h => (nomatch h)), htc, htd⟩ ?_
   obtain ⟨m, hm⟩ := S₁₀.fr.1
   refine wpAny_nameGoes rfl hm rfl fun h' m' hn' hs' => ?_
   refine hQ _ _ ?_
   refine ⟨S₁₀.kp.join (sameBut_kp (s := s₁₀) hs' _) (fun b hb => S₁₀.free b (List.mem_append_left _ (by rw [List.mem_singleton.mp hb]; exact .head _))), ?_, fun b hb => ?_⟩
   ·rw [hn]; exact ⟨t, rfl⟩
   ·refine cutG fun P_ hP_ => ?_
    obtain ⟨_, us, n, e, _⟩ := S₁₀.ok.own _ (ownM_mem hb)
    refine hP_ ?_
    clear hP_ P_
    refine ⟨us, n, (hs'.2 b fun z => ?_).trans e, fun z => absurd hn z⟩
    refine cutG fun P_ hP_ => ?_
    obtain ⟨ob, es, ep, e', d', _⟩ := hm
    refine hP_ ?_
    clear hP_ P_
    rw [z] at e; obtain rfl := Option.some.inj (e.symm.trans e'); cases d'
end Mine
end
section
open PySem PySem.W PyProof.Rows
namespace Mine
open PySem.Calls
noncomputable def putS (r : List Str) (t : Str) : List Str := if t ∈ r then r else r ++ [t]
noncomputable def dedupS (l : List Str) : List Str := l.foldl putS []
theorem dedup_take {l : List Str} {i : Nat} (h : i < l.length) : dedupS (l.take (i + 1)) = putS (dedupS (l.take i)) (l.getD i "") := by
 unfold dedupS
 rw [List.take_add_one, List.foldl_append]
 simp [List.getD, h]
theorem dedup_len : ∀ (l acc : List Str), (l.foldl putS acc).length ≤ acc.length + l.length
 | [], acc => by simp
 | x :: r, acc => by
  have := dedup_len r (putS acc x)
  have h : (putS acc x).length ≤ acc.length + 1 := by unfold putS; split <;> simp
  simp only [List.foldl_cons, List.length_cons]; grind
theorem dedup_sub : ∀ (l acc : List Str), ∀ x ∈ l.foldl putS acc, x ∈ acc ∨ x ∈ l
 | [], acc, x, h => .inl h
 | y :: r, acc, x, h => by
  rcases dedup_sub r (putS acc y) x h with z | z
  ·unfold putS at z
   split at z
   ·exact .inl z
   ·rcases List.mem_append.mp z with q | q
    ·exact .inl q
    ·exact .inr (by rw [List.mem_singleton.mp q]; exact .head _)
  ·exact .inr (.tail _ z)
theorem dedup_spec {c : Cx} {k : Nat} (hr : Room c.A (k + 1)) {hb₀ : Heap} (G : Gl hb₀) {l : List Str} (hok : ∀ x ∈ l, PyData.strOk x = true) (hlen : l.length ≤ 1000) (hh : c.hb = hb₀ := by rfl) :
  CallP c (.ref 50) [.list (l.map .str)] (.list ((dedupS l).map .str)) := by
 subst hh
 refine callP_fn (G.fn 7 50 (by simp)) (bd := [("unhashable_params", .list (l.map .str))]) hr ?_ ?_ (by simp) (fun n => by rfl) (by exact List.nodup_nil) rfl rfl rfl
 ·rintro s vs o ⟨v, _, rfl, h1, rfl⟩
  exact ⟨[("unhashable_params", v)], fun o_ o_ o_ o_ o_ => BindsTo.of_eq rfl, rfl, ⟨v, _, rfl, h1, rfl⟩⟩
 ·intro L s s₁ o S
  dsimp only [fnCx] at S
  obtain hr' := hr.deeper (fnEnv (fName 7) (fScope 7) L 50 (.ref 49))
  refine ex_cons ?_
  refine ex_assign_own S (evn_list evs_nil (by decide)) (fun s₂ a S₂ => ?_) rfl rfl rfl
  dsimp only at S₂
  refine ex_cons ?_
  refine ex_for (V := fun o_ => [("new_unhashable", refD a), ("unhashable_params", .list (l.map .str))]) (W := fun i => [(a, (dedupS (l.take i)).map .str)]) S₂ (src_list (ds := l.map .str) hr' (ev_var rfl)) (mine_sub S₂) lk_id rfl (fun o_ => rfl) ?_ ?_ rfl rfl
  ·intro i d I s₃ s₄ hd S₄
   obtain ⟨hi, rfl⟩ := at_map (z := ("" : Str)) hd
   obtain hstep := dedup_take hi
   obtain hxok := hok _ (mem_getD' (z := ("" : Str)) hi)
   obtain hdl := dedup_len (l.take i) []
   obtain hds : ∀ x ∈ dedupS (l.take i), PyData.strOk x = true := fun x hx => by
    rcases dedup_sub _ _ x hx with z | z
    ·cases z
    ·exact hok x (List.mem_of_mem_take z)
   obtain hdl' : (dedupS (l.take i)).length ≤ 1000 := by
    unfold dedupS; rw [List.length_take] at hdl; simp only [List.length_nil] at hdl; grind
   dsimp only at S₄
   refine ex_cons ?_
   refine ex_if (b := decide (l.getD i "" ∉ dedupS (l.take i))) S₄ (et_cmp (ev_var rfl) (ev_var (d := refD a) rfl) (cmp_notinS hr' (.own (.head _)) hxok (simp_str hds) (depth_str _) (by rw [mem_map_inj str_inj]; simp))) (fun hb s₅ S₅ => ?_) (fun hb s₅ S₅ => ?_)
   ·refine ex_cons ?_
    refine ex_meth (own' := [(a, (dedupS (l.take i) ++ [l.getD i ""]).map .str)]) S₅ (ev_var rfl) .head (evs_cons (ev_var rfl) evs_nil) (by rw [List.map_append]; exact meth_append (.tail _ (.head _)) (by rw [List.length_map]; unfold sizeLine; grind)) F.slot_list_append F.type_list_append (fun s₆ S₆ => ?_) rfl rfl rfl
    refine ex_nil ?_
    refine ex_nil ?_
    rw [show dedupS (l.take i) ++ [l.getD i ""] = dedupS (l.take (i + 1)) by rw [hstep, putS, if_neg (by simpa using hb)]] at S₆
    exact S₆.vars (lk_skip lk_id)
   ·refine ex_nil ?_
    refine ex_nil ?_
    rw [show dedupS (l.take i) = dedupS (l.take (i + 1)) by rw [hstep, putS, if_pos (by simpa using hb)]] at S₅
    exact S₅.vars (lk_skip lk_id)
  ·intro s₃ S₃
   refine ex_nil ?_
   rw [List.length_map, List.take_length] at S₃
   refine ex_cons ?_
   refine ex_return S₃ (d := refD a) (ev_var rfl) ?_
   rintro s₄ v S₄ rfl
   exact ret_own o S₄ (.head _) fun b hb => .tail _ (List.mem_append_right _ hb)
end Mine
end
section
open PySem PySem.W PyProof.Rows
namespace Mine
open PySem.Calls
section
variable {c : Cx} {s₀ s : Shared} {O : List Addr} {E : Value → Shared → Prop}
theorem ex_remove_none {α : Type} [DecidableEq α] (K : Scal α) {M₀ : Model} {A₀ : Around} {env₀ : Env} {o : Expr} {apos pos sp : Pos} {e : Expr} {a : Addr} {l : List α} {x : α} {k : Nat} (hr : Room c.A k)
  (S : Sx c s₀ O s) (ho : Ev c o (.val (.ref a))) (hm : (a, l.map K.d) ∈ c.own) (ha : Ev c e (K.d x)) (hx : x ∉ l) {Q : Flow → Shared → Prop}
  (h : ∀ s₁ s' b, Sx c s₀ O s₁ → Made s₁ b "ValueError" none s' → E (.ref b) s') {pl : Sem Bool}
  (he : eval (.Call (.Attribute o "remove" apos) [e] [] pos) c.env = (do
   let ov ← eval o c.env
   standAt apos.atName
   let (f, first) ← holding [ov] (getMethod ov "remove" pl)
   callWith pos f first (backTo pos (starEach [e] c.env)) []))
  (hi : interactive c.env = false) (hsw : swapsWith (.Call (.Attribute o "remove" apos) [e] [] pos) none sp.line c.env = pure false)
  (hs : starEach [e] c.env = [(false, eval e c.env)] := by rfl) (hM₀ : M₀ = model c.prog c.w := by rfl) (hA₀ : A₀ = c.A := by rfl) (hE₀ : env₀ = c.env := by rfl) :
  wpAny M₀ A₀ (exec (.Expr (.Call (.Attribute o "remove" apos) [e] [] pos) sp) env₀) Q E s := by
 subst hM₀ hA₀ hE₀
 refine wpAny_Expr_any ?_ hi hsw
 refine MethodCall_ (pl := pl) (wpAny_mono (ho s E S.ok) (fun ov s₁ h₁ => ?_) fun o_ o_ e => e) he
 refine cutG fun P_ hP_ => ?_
 obtain ⟨k₁, rfl⟩ := h₁
 have S₁ := S.step k₁
 obtain ⟨_, ys, n, hg, hr1⟩ := S₁.ok.own _ hm
 refine hP_ ?_
 clear hP_ P_
 refine getMethod_list_of F.slot_list_remove F.type_list_remove ⟨_, hg, rfl, n, rfl⟩ ⟨_, hg, rfl⟩ ?_
 refine callWith_method1 (wpAny_mono (evs_cons ha evs_nil hs pos s₁ E S₁.ok) (fun vs s₂ h₂ => ?_) fun o_ o_ e => e) hs rfl
 have S₂ := S₁.step h₂.1
 refine cutG fun P_ hP_ => ?_
 obtain ⟨_, ys, n, hg, hr2⟩ := S₂.ok.own _ hm
 obtain ⟨v, _, rfl, hv, rfl⟩ := h₂.2
 refine hP_ ?_
 clear hP_ P_
 obtain hl := hr2.length
 rw [List.length_map] at hl
 refine call_meets PySem.F.slot_list_remove ⟨_, hg, rfl⟩ PySem.F.entry_list_remove (PySem.F.args_list_remove_2 _ _) (MeetsSeq.list_remove_none a ys.toArray n v (K.is x) (fun y hy => ?_) (fun m hm' => ?_)) ⟨hg, hr.1, fun h' tk b hb => h s₂ _ b S₂ (Made.of hb)⟩
 ·obtain ⟨z, _, r⟩ := scal_at K hr2 y (by simpa using hy)
  exact K.gives _ _ x z y v r hv
 ·obtain hm2 : m < ys.length := by simpa using hm'
  obtain r := scal_get K hr2 (i := m) hm2 (by grind)
  rw [List.getElem_toArray, K.rd _ _ x _ _ r]
  exact decide_eq_false fun e => hx (by rw [← e]; exact List.getElem_mem _)
end
noncomputable def remF : List Str → List Str → Option (List Str)
 | [], t => some t
 | x :: r, t => if x ∈ t then remF r (t.erase x) else none
theorem remF_s (x : Str) (r t : List Str) : remF (x :: r) t = if x ∈ t then remF r (t.erase x) else none := rfl
theorem remF_n (t : List Str) : remF [] t = some t := rfl
noncomputable def cmpB (l1 l2 : List Str) : Bool := decide (remF (dedupS l1) (dedupS l2) = some [])
noncomputable def remN (xs t : List Str) (i : Nat) : List Str := (xs.take i).foldl List.erase t
theorem remN_succ {xs t : List Str} {i : Nat} (h : i < xs.length) : remN xs t (i + 1) = (remN xs t i).erase (xs.getD i "") := by
 unfold remN
 rw [List.take_add_one, List.foldl_append]
 simp [List.getD, h]
theorem remN_len (xs t : List Str) (i : Nat) : (remN xs t i).length ≤ t.length := by
 unfold remN
 generalize xs.take i = ys
 induction ys generalizing t with
 | nil => exact Nat.le_refl _
 | cons y r ih => exact Nat.le_trans (ih _) (List.length_erase_le ..)
theorem drop_cons {xs : List Str} {i : Nat} (h : i < xs.length) : xs.drop i = xs.getD i "" :: xs.drop (i + 1) := by
 rw [List.drop_eq_getElem_cons h]; simp [List.getD, h]
theorem catch_fly {c : Cx} {s₀ s₁ s' : Shared} {O : List Addr} {L b : Addr} {X : String} {args : Option (List Value)} {outer : List Env} {E : Value → Shared → Prop} {t : Expr} {b₀ : Stmt} {suite : List Stmt} {pos : Pos} {rest : List ExceptHandler} {Q : Flow → Shared → Prop}
  (S : Sx c s₀ O s₁) (hL : c.env.frame = some L) (hX : isSubtype (.type X) (.type X) = pure true) (hexc : isSubtype (.type X) (.type "BaseException") = pure true) (hnt : isSubtype (.type ((Manifest.find? X).elim "type" fun x => x.metatype)) (.type "tuple") = pure false)
  (ht : ∀ (A : Around) s E, Ok c s → wpAny (model c.prog c.w) A (eval t c.env) (fun v s' => v = .type X ∧ s' = s) E s)
  (f : Fly c.hb (c.env :: outer) (c.env :: outer) s₁ b X args (rawInt L) s')
  (h : ∀ s₂, Sx { c with A := c.A.mark (some (.ref b)) } s₀ O s₂ → wpAny (model c.prog c.w) (c.A.mark (some (.ref b))) (execs (b₀ :: suite) c.env) Q (fun o_ o_ => False) s₂) :
  wpAny (model c.prog c.w) c.A (noteFrame (.ref b) c.env) (fun o_ s₂ => wpAny (model c.prog c.w) c.A (setFlight (.ref b) none) (fun o_ s₃ => wpAny (model c.prog c.w) c.A (handleBy (.ref b) c.env (.ExceptHandler (some t) none (b₀ :: suite) pos :: rest)) Q E s₃) E s₂) E s' := by
 refine note_again f hL (set_fly (f := none) f fun s₇ f7 => ?_)
 refine wpAny_handleBy_builtin (X := X) (T := X) (b := true) hexc hnt hX ?_
 refine wpAny_mono (ht _ s₇ _ (S.step f7.kp).ok) (fun v s₈ h₈ => ?_) fun o_ o_ e => e
 obtain ⟨rfl, rfl⟩ := h₈
 refine ⟨rfl, f7.typeIs, ?_⟩
 rw [if_pos rfl]
 refine set_fly (f := none) f7 fun s₈ f8 => ?_
 exact wpAny_mono (h s₈ (S.step f8.kp).mark) (fun o_ o_ q => q) fun o_ o_ e => e.elim
theorem frames_cons {c : Cx} {s₀ s : Shared} {O : List Addr} {outer : List Env} (S : Sx c s₀ O s) (hfr : c.A.frames = some (c.env :: outer)) : FF s.heap c.hb (c.env :: outer) := by
 obtain ⟨l, hl, ff⟩ := S.ok.frames
 obtain rfl := Option.some.inj (hfr.symm.trans hl); exact ff
theorem ev_not_list {c : Cx} {e : Expr} {pos : Pos} {d : D} {ds : List D} (h : Ev c e d) (l : LstD c d ds) (hsz : ds.length ≤ sizeLine) : Ev c (.UnaryOp .Not e pos) (.bool ds.isEmpty) := fun s E o =>
 UnaryOp_ (wpAny_mono (h s E o) (fun v s' hv => not_value (by
  refine cutG fun P_ hP_ => ?_
  obtain ⟨a, vs, n, rfl, hg, hr⟩ := l.at (o.kp hv.1) hv.2
  refine hP_ ?_
  clear hP_ P_
  obtain hl := hr.length
  refine wpAny_truthy_list ⟨_, hg, rfl, n, rfl⟩ (by rw [List.size_toArray, hl]; unfold sizeLine at hsz; grind) ⟨hv.1.trans (Kp.tok _ _ _ _), ?_⟩
  show Value.bool _ = Value.bool _
  cases vs <;> cases ds <;> simp_all)) fun o_ o_ e => e)
theorem bi_pure {c : Cx} {hb₀ : Heap} (G : Gl hb₀) {x : Str} {v : Value} {np : Pos} (h : biList.lookup x = some v) (hh : c.hb = hb₀ := by rfl) (hk : c.env.scope.kind = .function := by rfl) (hg : c.env.globals = mainGlobals := by rfl) (hb' : c.env.builtins = builtinsNs := by rfl)
  (hx : c.env.kindOf x = some .globalImplicit := by rfl) (hd : (x == ("__debug__" : Str)) = false := by decide) : ∀ (A : Around) s E, Ok c s → wpAny (model c.prog c.w) A (eval (.Name x np) c.env) (fun u s' => u = v ∧ s' = s) E s :=
 fun A s E o => bi_at (hh ▸ G) o.base h ⟨rfl, rfl⟩ hk hg hb' hx hd
theorem remF_step {xs t : List Str} {i : Nat} (h : i < xs.length) : remF (xs.drop i) (remN xs t i) = if xs.getD i "" ∈ remN xs t i then remF (xs.drop (i + 1)) (remN xs t (i + 1)) else none := by
 rw [drop_cons h, remF_s, remN_succ h]
theorem compare_spec {c : Cx} {k : Nat} (hr : Room c.A (k + 2)) {hb₀ : Heap} (G : Gl hb₀) {l1 l2 : List Str} (hok1 : ∀ x ∈ l1, PyData.strOk x = true) (hok2 : ∀ x ∈ l2, PyData.strOk x = true) (hlen1 : l1.length ≤ 1000) (hlen2 : l2.length ≤ 1000) (hh : c.hb = hb₀ := by rfl) :
  CallP c (.ref 57) [.list (l1.map .str), .list (l2.map .str)] (.bool (cmpB l1 l2)) := by
 subst hh
 refine callP_fn (G.fn 8 57 (.tail _ (.tail _ (.head _)))) (bd := [("first_args", .list (l1.map .str)), ("second_args", .list (l2.map .str))]) hr ?_ ?_ (by exact (by decide : (["first_args", "second_args"] : List Str).Nodup)) (fun n => by rfl) (by exact List.nodup_nil) rfl rfl rfl
 ·rintro s vs o ⟨v, _, rfl, h1, u, _, rfl, h2, rfl⟩
  exact ⟨[("first_args", v), ("second_args", u)], fun o_ o_ o_ o_ o_ => BindsTo.of_eq rfl, rfl, ⟨v, _, rfl, h1, u, _, rfl, h2, rfl⟩⟩
 ·intro L s s₁ o S
  dsimp only [fnCx] at S
  have hr' := hr.deeper (fnEnv (fName 8) (fScope 8) L 57 (.ref 56))
  obtain hd1 := dedup_len l1 []
  obtain hd2 := dedup_len l2 []
  refine ex_cons ?_
  refine ex_assign S (ev_call (ev_gl G rfl) (evs_cons (ev_var rfl) evs_nil) (by exact FnAt.kpr (G.fn 7 50 (.tail _ (.head _)))) (by exact dedup_spec hr' G hok1 hlen1)) (fun s₂ S₂ => ?_) rfl rfl rfl
  dsimp only at S₂
  refine ex_cons ?_
  refine ex_assign S₂ (ev_call (ev_gl G rfl) (evs_cons (ev_var rfl) evs_nil) (by exact FnAt.kpr (G.fn 7 50 (.tail _ (.head _)))) (by exact dedup_spec hr' G hok2 hlen2)) (fun s₃ S₃ => ?_) rfl rfl rfl
  dsimp only at S₃
  obtain hx1 : (dedupS l1).length ≤ 1000 := by unfold dedupS; simp only [List.length_nil] at hd1; grind
  obtain hx2 : (dedupS l2).length ≤ 1000 := by unfold dedupS; simp only [List.length_nil] at hd2; grind
  obtain hb : cmpB l1 l2 = decide (remF (dedupS l1) (dedupS l2) = some []) := rfl
  rw [hb]
  generalize dedupS l1 = xs at S₃ hx1
  generalize dedupS l2 = ts at S₃ hx2
  refine ex_cons ?_
  refine ex_assign_own S₃ (evn_call_list (ev_bi G rfl) (ev_var rfl) .val (by rw [List.length_map]; unfold sizeLine; grind)) (fun s₄ a S₄ => ?_) rfl rfl rfl
  dsimp only at S₄
  refine ex_cons ?_
  refine wpAny_Try_except ?_
  refine ex_cons ?_
  obtain ⟨l, hl, _⟩ := o.frames
  obtain hfr : (c.A.deeper (fnEnv (fName 8) (fScope 8) L 57 (.ref (57 - 1)))).frames = some (fnEnv (fName 8) (fScope 8) L 57 (.ref (57 - 1)) :: l) := Around.frames_deeper hl
  refine ex_forJ (fun i => remF (xs.drop i) (remN xs ts i) = remF xs ts) (by simp [remN]) (V := fun o_ => [("t", refD a), ("second_unhashable", .list (ts.map .str)), ("first_unhashable", .list (xs.map .str)), ("first_args", .list (l1.map .str)), ("second_args", .list (l2.map .str))]) (W := fun i => [(a, (remN xs ts i).map .str)])
   (XB := fun e s' => remF xs ts = none ∧ ∃ own s₂ b, e = .ref b ∧ Sx { c with A := c.A.deeper (fnEnv (fName 8) (fScope 8) L 57 (.ref (57 - 1))), env := fnEnv (fName 8) (fScope 8) L 57 (.ref (57 - 1)), X := a :: (homes (fnEnv (fName 8) (fScope 8) L 57 (.ref (57 - 1))) ++ c.X), vars := [("t", refD a), ("second_unhashable", .list (ts.map .str)), ("first_unhashable", .list (xs.map .str)), ("first_args", .list (l1.map .str)), ("second_args", .list (l2.map .str))], own := own } s [] s₂ ∧ Made s₂ b "ValueError" none s') S₄ (src_list (ds := xs.map .str) hr' (ev_var rfl)) (mine_sub S₄) lk_id (by simp [remN]) (fun o_ => rfl) ?_ ?_ ?_ rfl rfl
  ·intro i d I s₅ s₆ hJ hd S₆
   obtain ⟨hi, rfl⟩ := at_map (z := ("" : Str)) hd
   obtain hstep := remF_step (t := ts) hi
   obtain hlen := remN_len xs ts i
   dsimp only at S₆
   refine ex_cons ?_
   by_cases hmem : xs.getD i "" ∈ remN xs ts i
   ·rw [if_pos hmem] at hstep
    refine ex_meth (own' := [(a, (remN xs ts (i + 1)).map .str)]) S₆ (ev_var rfl) .head (evs_cons (ev_var rfl) evs_nil) (by rw [remN_succ hi]; exact meth_remove scalStr (.tail _ (.head _)) hmem (by unfold sizeLine; grind)) F.slot_list_remove F.type_list_remove (fun s₇ S₇ => ?_) rfl rfl rfl
    exact ex_nil ⟨by rw [← hJ, hstep], S₇.vars (lk_skip lk_id)⟩
   ·rw [if_neg hmem] at hstep
    refine ex_remove_none scalStr hr' S₆ (ev_var rfl) (.head _) (ev_var rfl) hmem (fun s₇ s₈ b S₇ hm => ?_) rfl rfl rfl
    exact ⟨_, [(a, (remN xs ts i).map .str)], s₇, rfl, S₇.vars (lk_skip lk_id), fun S' => ⟨by rw [← hJ, hstep], _, s₇, b, rfl, S', hm⟩⟩
  ·intro s₅ hJ S₅
   refine ex_nil ?_
   refine ex_nil ?_
   refine ex_nil ?_
   rw [List.length_map, List.drop_length] at hJ
   rw [List.length_map] at S₅
   obtain hlen := remN_len xs ts xs.length
   refine ex_cons ?_
   refine ex_return S₅ (ev_not_list (ds := (remN xs ts xs.length).map .str) (ev_var rfl) (.own (.head _)) (by rw [List.length_map]; unfold sizeLine; grind)) ?_
   intro s' v S' r
   refine ⟨v, rfl, S'.kp, ?_⟩
   cases r
   rw [← hJ, remF_n]
   show Value.bool _ = Value.bool _
   cases remN xs ts xs.length <;> simp
  ·rintro e s₅ ⟨hn, own, s₆, b, rfl, S₆, hm⟩
   obtain ff := frames_cons S₆ hfr
   refine note_made (L := L) hm hfr ff rfl fun s₇ f7 => ?_
   refine came_back f7 rfl fun s₈ f8 => ?_
   refine catch_fly S₆ rfl (by rw [isSubtype_type]; kernel_rfl) PySem.F.isExc_ValueError PySem.F.notTuple_ValueError (bi_pure G rfl) f8 fun s₉ S₉ => ?_
   refine ex_cons ?_
   refine ex_return S₉ (d := .bool false) ev_bool ?_
   rintro s' v S' rfl
   refine ⟨_, rfl, S'.kp, ?_⟩
   rw [hn]; rfl
end Mine
end
section
open PySem PySem.W PyProof.Rows
namespace Mine
open PySem.Calls
theorem Sx.unmark {c : Cx} {s₀ s : Shared} {O : List Addr} {h : Option Value} (S : Sx { c with A := c.A.mark h } s₀ O s) : Sx c s₀ O s :=
 ⟨⟨S.ok.base, S.ok.frames, S.ok.xin, S.ok.vars, S.ok.own, S.ok.home⟩, S.kp, S.free, S.hx, ⟨S.offs.x, S.offs.home, S.offs.base, S.offs.frame⟩, S.nd, S.fr, S.cap⟩
theorem catch_made {c : Cx} {s₀ s₁ s' : Shared} {O : List Addr} {L b : Addr} {X : String} {args : Option (List Value)} {outer : List Env} {E : Value → Shared → Prop} {t : Expr} {b₀ : Stmt} {suite : List Stmt} {pos : Pos} {rest : List ExceptHandler} {Q : Flow → Shared → Prop}
  (S : Sx c s₀ O s₁) (hL : c.env.frame = some L) (hfr : c.A.frames = some (c.env :: outer)) (hX : isSubtype (.type X) (.type X) = pure true) (hexc : isSubtype (.type X) (.type "BaseException") = pure true) (hnt : isSubtype (.type ((Manifest.find? X).elim "type" fun x => x.metatype)) (.type "tuple") = pure false)
  (ht : ∀ (A : Around) s E, Ok c s → wpAny (model c.prog c.w) A (eval t c.env) (fun v s' => v = .type X ∧ s' = s) E s)
  (m : Made s₁ b X args s')
  (h : ∀ s₂, Sx { c with A := c.A.mark (some (.ref b)) } s₀ O s₂ → wpAny (model c.prog c.w) (c.A.mark (some (.ref b))) (execs (b₀ :: suite) c.env) Q (fun o_ o_ => False) s₂) :
  wpAny (model c.prog c.w) c.A (noteFrame (.ref b) c.env) (fun o_ s₂ => wpAny (model c.prog c.w) c.A (setFlight (.ref b) none) (fun o_ s₃ => wpAny (model c.prog c.w) c.A (handleBy (.ref b) c.env (.ExceptHandler (some t) none (b₀ :: suite) pos :: rest)) Q E s₃) E s₂) E s' := by
 obtain ff := frames_cons S hfr
 refine note_made (L := L) m hfr ff hL fun s₆ f => ?_
 refine set_fly (f := none) f fun s₇ f7 => ?_
 refine wpAny_handleBy_builtin (X := X) (T := X) (b := true) hexc hnt hX ?_
 refine wpAny_mono (ht _ s₇ _ (S.step f7.kp).ok) (fun v s₈ h₈ => ?_) fun o_ o_ e => e
 obtain ⟨rfl, rfl⟩ := h₈
 refine ⟨rfl, f7.typeIs, ?_⟩
 rw [if_pos rfl]
 refine set_fly (f := none) f7 fun s₈ f8 => ?_
 exact wpAny_mono (h s₈ (S.step f8.kp).mark) (fun o_ o_ q => q) fun o_ o_ e => e.elim
section
variable {c : Cx} {s₀ s : Shared} {O : List Addr} {E : Value → Shared → Prop}
theorem ex_assign_meth0 {M₀ : Model} {A₀ : Around} {env₀ : Env} {x : Str} {px sp : Pos} {o : Expr} {name : Str} {id : String} {apos pos : Pos} {a : Addr} {ds ds' : List D} {d : D} {own' : List (Addr × List D)} {Q : Flow → Shared → Prop}
  (S : Sx c s₀ O s) (ho : Ev c o (.val (.ref a))) (u : OwnUpd a ds ds' c.own own') (hj : MethJ c a id ds [] d ds') (slot : Slot "list" name id) (hty : typeOf (.builtin id) = pure (.type "method_descriptor"))
  (h : ∀ s', Sx { c with own := own', vars := (x, d) :: c.vars } s₀ O s' → Q .next s')
  (hb : mayBind c.env x = true) (hkf : c.env.scope.kind = .function) {pl : Sem Bool}
  (he : eval (.Call (.Attribute o name apos) [] [] pos) c.env = (do
   let ov ← eval o c.env
   standAt apos.atName
   let (f, first) ← holding [ov] (getMethod ov name pl)
   callWith pos f first (backTo pos (starEach [] c.env)) []))
  (hs : swapsWith (.Call (.Attribute o name apos) [] [] pos) (some (.Name x px)) sp.line c.env = pure false) (hM₀ : M₀ = model c.prog c.w := by rfl) (hA₀ : A₀ = c.A := by rfl) (hE₀ : env₀ = c.env := by rfl) :
  wpAny M₀ A₀ (exec (.Assign [.Name x px] (.Call (.Attribute o name apos) [] [] pos) sp) env₀) Q E s := by
 subst hM₀ hA₀ hE₀
 exact wpAny_Assign_Name (evo_meth0 S ho u hj slot hty (fun s' v S' r => st_name (c := { c with own := own' }) S' hkf (mayBind_of hb) r h) he) hs
end
noncomputable def dF : List Str → List Str → List Str → List Str × List Str
 | [], ys, ms => (ms, ys)
 | x :: r, ys, ms => if x ∈ ys then dF r (ys.erase x) ms else dF r ys (ms ++ [x])
theorem dF_s (x : Str) (r ys ms : List Str) : dF (x :: r) ys ms = if x ∈ ys then dF r (ys.erase x) ms else dF r ys (ms ++ [x]) := rfl
theorem dF_n (ys ms : List Str) : dF [] ys ms = (ms, ys) := rfl
noncomputable def diffF (xs ys : List Str) : List Str × List Str := dF xs.reverse ys []
noncomputable def dStrs (l : List Str) : D := .list (l.map .str)
theorem diff_call {c : Cx} {k : Nat} (hr : Room c.A (k + 1)) {hb₀ : Heap} (G : Gl hb₀) {e a : Addr} {xs ys : List Str} {X₁ : List Addr} (hX : c.X = e :: a :: X₁) (he1 : e ∉ X₁) (ha1 : a ∉ X₁) (hea : e ≠ a) (how : c.own = [(e, xs.map .str), (a, ys.map .str)]) (hoff : Off c [e, a])
  (hx : ∀ x ∈ xs, PyData.strOk x = true) (hy : ∀ x ∈ ys, PyData.strOk x = true) (hxl : xs.length ≤ 400) (hyl : ys.length ≤ 400) (hh : c.hb = hb₀ := by rfl) {s : Shared} {E : Value → Shared → Prop} (o : Ok c s) :
  wpAny (model c.prog c.w) c.A (call (.ref 64) [.ref e, .ref a]) (fun v s' => Kp c.hb [e, a] s s' ∧ Rep X₁ s'.heap (.tup [dStrs (diffF xs ys).1, dStrs (diffF xs ys).2]) v) E s := by
 subst hh
 refine wpAny_call (enter_fn (G.fn 10 64 (.tail _ (.tail _ (.tail _ (.head _))))) (bd := [("expected", refD e), ("actual", refD a)]) (ow := [(e, xs.map .str), (a, ys.map .str)]) (binds := [("expected", .ref e), ("actual", .ref a)]) o hr (fun o_ o_ o_ o_ o_ => BindsTo.of_eq rfl) rfl ⟨_, _, rfl, rfl, _, _, rfl, rfl, rfl⟩ (by exact (by decide : (["expected", "actual"] : List Str).Nodup)) (fun n => by rfl) (fun p hp => by rw [how]; exact hp) (by simp [hea]) hoff (fun L s₁ hL S => ?_) (by exact List.nodup_nil) rfl rfl rfl)
 obtain hr' := hr.deeper (fnEnv (fName 10) (fScope 10) L 64 (.ref 63))
 dsimp only [fnCx] at S
 refine cutQ fun Q₁ E₁ hQ hE => ?_
 obtain ⟨l, hl, _⟩ := o.frames
 obtain hfr : (c.A.deeper (fnEnv (fName 10) (fScope 10) L 64 (.ref (64 - 1)))).frames = some (fnEnv (fName 10) (fScope 10) L 64 (.ref (64 - 1)) :: l) := Around.frames_deeper hl
 refine ex_cons ?_
 refine ex_assign_own S (evn_list evs_nil (by decide)) (fun s₂ m S₂ => ?_) rfl rfl rfl
 dsimp only at S₂
 refine ex_cons ?_
 refine ex_while (α := { p : List Str × List Str × List Str // dF p.1 p.2.1 p.2.2 = diffF xs ys ∧ (∀ x ∈ p.1, PyData.strOk x = true) ∧ (∀ x ∈ p.2.1, PyData.strOk x = true) ∧ p.1.length + p.2.2.length ≤ 400 ∧ p.2.1.length ≤ 400 })
  (ctx := fun p => { prog := c.prog, w := c.w, A := c.A.deeper (fnEnv (fName 10) (fScope 10) L 64 (.ref (64 - 1))), hb := c.hb, env := fnEnv (fName 10) (fScope 10) L 64 (.ref (64 - 1)), X := m :: (homes (fnEnv (fName 10) (fScope 10) L 64 (.ref (64 - 1))) ++ c.X), vars := [("missing", refD m), ("expected", refD e), ("actual", refD a)], own := [(m, p.1.2.2.map .str), (e, p.1.1.reverse.map .str), (a, p.1.2.1.map .str)] })
  (μ := fun p => p.1.1.length) (a₀ := ⟨(xs.reverse, ys, []), rfl, by simpa using hx, hy, by simpa using hxl, hyl⟩) (fun o_ => ⟨rfl, rfl, rfl, rfl⟩) (by simp only [List.reverse_reverse]; exact S₂) ?_
 rintro ⟨⟨r, zs, ms⟩, hi1, hi2, hi3, hi4, hi5⟩
 dsimp only at hi1 hi2 hi3 hi4 hi5 ⊢
 refine ⟨!r.isEmpty, ?_, ?_, ?_⟩
 ·refine Et.as (et_list (ds := r.reverse.map .str) (ev_var rfl) (.own (.tail _ (.head _))) (by rw [List.length_map, List.length_reverse]; unfold sizeLine; omega)) ?_
  cases r <;> simp
 ·intro hb s₃ S₃
  refine cutQ fun Q₂ E₂ hQ₂ hE₂ => ?_
  refine cutG fun P_ hP_ => ?_
  refine cutG fun P_ hP_ => ?_
  obtain ⟨x, r', rfl⟩ : ∃ x r', r = x :: r' := by cases r with | nil => simp at hb | cons x r' => exact ⟨x, r', rfl⟩
  refine hP_ ?_
  clear hP_ P_
  refine hP_ ?_
  clear hP_ P_
  obtain hxok := hi2 x (.head _)
  simp only [List.length_cons] at hi4
  refine ex_cons ?_
  refine ex_assign_meth0 (own' := [(m, ms.map .str), (e, r'.reverse.map .str), (a, zs.map .str)]) S₃ (ev_var rfl) (by simp only [List.reverse_cons, List.map_append, List.map_cons, List.map_nil]; exact .tail .head) (meth_pop (by simp [hX]) (by rw [List.length_map, List.length_reverse]; unfold sizeLine; omega)) F.slot_list_pop F.type_list_pop (fun s₄ S₄ => ?_) rfl rfl rfl rfl
  dsimp only at S₄
  refine ex_cons ?_
  refine wpAny_Try_except ?_
  refine ex_cons ?_
  rw [dF_s] at hi1
  by_cases hm : x ∈ zs
  ·rw [if_pos hm] at hi1
   refine ex_meth (own' := [(m, ms.map .str), (e, r'.reverse.map .str), (a, (zs.erase x).map .str)]) S₄ (ev_var rfl) (.tail (.tail .head)) (evs_cons (ev_var rfl) evs_nil) (meth_remove scalStr (by simp [hX]) hm (by unfold sizeLine; omega)) F.slot_list_remove F.type_list_remove (fun s₅ S₅ => ?_) rfl rfl rfl
   refine ex_nil ?_
   refine ex_nil ?_
   refine ex_nil ?_
   refine hQ₂ _ _ ?_
   exact ⟨⟨(r', zs.erase x, ms), hi1, fun y hy => hi2 y (.tail _ hy), fun y hy => hi3 y (List.mem_of_mem_erase hy), by dsimp only; omega, by have := List.length_erase_le (a := x) (l := zs); dsimp only; omega⟩, by simp, S₅.vars (lk_skip lk_id)⟩
  ·rw [if_neg hm] at hi1
   refine ex_remove_none scalStr hr' S₄ (ev_var rfl) (.tail _ (.tail _ (.head _))) (ev_var rfl) hm (fun s₅ s₆ b S₅ hmd => ?_) rfl rfl rfl
   refine catch_made S₅ (L := L) rfl hfr (by rw [isSubtype_type]; kernel_rfl) PySem.F.isExc_ValueError PySem.F.notTuple_ValueError (bi_pure G rfl) hmd fun s₇ S₇ => ?_
   refine ex_cons ?_
   refine ex_meth (own' := [(m, (ms ++ [x]).map .str), (e, r'.reverse.map .str), (a, zs.map .str)]) S₇ (ev_var rfl) .head (evs_cons (ev_var rfl) evs_nil) (by rw [List.map_append]; exact meth_append (.head _) (by rw [List.length_map]; unfold sizeLine; omega)) F.slot_list_append F.type_list_append (fun s₈ S₈ => ?_) rfl rfl rfl
   refine ex_nil ?_
   refine ex_nil ?_
   refine hQ₂ _ _ ?_
   exact ⟨⟨(r', zs, ms ++ [x]), hi1, fun y hy => hi2 y (.tail _ hy), hi3, by simp only [List.length_append, List.length_cons, List.length_nil]; omega, hi5⟩, by simp, (Sx.unmark (c := { prog := c.prog, w := c.w, A := c.A.deeper (fnEnv (fName 10) (fScope 10) L 64 (.ref (64 - 1))), hb := c.hb, env := fnEnv (fName 10) (fScope 10) L 64 (.ref (64 - 1)), X := m :: (homes (fnEnv (fName 10) (fScope 10) L 64 (.ref (64 - 1))) ++ c.X), vars := _, own := _ }) S₈).vars (lk_skip lk_id)⟩
 ·intro hb s₃ S₃
  obtain this : r = [] := by cases r with | nil => rfl | cons => simp at hb
  subst this
  rw [dF_n] at hi1
  refine ex_nil ?_
  refine ex_cons ?_
  refine ex_return S₃ (d := .tup [refD m, refD a]) (ev_tuple (evs_cons (ev_var rfl) (evs_cons (ev_var rfl) evs_nil)) (by unfold sizeLine; simp)) ?_
  intro s₄ v S₄ hv
  refine cutG fun P_ hP_ => ?_
  obtain ⟨t, vs, n, rfl, ht, hg, _, _, rfl, rfl, _, _, rfl, rfl, rfl⟩ := hv
  have hsub : ∀ b ∈ X₁, b ∈ m :: (homes (fnEnv (fName 10) (fScope 10) L 64 (.ref (64 - 1))) ++ c.X) := fun b hb => .tail _ (List.mem_append_right _ (by rw [hX]; exact .tail _ (.tail _ hb)))
  obtain ⟨_, us, nm, hgm, hrm⟩ := S₄.ok.own _ (.head _)
  obtain ⟨_, ws, na, hga, hra⟩ := S₄.ok.own _ (.tail _ (.tail _ (.head _)))
  refine hP_ ?_
  clear hP_ P_
  refine hQ _ _ ?_
  refine ⟨S₄.kp, t, _, n, rfl, fun q => ht (hsub t q), hg, _, _, rfl, ⟨m, us, nm, rfl, fun q => ?_, hgm, ?_⟩, _, _, rfl, ⟨a, ws, na, rfl, ha1, hga, ?_⟩, rfl⟩
  ·obtain hnd := List.nodup_cons.mp S₄.nd
   obtain ⟨ob, e'⟩ := o.xin m (by rw [hX]; exact .tail _ (.tail _ q))
   rcases S₄.free m (List.mem_append_right _ (.head _)) with z | z
   ·exact hnd.1 (by show m ∈ [e, a]; exact z)
   ·exact no_some (z.symm.trans e')
  ·rw [← hi1]; exact hrm.sub hsub
  ·rw [← hi1]; exact hra.sub hsub
end Mine
end
section
namespace Mine
noncomputable def Ed (rows : List (List Nat)) (p q : Nat) : Prop := ∃ r ∈ rows, ∃ i : Nat, r[i]? = some p ∧ r[i + 1]? = some q
inductive Lt (rows : List (List Nat)) : Nat → Nat → Prop
 | one {a b : Nat} : Ed rows a b → Lt rows a b
 | tail {a b c : Nat} : Lt rows a b → Ed rows b c → Lt rows a c
theorem Lt.trans {rows : List (List Nat)} {a b c : Nat} (h : Lt rows a b) (h' : Lt rows b c) : Lt rows a c := by
 induction h' with
 | one e => exact h.tail e
 | tail _ e ih => exact ih.tail e
noncomputable def Bit (ah : List Nat) (u t : Nat) : Prop := (ah.getD t 0).testBit u = true
theorem getD_set {ah : List Nat} {q t v : Nat} (hq : q < ah.length) : (ah.set q v).getD t 0 = if t = q then v else ah.getD t 0 := by
 by_cases e : t = q
 ·subst e; simp [List.getD_eq_getElem?_getD, hq]
 ·rw [if_neg e]; simp [List.getD_eq_getElem?_getD, List.getElem?_set_ne (Ne.symm e)]
theorem bit_step {ah : List Nat} {p q u t : Nat} (hq : q < ah.length) : Bit (aStep ah p q) u t ↔ Bit ah u t ∨ (t = q ∧ (Bit ah u p ∨ u = p)) := by
 unfold Bit aStep
 rw [getD_set hq]
 by_cases e : t = q
 ·subst e
  simp only [if_true, Nat.testBit_or, Bool.or_eq_true, Nat.testBit_two_pow, decide_eq_true_eq, true_and]
  constructor
  ·rintro (h | h | h)
   ·exact .inl h
   ·exact .inr (.inl h)
   ·exact .inr (.inr h.symm)
  ·rintro (h | h | h)
   ·exact .inl h
   ·exact .inr (.inl h)
   ·exact .inr (.inr h.symm)
 ·simp [e]
noncomputable def edgesOf (r : List Nat) (n : Nat) : List (Nat × Nat) := (List.range n).map fun i => (r.getD i 0, r.getD (i + 1) 0)
noncomputable def stepE (ah : List Nat) (e : Nat × Nat) : List Nat := aStep ah e.1 e.2
theorem aRowN_fold (row ah : List Nat) : ∀ i, aRowN row ah i = (edgesOf row i).foldl stepE ah
 | 0 => rfl
 | i + 1 => by
  rw [aRowN_s, aRowN_fold row ah i, edgesOf, edgesOf, List.range_succ, List.map_append, List.foldl_append]; rfl
theorem aAllN_fold (rows : List (List Nat)) (ah : List Nat) : ∀ i, i ≤ rows.length → aAllN rows ah i = ((rows.take i).flatMap fun r => edgesOf r (r.length - 1)).foldl stepE ah
 | 0, _ => rfl
 | i + 1, h => by
  have h' : i < rows.length := h
  obtain e : rows.take (i + 1) = rows.take i ++ [rows.getD i []] := by
   rw [List.take_succ_eq_append_getElem h']
   simp [List.getD_eq_getElem?_getD, h']
  rw [aAllN_s, aAllN_fold rows ah i (Nat.le_of_succ_le h), e, List.flatMap_append, List.foldl_append, aRow, aRowN_fold]
  simp [List.flatMap_cons]
noncomputable def allE (rows : List (List Nat)) : List (Nat × Nat) := rows.flatMap fun r => edgesOf r (r.length - 1)
theorem aAll_fold (rows : List (List Nat)) (ah : List Nat) : aAll ah rows = (allE rows).foldl stepE ah := by
 rw [aAll, aAllN_fold rows ah _ (Nat.le_refl _), List.take_length]; rfl
theorem mem_allE {rows : List (List Nat)} {p q : Nat} : (p, q) ∈ allE rows ↔ Ed rows p q := by
 unfold allE Ed edgesOf
 simp only [List.mem_flatMap, List.mem_map, List.mem_range, Prod.mk.injEq]
 constructor
 ·rintro ⟨r, hr, i, hi, rfl, rfl⟩
  refine ⟨r, hr, i, ?_, ?_⟩
  ·obtain this : i < r.length := by omega
   simp [List.getD_eq_getElem?_getD, this]
  ·obtain this : i + 1 < r.length := by omega
   simp [List.getD_eq_getElem?_getD, this]
 ·rintro ⟨r, hr, i, h1, h2⟩
  obtain h3 := (List.getElem?_eq_some_iff.mp h2).1
  refine ⟨r, hr, i, by omega, ?_, ?_⟩
  ·simp [List.getD_eq_getElem?_getD, h1]
  ·simp [List.getD_eq_getElem?_getD, h2]
section
variable {rows : List (List Nat)} (h6 : ∀ r ∈ rows, ∀ t ∈ r, t < 6)
include h6
theorem ed_lt {p q : Nat} (e : Ed rows p q) : p < 6 ∧ q < 6 := by
 obtain ⟨r, hr, i, h1, h2⟩ := e
 exact ⟨h6 r hr p (List.mem_of_getElem? h1), h6 r hr q (List.mem_of_getElem? h2)⟩
theorem lt_lt {p q : Nat} (e : Lt rows p q) : p < 6 ∧ q < 6 := by
 induction e with
 | one e => exact ed_lt h6 e
 | tail _ e ih => exact ⟨ih.1, (ed_lt h6 e).2⟩
theorem fold_sound : ∀ (es : List (Nat × Nat)) (ah : List Nat), ah.length = 6 → (∀ e ∈ es, Ed rows e.1 e.2) → (∀ u t, Bit ah u t → Lt rows u t) → ∀ u t, Bit (es.foldl stepE ah) u t → Lt rows u t
 | [], _, _, _, h => h
 | e :: es, ah, hl, he, h => by
  obtain hq := (ed_lt h6 (he e (.head _))).2
  refine fold_sound es _ (by rw [stepE, aStep_len]; exact hl) (fun x hx => he x (.tail _ hx)) fun u t hb => ?_
  rcases (bit_step (by rw [hl]; exact hq)).mp hb with z | ⟨rfl, z | rfl⟩
  ·exact h u t z
  ·exact (h u _ z).tail (he e (.head _))
  ·exact .one (he e (.head _))
theorem fold_mono : ∀ (es : List (Nat × Nat)) (ah : List Nat), ah.length = 6 → (∀ e ∈ es, Ed rows e.1 e.2) → ∀ u t, Bit ah u t → Bit (es.foldl stepE ah) u t
 | [], _, _, _, _, _, h => h
 | e :: es, ah, hl, he, u, t, h => fold_mono es _ (by rw [stepE, aStep_len]; exact hl) (fun x hx => he x (.tail _ hx)) u t ((bit_step (by rw [hl]; exact (ed_lt h6 (he e (.head _))).2)).mpr (.inl h))
theorem fold_gets : ∀ (es : List (Nat × Nat)) (ah : List Nat), ah.length = 6 → (∀ e ∈ es, Ed rows e.1 e.2) → ∀ u p q, (p, q) ∈ es → (Bit ah u p ∨ u = p) → Bit (es.foldl stepE ah) u q
 | [], _, _, _, _, _, _, h, _ => by cases h
 | e :: es, ah, hl, he, u, p, q, hm, h => by
  have hq := (ed_lt h6 (he e (.head _))).2
  rcases List.mem_cons.mp hm with z | z
  ·subst z
   exact fold_mono h6 es _ (by rw [stepE, aStep_len]; exact hl) (fun x hx => he x (.tail _ hx)) u q ((bit_step (by rw [hl]; exact hq)).mpr (.inr ⟨rfl, h⟩))
  ·refine fold_gets es _ (by rw [stepE, aStep_len]; exact hl) (fun x hx => he x (.tail _ hx)) u p q z ?_
   rcases h with y | y
   ·exact .inl ((bit_step (by rw [hl]; exact hq)).mpr (.inl y))
   ·exact .inr y
theorem allE_ed : ∀ e ∈ allE rows, Ed rows e.1 e.2 := fun e he => mem_allE.mp he
theorem turns_sound : ∀ i u t, Bit (aTurns rows i) u t → Lt rows u t
 | 0, u, t, h => by
  exfalso
  unfold Bit aTurns at h
  have : (List.replicate 6 0).getD t 0 = 0 := by
   rw [List.getD_eq_getElem?_getD, List.getElem?_replicate]; split <;> rfl
  rw [this, Nat.zero_testBit] at h; cases h
 | i + 1, u, t, h => by
  rw [aTurns, aAll_fold] at h
  exact fold_sound h6 _ _ (aTurns_len rows i) (allE_ed h6) (turns_sound i) u t h
inductive Wk (rows : List (List Nat)) : Nat → Nat → Nat → Prop
 | zero {u : Nat} : Wk rows 0 u u
 | succ {n u v t : Nat} : Wk rows n u v → Ed rows v t → Wk rows (n + 1) u t
theorem turns_all : ∀ n u t, Wk rows n u t → ∀ i, n ≤ i → (n = 0 ∧ u = t) ∨ Bit (aTurns rows i) u t
 | 0, u, t, h, _, _ => by cases h; exact .inl ⟨rfl, rfl⟩
 | n + 1, u, t, .succ h e, 0, hi => absurd hi (by omega)
 | n + 1, u, t, .succ (v := v) h e, i + 1, hi => by
  right
  rw [aTurns, aAll_fold]
  refine fold_gets h6 _ _ (aTurns_len rows i) (allE_ed h6) u v t (mem_allE.mpr e) ?_
  rcases turns_all n u v h i (by omega) with ⟨_, z⟩ | z
  ·exact .inr z
  ·exact .inl z
end
theorem Wk.cons {rows : List (List Nat)} {n u v t : Nat} (e : Ed rows u v) (h : Wk rows n v t) : Wk rows (n + 1) u t := by
 induction h with
 | zero => exact .succ .zero e
 | succ _ e' ih => exact .succ (ih e) e'
noncomputable def Ch (rows : List (List Nat)) : Nat → List Nat → Nat → Prop
 | u, [], t => u = t
 | u, x :: r, t => Ed rows u x ∧ Ch rows x r t
theorem Ch.snoc {rows : List (List Nat)} : ∀ {l : List Nat} {u v t : Nat}, Ch rows u l v → Ed rows v t → Ch rows u (l ++ [t]) t
 | [], _, _, _, h, e => by cases h; exact ⟨e, rfl⟩
 | _ :: _, _, _, _, h, e => ⟨h.1, Ch.snoc h.2 e⟩
theorem Ch.drop {rows : List (List Nat)} : ∀ {A B : List Nat} {u x t : Nat}, Ch rows u (A ++ x :: B) t → Ch rows x B t
 | [], _, _, _, _, h => h.2
 | _ :: _, _, _, _, _, h => Ch.drop h.2
theorem Ch.wk {rows : List (List Nat)} : ∀ {l : List Nat} {u t : Nat}, Ch rows u l t → Wk rows l.length u t
 | [], _, _, h => by cases h; exact .zero
 | _ :: _, _, _, h => Wk.cons h.1 (Ch.wk h.2)
theorem Ch.mem {rows : List (List Nat)} : ∀ {l : List Nat} {u t : Nat}, Ch rows u l t → ∀ x ∈ l, ∃ p, Ed rows p x
 | [], _, _, _, _, h => by cases h
 | y :: r, u, _, h, x, hx => by
  rcases List.mem_cons.mp hx with z | z
  ·subst z; exact ⟨u, h.1⟩
  ·exact Ch.mem h.2 x z
theorem Lt.ch {rows : List (List Nat)} {u t : Nat} (h : Lt rows u t) : ∃ l, l ≠ [] ∧ Ch rows u l t := by
 induction h with
 | one e => exact ⟨[_], by simp, e, rfl⟩
 | tail _ e ih => obtain ⟨l, _, h⟩ := ih; exact ⟨l ++ [_], by simp, h.snoc e⟩
theorem Ch.short {rows : List (List Nat)} : ∀ {l : List Nat} {u t : Nat}, l ≠ [] → Ch rows u l t → ∃ l', l' ≠ [] ∧ Ch rows u l' t ∧ l'.Nodup
 | [], _, _, h, _ => absurd rfl h
 | [x], _, _, _, h => ⟨[x], by simp, h, by simp⟩
 | x :: y :: r, u, t, _, h => by
  obtain ⟨l', h1, h2, h3⟩ := Ch.short (l := y :: r) (by simp) h.2
  by_cases hx : x ∈ l'
  ·obtain ⟨A, B, rfl⟩ := List.append_of_mem hx
   exact ⟨x :: B, by simp, ⟨h.1, h2.drop⟩, (List.nodup_append.mp h3).2.1⟩
  ·exact ⟨x :: l', by simp, ⟨h.1, h2⟩, List.nodup_cons.mpr ⟨hx, h3⟩⟩
theorem ahead_bit {rows : List (List Nat)} (h6 : ∀ r ∈ rows, ∀ t ∈ r, t < 6) {u t : Nat} : Bit (aheadF rows) u t ↔ Lt rows u t := by
 refine ⟨turns_sound h6 6 u t, fun h => ?_⟩
 obtain ⟨l, h1, h2⟩ := h.ch
 obtain ⟨l', h3, h4, h5⟩ := h2.short h1
 obtain hle : l'.length ≤ 6 := nodup_lt_len ⟨fun x hx => by obtain ⟨p, e⟩ := h4.mem x hx; exact (ed_lt h6 e).2, h5⟩
 rcases turns_all h6 _ _ _ h4.wk 6 hle with ⟨z, _⟩ | z
 ·exact absurd (List.length_eq_zero_iff.mp z) h3
 ·exact z
end Mine
end
section
namespace Mine
section
variable {rows : List (List Nat)}
noncomputable def Up (rows : List (List Nat)) (left : List Nat) : Prop := ∀ v w, v ∈ left → Ed rows v w → w ∈ left
noncomputable def fl (left r : List Nat) : List Nat := r.filter fun t => decide (t ∈ left)
theorem fl_mem {left r : List Nat} {t : Nat} : t ∈ fl left r ↔ t ∈ r ∧ t ∈ left := by simp [fl]
theorem fl_drop {left : List Nat} : ∀ {r : List Nat}, (∀ i p q, r[i]? = some p → r[i + 1]? = some q → p ∈ left → q ∈ left) → ∃ k, fl left r = r.drop k ∧ ∀ i p, i < k → r[i]? = some p → p ∉ left
 | [], _ => ⟨0, rfl, fun o_ o_ h o_ => absurd h (Nat.not_lt_zero _)⟩
 | x :: r, h => by
  obtain h' : ∀ i p q, r[i]? = some p → r[i + 1]? = some q → p ∈ left → q ∈ left := fun i p q h1 h2 => h (i + 1) p q (by simpa using h1) (by simpa using h2)
  by_cases hx : x ∈ left
  ·refine ⟨0, ?_, fun i p hi => absurd hi (Nat.not_lt_zero _)⟩
   obtain hall : ∀ (n : Nat) (p : Nat), (x :: r)[n]? = some p → p ∈ left := by
    intro n
    induction n with
    | zero => intro p hp; simp at hp; exact hp ▸ hx
    | succ n ih =>
     intro p hp
     obtain hn : n + 1 < (x :: r).length := (List.getElem?_eq_some_iff.mp hp).1
     obtain ⟨q, hq⟩ : ∃ q, (x :: r)[n]? = some q := ⟨_, List.getElem?_eq_getElem (by grind)⟩
     exact h n q p hq hp (ih q hq)
   show List.filter _ _ = _
   rw [List.drop_zero]
   refine List.filter_eq_self.mpr fun a ha => ?_
   obtain ⟨n, hn⟩ := List.mem_iff_getElem?.mp ha
   simpa using hall n a hn
  ·obtain ⟨k, h1, h2⟩ := fl_drop h'
   refine ⟨k + 1, ?_, fun i p hi hp => ?_⟩
   ·show List.filter _ _ = _
    rw [List.filter_cons, if_neg (by simpa using hx), List.drop_succ_cons]; exact h1
   ·cases i with
    | zero => simp at hp; exact hp ▸ hx
    | succ i => exact h2 i p (by grind) (by simpa using hp)
theorem fl_drop' {left : List Nat} (hu : Up rows left) {r : List Nat} (hr : r ∈ rows) : ∃ k, fl left r = r.drop k ∧ ∀ i p, i < k → r[i]? = some p → p ∉ left :=
 fl_drop fun i p q h1 h2 hp => hu p q hp ⟨r, hr, i, h1, h2⟩
theorem tail_mem {l : List Nat} {t : Nat} : t ∈ l.tail ↔ ∃ j, l[j + 1]? = some t := by
 rw [← List.drop_one]
 constructor
 ·intro h
  obtain ⟨j, hj⟩ := List.mem_iff_getElem?.mp h
  rw [List.getElem?_drop] at hj
  exact ⟨j, by rw [Nat.add_comm]; exact hj⟩
 ·rintro ⟨j, hj⟩
  refine List.mem_iff_getElem?.mpr ⟨j, ?_⟩
  rw [List.getElem?_drop, Nat.add_comm]; exact hj
theorem tail_iff {left : List Nat} (hu : Up rows left) {t : Nat} : (∃ r ∈ rows, t ∈ (fl left r).tail) ↔ ∃ u ∈ left, Ed rows u t := by
 constructor
 ·rintro ⟨r, hr, ht⟩
  obtain ⟨k, h1, _⟩ := fl_drop' hu hr
  obtain ⟨j, hj⟩ := tail_mem.mp ht
  have hj' := hj
  rw [h1, List.getElem?_drop] at hj'
  obtain hlt := (List.getElem?_eq_some_iff.mp hj').1
  obtain ⟨u, huj⟩ : ∃ u, r[k + j]? = some u := ⟨_, List.getElem?_eq_getElem (by grind)⟩
  obtain hm : u ∈ fl left r := by rw [h1]; exact List.mem_iff_getElem?.mpr ⟨j, by rw [List.getElem?_drop]; exact huj⟩
  exact ⟨u, (fl_mem.mp hm).2, r, hr, k + j, huj, hj'⟩
 ·rintro ⟨u, hul, r, hr, i, h1, h2⟩
  obtain ⟨k, h3, h4⟩ := fl_drop' hu hr
  refine ⟨r, hr, ?_⟩
  obtain hk : k ≤ i := Nat.le_of_not_lt fun h => h4 i u h h1 hul
  refine tail_mem.mpr ⟨i - k, ?_⟩
  rw [h3, List.getElem?_drop, show k + (i - k + 1) = i + 1 by grind]; exact h2
noncomputable def isFree (rows : List (List Nat)) (left : List Nat) (t : Nat) : Prop := t ∈ left ∧ ∀ u ∈ left, ¬ Lt rows u t
theorem lt_left {left : List Nat} (hu : Up rows left) {u t : Nat} (h : Lt rows u t) (hl : u ∈ left) : t ∈ left := by
 induction h with
 | one e => exact hu _ _ hl e
 | tail _ e ih => exact hu _ _ ih e
theorem ed_of_lt {left : List Nat} (hu : Up rows left) {t : Nat} : (∃ u ∈ left, Lt rows u t) ↔ ∃ u ∈ left, Ed rows u t := by
 constructor
 ·rintro ⟨u, hl, h⟩
  cases h with
  | one e => exact ⟨u, hl, e⟩
  | tail h e => exact ⟨_, lt_left hu h hl, e⟩
 ·rintro ⟨u, hl, e⟩; exact ⟨u, hl, .one e⟩
theorem isFree_iff {left : List Nat} (hu : Up rows left) {t : Nat} : isFree rows left t ↔ t ∈ left ∧ ∀ r ∈ rows, t ∉ (fl left r).tail := by
 unfold isFree
 constructor
 ·rintro ⟨h1, h2⟩
  refine ⟨h1, fun r hr ht => ?_⟩
  obtain ⟨u, hl, e⟩ := (tail_iff hu).mp ⟨r, hr, ht⟩
  exact h2 u hl (.one e)
 ·rintro ⟨h1, h2⟩
  refine ⟨h1, fun u hl h => ?_⟩
  obtain ⟨r, hr, ht⟩ := (tail_iff hu).mpr ((ed_of_lt hu).mp ⟨u, hl, h⟩)
  exact h2 r hr ht
theorem find_row {left : List Nat} (hu : Up rows left) {r : List Nat} (hr : r ∈ rows) (P Q : Nat → Bool) (hP : ∀ t, P t = true ↔ isFree rows left t) (hQ : ∀ t ∈ left, (Q t = true ↔ isFree rows left t)) :
  r.find? P = (fl left r).head?.bind fun t => if Q t then some t else none := by
 obtain ⟨k, h1, h2⟩ := fl_drop' hu hr
 obtain hpre : (r.take k).find? P = none := by
  rw [List.find?_eq_none]
  intro x hx hp
  obtain ⟨i, hi⟩ := List.mem_iff_getElem?.mp hx
  rw [List.getElem?_take] at hi
  split at hi
  ·exact h2 i x (by assumption) hi ((hP x).mp hp).1
  ·cases hi
 obtain hsplit : r.find? P = (fl left r).find? P := by
  conv => lhs; rw [← List.take_append_drop k r, List.find?_append, hpre]
  rw [h1]; rfl
 rw [hsplit]
 cases q : fl left r with
 | nil => rfl
 | cons x tl =>
  obtain hx : x ∈ left := (fl_mem.mp (by rw [q]; exact .head _)).2
  obtain htl : tl.find? P = none := by
   rw [List.find?_eq_none]
   intro y hy hp
   exact ((isFree_iff hu).mp ((hP y).mp hp)).2 r hr (by rw [q]; exact hy)
  rw [List.find?_cons]
  simp only [List.head?_cons, Option.bind_some]
  obtain e : P x = Q x := by
   rw [Bool.eq_iff_iff, hP x, hQ x hx]
  rw [e]
  cases Q x with
  | true => rfl
  | false => exact htl
theorem find_rows {left : List Nat} (hu : Up rows left) (P Q : Nat → Bool) (hP : ∀ t, P t = true ↔ isFree rows left t) (hQ : ∀ t ∈ left, (Q t = true ↔ isFree rows left t)) :
  ∀ rs : List (List Nat), (∀ r ∈ rs, r ∈ rows) → rs.flatten.find? P = ((rs.map (fl left)).filterMap List.head?).find? Q
 | [], _ => rfl
 | r :: rs, h => by
  rw [List.flatten_cons, List.find?_append, find_row hu (h r (.head _)) P Q hP hQ, find_rows hu P Q hP hQ rs fun x hx => h x (.tail _ hx), List.map_cons, List.filterMap_cons]
  cases q : (fl left r).head? with
  | none => rfl
  | some t =>
   simp only [Option.bind_some, List.find?_cons]
   cases Q t <;> rfl
theorem c3cand_is {left : List Nat} (hu : Up rows left) (P : Nat → Bool) (hP : ∀ t, P t = true ↔ isFree rows left t) : c3cand ((rows.map (fl left)).filter fun s => decide (s ≠ [])) = rows.flatten.find? P := by
 unfold c3cand
 rw [heads_filter]
 refine (find_rows hu P _ hP (fun t ht => ?_) rows fun o_ h => h).symm
 rw [isFree_iff hu]
 simp only [List.all_eq_true, List.mem_filter, List.mem_map, decide_eq_true_eq]
 constructor
 ·intro h
  refine ⟨ht, fun r hr hm => ?_⟩
  refine h (fl left r) ⟨⟨r, hr, rfl⟩, fun e => ?_⟩ hm
  rw [e] at hm; cases hm
 ·rintro ⟨_, h⟩ s ⟨⟨r, hr, rfl⟩, _⟩; exact h r hr
theorem c3head_fl {left : List Nat} (hu : Up rows left) (hnl : left.Nodup) {r : List Nat} (hr : r ∈ rows) (hn : r.Nodup) {t : Nat} (hf : isFree rows left t) : c3head t (fl left r) = fl (left.erase t) r := by
 have hnf : (fl left r).Nodup := hn.sublist List.filter_sublist
 have e : fl (left.erase t) r = (fl left r).filter fun x => x != t := by
  unfold fl
  rw [List.filter_filter]
  refine List.filter_congr fun x o_ => ?_
  rw [Bool.eq_iff_iff]
  simp only [decide_eq_true_eq, Bool.and_eq_true, bne_iff_ne, hnl.mem_erase_iff]
 rw [e]
 unfold c3head
 by_cases hm : t ∈ fl left r
 ·cases q : fl left r with
  | nil => rw [q] at hm; cases hm
  | cons x tl =>
   rw [q] at hm hnf
   have htl : t ∉ tl := fun h => ((isFree_iff hu).mp hf).2 r hr (by rw [q]; exact h)
   have ex : x = t := by
    rcases List.mem_cons.mp hm with z | z
    ·exact z.symm
    ·exact absurd z htl
   subst ex
   rw [List.head?_cons, if_pos rfl, List.filter_cons, if_neg (by simp)]
   refine (List.filter_eq_self.mpr fun a ha => ?_).symm
   simp only [bne_iff_ne]; intro z; exact htl (z ▸ ha)
 ·rw [if_neg, List.filter_eq_self.mpr]
  ·intro a ha
   simp only [bne_iff_ne]; intro z; exact hm (z ▸ ha)
  ·intro z
   cases q : fl left r with
   | nil => rw [q] at z; cases z
   | cons x tl => rw [q] at z hm; cases z; exact hm (.head _)
theorem up_erase {left : List Nat} (hu : Up rows left) (hnl : left.Nodup) {t : Nat} (hf : isFree rows left t) : Up rows (left.erase t) := by
 intro v w hv e
 have hv' := (hnl.mem_erase_iff.mp hv).2
 refine hnl.mem_erase_iff.mpr ⟨?_, hu v w hv' e⟩
 rintro rfl
 exact hf.2 v hv' (.one e)
noncomputable def InRows (rows : List (List Nat)) (left : List Nat) : Prop := ∀ t ∈ left, ∃ r ∈ rows, t ∈ r
theorem fl_none {left : List Nat} (hin : InRows rows left) (h : (rows.map (fl left)).filter (fun s => decide (s ≠ [])) = []) : left = [] := by
 cases left with
 | nil => rfl
 | cons t l =>
  exfalso
  obtain ⟨r, hr, ht⟩ := hin t (.head _)
  have : fl (t :: l) r ∈ (rows.map (fl (t :: l))).filter (fun s => decide (s ≠ [])) := by
   refine List.mem_filter.mpr ⟨List.mem_map.mpr ⟨r, hr, rfl⟩, ?_⟩
   simp only [decide_eq_true_eq]
   intro z
   have := (fl_mem (left := t :: l) (r := r) (t := t)).mpr ⟨ht, .head _⟩
   rw [z] at this; cases this
  rw [h] at this; cases this
theorem fl_nil : (rows.map (fl [])).filter (fun s => decide (s ≠ [])) = [] := by
 rw [List.filter_eq_nil_iff]
 intro s hs
 obtain ⟨r, _, rfl⟩ := List.mem_map.mp hs
 simp [fl]
theorem c3F_fl {n : Nat} {left : List Nat} (hu : Up rows left) (hnl : left.Nodup) (hnr : ∀ r ∈ rows, r.Nodup) (hin : InRows rows left) (hne : left ≠ []) (P : Nat → Bool) (hP : ∀ t, P t = true ↔ isFree rows left t) :
  c3F (n + 1) (rows.map (fl left)) = match rows.flatten.find? P with | none => none | some t => (c3F n (rows.map (fl (left.erase t)))).map (t :: ·) := by
 rw [c3F_s, if_neg (fun h => hne (fl_none hin h)), c3cand_is hu P hP]
 cases q : rows.flatten.find? P with
 | none => rfl
 | some t =>
  obtain hf := (hP t).mp (by have := List.find?_some q; simpa using this)
  obtain this : (rows.map (fl left)).map (c3head t) = rows.map (fl (left.erase t)) := by
   rw [List.map_map]
   refine List.map_congr_left fun r hr => ?_
   exact c3head_fl hu hnl hr (hnr r hr) hf
  simp only [this]
open Classical in
theorem c3F_cyclic {t₀ : Nat} (hc : Lt rows t₀ t₀) (hnr : ∀ r ∈ rows, r.Nodup) : ∀ (n : Nat) (left : List Nat), left.length < n → Up rows left → left.Nodup → InRows rows left → t₀ ∈ left → c3F n (rows.map (fl left)) = none
 | 0, _, h, _, _, _, _ => absurd h (Nat.not_lt_zero _)
 | n + 1, left, hl, hu, hnl, hin, ht => by
  rw [c3F_fl hu hnl hnr hin (List.ne_nil_of_mem ht) (fun t => decide (isFree rows left t)) fun t => by simp]
  cases q : rows.flatten.find? fun t => decide (isFree rows left t) with
  | none => rfl
  | some t =>
   have hf : isFree rows left t := by have := List.find?_some q; simpa using this
   obtain hne : t₀ ≠ t := by rintro rfl; exact hf.2 _ ht hc
   obtain hlen := List.length_erase_of_mem hf.1
   obtain hpos := List.length_pos_of_mem hf.1
   simp only [c3F_cyclic hc hnr n (left.erase t) (by grind) (up_erase hu hnl hf) (hnl.erase t) (fun x hx => hin x (List.mem_of_mem_erase hx)) (hnl.mem_erase_iff.mpr ⟨hne, ht⟩), Option.map_none]
end
end Mine
end
section
namespace Mine
theorem lt_congr {rows rows' : List (List Nat)} (h : ∀ p q, Ed rows p q → Ed rows' p q) {a b : Nat} (l : Lt rows a b) : Lt rows' a b := by
 induction l with
 | one e => exact .one (h _ _ e)
 | tail _ e ih => exact ih.tail (h _ _ e)
noncomputable def cnt (ah : List Nat) (t : Nat) : Nat := ((List.range 6).filter fun u => (ah.getD t 0).testBit u).length
section
variable {rows : List (List Nat)} {ah : List Nat} (h6 : ∀ r ∈ rows, ∀ t ∈ r, t < 6) (hah : ∀ u t, Bit ah u t ↔ Lt rows u t) (hac : ∀ t, ¬ Lt rows t t)
include h6 hah hac
theorem cnt_lt {u t : Nat} (h : Lt rows u t) : cnt ah u < cnt ah t := by
 unfold cnt
 obtain hn : ∀ x : Nat, ((List.range 6).filter fun u => (ah.getD x 0).testBit u).Nodup := fun x => List.nodup_range.sublist List.filter_sublist
 obtain hu : u < 6 := (lt_lt h6 h).1
 have key : (u :: (List.range 6).filter fun v => (ah.getD u 0).testBit v).length ≤ ((List.range 6).filter fun v => (ah.getD t 0).testBit v).length := by
  refine nodup_sub_len (List.nodup_cons.mpr ⟨fun hm => ?_, hn u⟩) fun x hx => ?_
  ·have := (List.mem_filter.mp hm).2
   exact hac u ((hah u u).mp this)
  ·rcases List.mem_cons.mp hx with z | z
   ·rw [z]; exact List.mem_filter.mpr ⟨List.mem_range.mpr hu, (hah u t).mpr h⟩
   ·obtain ⟨z1, z2⟩ := List.mem_filter.mp z
    exact List.mem_filter.mpr ⟨z1, (hah x t).mpr (((hah x u).mp z2).trans h)⟩
 rw [List.length_cons] at key
 exact key
theorem least {l : List Nat} (f : Nat → Nat) (hne : l ≠ []) : ∃ t ∈ l, ∀ u ∈ l, f t ≤ f u := by
 clear h6 hah hac
 induction l with
 | nil => exact absurd rfl hne
 | cons a r ih =>
  by_cases hr : r = []
  ·subst hr; exact ⟨a, .head _, fun u hu => by rw [List.mem_singleton.mp hu]; exact Nat.le_refl _⟩
  ·obtain ⟨t, ht, hm⟩ := ih hr
   by_cases q : f a ≤ f t
   ·refine ⟨a, .head _, fun u hu => ?_⟩
    rcases List.mem_cons.mp hu with z | z
    ·rw [z]; exact Nat.le_refl _
    ·exact Nat.le_trans q (hm u z)
   ·refine ⟨t, .tail _ ht, fun u hu => ?_⟩
    rcases List.mem_cons.mp hu with z | z
    ·rw [z]; grind
    ·exact hm u z
theorem mem_free {left : List Nat} {t : Nat} : t ∈ freeOf ah left ↔ isFree rows left t := by
 clear h6 hac
 unfold freeOf isFree
 simp only [List.mem_filter, decide_eq_true_eq, List.filter_eq_nil_iff]
 constructor
 ·rintro ⟨h1, h2⟩
  exact ⟨h1, fun u hu hl => h2 u hu ((hah u t).mpr hl)⟩
 ·rintro ⟨h1, h2⟩
  exact ⟨h1, fun u hu hb => h2 u hu ((hah u t).mp hb)⟩
theorem free_ne {left : List Nat} (hne : left ≠ []) : freeOf ah left ≠ [] := by
 obtain ⟨t, ht, hm⟩ := least h6 hah hac (cnt ah) hne
 refine List.ne_nil_of_mem ((mem_free h6 hah hac).mpr ⟨ht, fun u hu hl => ?_⟩)
 have := cnt_lt h6 hah hac hl
 have := hm u hu
 grind
theorem c3F_rank (hnr : ∀ r ∈ rows, r.Nodup) : ∀ (n : Nat) (left : List Nat), left.length < n → Up rows left → left.Nodup → InRows rows left → c3F n (rows.map (fl left)) = some (rankL ah rows.flatten left)
 | 0, _, h, _, _, _ => absurd h (Nat.not_lt_zero _)
 | n + 1, left, hl, hu, hnl, hin => by
  by_cases hne : left = []
  ·subst hne
   rw [c3F_s, if_pos fl_nil]; rfl
  ·have hs : ∀ t ∈ left, t ∈ rows.flatten := fun t ht => by
    obtain ⟨r, hr, hm⟩ := hin t ht
    exact List.mem_flatten.mpr ⟨r, hr, hm⟩
   obtain hfne := free_ne h6 hah hac (left := left) hne
   rw [c3F_fl hu hnl hnr hin hne (fun t => decide (t ∈ freeOf ah left)) fun t => by rw [decide_eq_true_eq]; exact mem_free h6 hah hac]
   have hm := firstIn_mem (flat := rows.flatten) hfne fun t ht => hs t (freeOf_sub t ht)
   obtain e : rows.flatten.find? (fun t => decide (t ∈ freeOf ah left)) = some (firstIn rows.flatten (freeOf ah left)) := by
    unfold firstIn
    cases q : rows.flatten.find? fun t => decide (t ∈ freeOf ah left) with
    | some t => rfl
    | none =>
     rw [List.find?_eq_none] at q
     have := q _ (hs _ (freeOf_sub _ hm))
     simp [hm] at this
   rw [e]
   obtain hf := (mem_free h6 hah hac).mp hm
   obtain hlen := List.length_erase_of_mem hf.1
   obtain hpos := List.length_pos_of_mem hf.1
   simp only [c3F_rank hnr n (left.erase (firstIn rows.flatten (freeOf ah left))) (by grind) (up_erase hu hnl hf) (hnl.erase _) (fun x hx => hin x (List.mem_of_mem_erase hx)), Option.map_some]
   rw [← rankL_cons hne hfne hs]
end
theorem left0_mem {flat : List Nat} (h6 : ∀ t ∈ flat, t < 6) {t : Nat} : t ∈ left0 flat ↔ t ∈ flat := by
 unfold left0
 simp only [List.mem_filter, List.mem_range, decide_eq_true_eq]
 exact ⟨fun h => h.2, fun h => ⟨h6 t h, h⟩⟩
theorem left0_nodup (flat : List Nat) : (left0 flat).Nodup := List.nodup_range.sublist List.filter_sublist
theorem left0_up {rows : List (List Nat)} (h6 : ∀ r ∈ rows, ∀ t ∈ r, t < 6) : Up rows (left0 rows.flatten) := by
 rintro v w _ ⟨r, hr, i, _, h2⟩
 refine (left0_mem ?_).mpr (List.mem_flatten.mpr ⟨r, hr, List.mem_of_getElem? h2⟩)
 intro t ht
 obtain ⟨r, hr, hm⟩ := List.mem_flatten.mp ht
 exact h6 r hr t hm
theorem flat6 {rows : List (List Nat)} (h6 : ∀ r ∈ rows, ∀ t ∈ r, t < 6) : ∀ t ∈ rows.flatten, t < 6 := fun t ht => by
 obtain ⟨r, hr, hm⟩ := List.mem_flatten.mp ht
 exact h6 r hr t hm
theorem left0_in {rows : List (List Nat)} (h6 : ∀ r ∈ rows, ∀ t ∈ r, t < 6) : InRows rows (left0 rows.flatten) := fun t ht => by
 obtain ⟨r, hr, hm⟩ := List.mem_flatten.mp ((left0_mem (flat6 h6)).mp ht)
 exact ⟨r, hr, hm⟩
theorem fl_left0 {rows : List (List Nat)} (h6 : ∀ r ∈ rows, ∀ t ∈ r, t < 6) : rows.map (fl (left0 rows.flatten)) = rows := by
 conv => rhs; rw [← List.map_id rows]
 refine List.map_congr_left fun r hr => ?_
 refine List.filter_eq_self.mpr fun t ht => ?_
 simpa using (left0_mem (flat6 h6)).mpr (List.mem_flatten.mpr ⟨r, hr, ht⟩)
theorem c3len_flat (rows : List (List Nat)) : c3len rows = rows.flatten.length := by
 unfold c3len
 rw [List.length_flatten]
theorem left0_le {rows : List (List Nat)} (h6 : ∀ r ∈ rows, ∀ t ∈ r, t < 6) : (left0 rows.flatten).length < c3len rows + 1 := by
 rw [c3len_flat]
 have := nodup_sub_len (left0_nodup rows.flatten) fun x hx => (left0_mem (flat6 h6)).mp hx
 grind
theorem c3_rank {rows : List (List Nat)} {ah : List Nat} (h6 : ∀ r ∈ rows, ∀ t ∈ r, t < 6) (hah : ∀ u t, Bit ah u t ↔ Lt rows u t) (hac : ∀ t, ¬ Lt rows t t) (hnr : ∀ r ∈ rows, r.Nodup) :
  c3F (c3len rows + 1) rows = some (rankL ah rows.flatten (left0 rows.flatten)) := by
 have := c3F_rank h6 hah hac hnr (c3len rows + 1) (left0 rows.flatten) (left0_le h6) (left0_up h6) (left0_nodup _) (left0_in h6)
 rw [fl_left0 h6] at this
 exact this
theorem c3_refused {rows : List (List Nat)} (h6 : ∀ r ∈ rows, ∀ t ∈ r, t < 6) {t : Nat} (hc : Lt rows t t) (hnr : ∀ r ∈ rows, r.Nodup) : c3F (c3len rows + 1) rows = none := by
 obtain ht : t ∈ left0 rows.flatten := by
  obtain this : ∃ p, Ed rows p t := by cases hc with | one e => exact ⟨_, e⟩ | tail _ e => exact ⟨_, e⟩
  obtain ⟨p, r, hr, i, _, h2⟩ := this
  exact (left0_mem (flat6 h6)).mpr (List.mem_flatten.mpr ⟨r, hr, List.mem_of_getElem? h2⟩)
 have := c3F_cyclic hc hnr (c3len rows + 1) (left0 rows.flatten) (left0_le h6) (left0_up h6) (left0_nodup _) (left0_in h6) ht
 rw [fl_left0 h6] at this
 exact this
end Mine
end
section
namespace Mine
section
variable {rows : List (List Nat)} {ah flat : List Nat} (h6 : ∀ r ∈ rows, ∀ t ∈ r, t < 6) (hah : ∀ u t, Bit ah u t ↔ Lt rows u t) (hac : ∀ t, ¬ Lt rows t t)
include h6 hah hac
theorem rank_step {left : List Nat} (hne : left ≠ []) (hs : ∀ t ∈ left, t ∈ flat) : ∃ t, t = firstIn flat (freeOf ah left) ∧ isFree rows left t ∧ rankL ah flat left = t :: rankL ah flat (left.erase t) := by
 obtain hf := free_ne h6 hah hac hne
 exact ⟨_, rfl, (mem_free h6 hah hac).mp (firstIn_mem hf fun t ht => hs t (freeOf_sub t ht)), rankL_cons hne hf hs⟩
theorem rank_perm : ∀ (n : Nat) (left : List Nat), left.length = n → (∀ t ∈ left, t ∈ flat) → (rankL ah flat left).Perm left
 | 0, left, hn, _ => by rw [List.length_eq_zero_iff.mp hn]; exact .nil
 | n + 1, left, hn, hs => by
  obtain ⟨t, _, hf, e⟩ := rank_step h6 hah hac (flat := flat) (left := left) (fun z => by rw [z] at hn; cases hn) hs
  rw [e]
  obtain hl := List.length_erase_of_mem hf.1
  exact ((rank_perm n (left.erase t) (by grind) fun x hx => hs x (List.mem_of_mem_erase hx)).cons t).trans (List.perm_cons_erase hf.1).symm
theorem rank_lin : ∀ (n : Nat) (left : List Nat), left.length = n → left.Nodup → (∀ t ∈ left, t ∈ flat) → (rankL ah flat left).Pairwise fun a b => ¬ Lt rows b a
 | 0, left, hn, _, _ => by rw [List.length_eq_zero_iff.mp hn]; exact .nil
 | n + 1, left, hn, hnd, hs => by
  obtain ⟨t, _, hf, e⟩ := rank_step h6 hah hac (flat := flat) (left := left) (fun z => by rw [z] at hn; cases hn) hs
  rw [e]
  obtain hl := List.length_erase_of_mem hf.1
  have hs' : ∀ x ∈ left.erase t, x ∈ flat := fun x hx => hs x (List.mem_of_mem_erase hx)
  refine List.pairwise_cons.mpr ⟨fun b hb => ?_, rank_lin n (left.erase t) (by grind) (hnd.erase t) hs'⟩
  have := (rank_perm h6 hah hac _ (left.erase t) rfl hs').mem_iff.mp hb
  exact hf.2 b (List.mem_of_mem_erase this)
theorem rank_at : ∀ (P : List Nat) (left : List Nat) (x : Nat) (Q : List Nat), left.Nodup → (∀ t ∈ left, t ∈ flat) → rankL ah flat left = P ++ x :: Q → ∃ left', (∀ t, t ∈ left' ↔ t = x ∨ t ∈ Q) ∧ x = firstIn flat (freeOf ah left') ∧ freeOf ah left' ≠ []
 | P, left, x, Q, hnd, hs, e => by
  have hne : left ≠ [] := fun z => by
   subst z
   obtain this : (P ++ x :: Q).length = 0 := by rw [← e]; rfl
   simp at this
  obtain ⟨t, ht, hf, e'⟩ := rank_step h6 hah hac (flat := flat) hne hs
  cases P with
  | nil =>
   rw [e'] at e
   simp only [List.nil_append, List.cons.injEq] at e
   obtain ⟨rfl, rfl⟩ := e
   obtain hs' : ∀ x ∈ left.erase t, x ∈ flat := fun x hx => hs x (List.mem_of_mem_erase hx)
   refine ⟨left, fun u => ?_, ht, free_ne h6 hah hac hne⟩
   rw [(rank_perm h6 hah hac _ (left.erase t) rfl hs').mem_iff, hnd.mem_erase_iff]
   constructor
   ·intro h
    by_cases q : u = t
    ·exact .inl q
    ·exact .inr ⟨q, h⟩
   ·rintro (h | h)
    ·rw [h]; exact hf.1
    ·exact h.2
  | cons p P =>
   rw [e'] at e
   simp only [List.cons_append, List.cons.injEq] at e
   obtain ⟨rfl, e⟩ := e
   exact rank_at P (left.erase t) x Q (hnd.erase t) (fun y hy => hs y (List.mem_of_mem_erase hy)) e
end
theorem order_uniq {R : Nat → Nat → Prop} : ∀ {l1 l2 : List Nat}, l1.Perm l2 → l1.Nodup → l1.Pairwise R → l2.Pairwise (fun a b => ¬ R b a) → l1 = l2
 | [], l2, hp, _, _, _ => by rw [hp.nil_eq]
 | a :: r, [], hp, _, _, _ => by simp at hp
 | a :: r, b :: r', hp, hn, h1, h2 => by
  rw [List.pairwise_cons] at h1 h2
  rw [List.nodup_cons] at hn
  have e : a = b := by
   by_cases q : a = b
   ·exact q
   ·exfalso
    have hb : b ∈ r := by
     rcases List.mem_cons.mp (hp.mem_iff.mpr (.head r' : b ∈ b :: r')) with z | z
     ·exact absurd z.symm q
     ·exact z
    have ha : a ∈ r' := by
     rcases List.mem_cons.mp (hp.mem_iff.mp (.head r : a ∈ a :: r)) with z | z
     ·exact absurd z q
     ·exact z
    exact h2.1 a ha (h1.1 b hb)
  subst e
  rw [order_uniq ((List.perm_cons a).mp hp) hn.2 h1.2 h2.2]
theorem pair_of_adj {R : Nat → Nat → Prop} (tr : ∀ a b c, R a b → R b c → R a c) : ∀ {l : List Nat}, (∀ k a b, l[k]? = some a → l[k + 1]? = some b → R a b) → l.Pairwise R
 | [], _ => .nil
 | [a], _ => by simp
 | a :: b :: r, h => by
  have ih := pair_of_adj tr (l := b :: r) fun k x y h1 h2 => h (k + 1) x y (by simpa using h1) (by simpa using h2)
  obtain hab := h 0 a b rfl rfl
  refine List.pairwise_cons.mpr ⟨fun x hx => ?_, ih⟩
  rcases List.mem_cons.mp hx with z | z
  ·rw [z]; exact hab
  ·exact tr _ _ _ hab ((List.pairwise_cons.mp ih).1 x z)
noncomputable def Share (rows : List (List Nat)) (x y : Nat) : Prop := ∃ r ∈ rows, x ∈ r ∧ y ∈ r
theorem row_lt {rows : List (List Nat)} {r : List Nat} (hr : r ∈ rows) : ∀ {d i : Nat} {x y : Nat}, r[i]? = some x → r[i + d + 1]? = some y → Lt rows x y
 | 0, i, x, y, h1, h2 => .one ⟨r, hr, i, h1, h2⟩
 | d + 1, i, x, y, h1, h2 => by
  have hlt := (List.getElem?_eq_some_iff.mp h2).1
  obtain ⟨z, hz⟩ : ∃ z, r[i + d + 1]? = some z := ⟨_, List.getElem?_eq_getElem (by grind)⟩
  exact (row_lt hr h1 hz).tail ⟨r, hr, i + d + 1, hz, by rw [show i + d + 1 + 1 = i + (d + 1) + 1 by grind]; exact h2⟩
theorem share_lt {rows : List (List Nat)} {x y : Nat} (h : Share rows x y) (hne : x ≠ y) : Lt rows x y ∨ Lt rows y x := by
 refine cutG fun P_ hP_ => ?_
 obtain ⟨r, hr, hx, hy⟩ := h
 obtain ⟨i, hi⟩ := List.mem_iff_getElem?.mp hx
 obtain ⟨j, hj⟩ := List.mem_iff_getElem?.mp hy
 refine hP_ ?_
 clear hP_ P_
 rcases Nat.lt_trichotomy i j with q | q | q
 ·left
  exact row_lt hr (d := j - i - 1) hi (by rw [show i + (j - i - 1) + 1 = j by grind]; exact hj)
 ·subst q; obtain rfl := Option.some.inj (hi.symm.trans hj); exact absurd rfl hne
 ·right
  exact row_lt hr (d := i - j - 1) hj (by rw [show j + (i - j - 1) + 1 = i by grind]; exact hi)
theorem Lt.last {rows : List (List Nat)} {u y : Nat} (h : Lt rows u y) : ∃ v, Ed rows v y ∧ (v = u ∨ Lt rows u v) := by
 cases h with
 | one e => exact ⟨u, e, .inl rfl⟩
 | tail h e => exact ⟨_, e, .inr h⟩
theorem share_of_same {rows : List (List Nat)} {ah flat rj rest P S : List Nat} {x y : Nat} (h6 : ∀ r ∈ rows, ∀ t ∈ r, t < 6) (hah : ∀ u t, Bit ah u t ↔ Lt rows u t) (hac : ∀ t, ¬ Lt rows t t)
  (hj : rj ∈ rows) (hy : y ∈ rj) (hall : ∀ r ∈ rows, ∀ t ∈ r, t ∈ rj ++ rest) (hall' : ∀ t ∈ rj ++ rest, ∃ r ∈ rows, t ∈ r) (hl : ∀ t ∈ left0 (rj ++ rest), t ∈ rj ++ rest)
  (e : rankL ah (rj ++ rest) (left0 (rj ++ rest)) = P ++ x :: y :: S) : Share rows x y := by
 have hnd := left0_nodup (rj ++ rest)
 have hperm := rank_perm h6 hah hac (flat := rj ++ rest) _ (left0 (rj ++ rest)) rfl hl
 have hlin := rank_lin h6 hah hac (flat := rj ++ rest) _ (left0 (rj ++ rest)) rfl hnd hl
 have hnd2 : (P ++ x :: y :: S).Nodup := by rw [← e]; exact hperm.nodup_iff.mpr hnd
 rw [e] at hlin hperm
 obtain ⟨left', hm, hx, hfne⟩ := rank_at h6 hah hac P (left0 (rj ++ rest)) x (y :: S) hnd hl e
 by_cases hsh : Share rows x y
 ·exact hsh
 ·exfalso
  have h6' : ∀ t ∈ rj ++ rest, t < 6 := fun t ht => by obtain ⟨r, hr, z⟩ := hall' t ht; exact h6 r hr t z
  have hfy : y ∈ freeOf ah left' := by
   refine (mem_free h6 hah hac).mpr ⟨(hm y).mpr (.inr (.head _)), fun u hu hlt => ?_⟩
   obtain ⟨v, hv, huv⟩ := hlt.last
   have hvP : v ∈ P ++ x :: y :: S := by
    refine hperm.mem_iff.mpr ((left0_mem h6').mpr ?_)
    obtain ⟨r, hr, i, h1, _⟩ := hv
    exact hall r hr v (List.mem_of_getElem? h1)
   have hu' : u ∈ x :: y :: S := by
    rcases (hm u).mp hu with z | z
    ·rw [z]; exact .head _
    ·exact .tail _ z
   rw [List.pairwise_append] at hlin
   rcases List.mem_append.mp hvP with z | z
   ·rcases huv with q | q
    ·subst q
     exact (List.nodup_append.mp hnd2).2.2 v z v hu' rfl
    ·exact hlin.2.2 v z u hu' q
   ·rcases List.mem_cons.mp z with z | z
    ·subst z
     obtain ⟨r, hr, i, h1, h2⟩ := hv
     exact hsh ⟨r, hr, List.mem_of_getElem? h1, List.mem_of_getElem? h2⟩
    ·rcases List.mem_cons.mp z with z | z
     ·subst z; exact hac v (.one hv)
     ·have h3 := (List.pairwise_cons.mp (List.pairwise_cons.mp hlin.2.1).2).1 v z
      exact h3 (.one hv)
  have hfind : ∃ t ∈ rj, (rj ++ rest).find? (fun t => decide (t ∈ freeOf ah left')) = some t := by
   rw [List.find?_append]
   cases q : rj.find? fun t => decide (t ∈ freeOf ah left') with
   | some t => exact ⟨t, List.mem_of_find?_eq_some q, rfl⟩
   | none =>
    rw [List.find?_eq_none] at q
    exact absurd (decide_eq_true hfy) (q y hy)
  obtain ⟨t, ht, e2⟩ := hfind
  have : x = t := by rw [hx, firstIn, e2]; rfl
  exact hsh ⟨rj, hj, this ▸ ht, hy⟩
theorem sub_of_order {f : Nat → Nat} : ∀ {l r : List Nat}, l.Pairwise (fun a b => f a ≤ f b) → r.Pairwise (fun a b => f a < f b) → (∀ t ∈ r, t ∈ l) → r.Sublist l
 | [], r, _, _, h => by
  cases r with
  | nil => exact .slnil
  | cons b r => exact absurd (h b (.head _)) (by simp)
 | a :: l, [], _, _, _ => List.nil_sublist _
 | a :: l, b :: r, h1, h2, h => by
  obtain h1' := List.pairwise_cons.mp h1
  obtain h2' := List.pairwise_cons.mp h2
  by_cases q : b = a
  ·subst q
   refine (sub_of_order h1'.2 h2'.2 fun t ht => ?_).cons_cons b
   rcases List.mem_cons.mp (h t (.tail _ ht)) with z | z
   ·have := h2'.1 t ht
    rw [z] at this; grind
   ·exact z
  ·refine (sub_of_order h1'.2 h2 fun t ht => ?_).cons a
   rcases List.mem_cons.mp (h t ht) with z | z
   ·subst z
    rcases List.mem_cons.mp ht with w | w
    ·exact absurd w.symm q
    ·obtain h3 := h2'.1 t w
     obtain hb : b ∈ l := by
      rcases List.mem_cons.mp (h b (.head _)) with v | v
      ·exact absurd v q
      ·exact v
     have := h1'.1 b hb
     grind
   ·exact z
theorem c3_line {α : Type} [DecidableEq α] : ∀ (l : List α) (rows : List (List α)) (n : Nat), l.length < n → l.Nodup → (∀ r ∈ rows, r.Sublist l) → c3F n (l :: rows) = some l
 | l, rows, 0, h, _, _ => absurd h (Nat.not_lt_zero _)
 | [], rows, n + 1, _, _, hs => by
  rw [c3F_s, if_pos]
  rw [List.filter_eq_nil_iff]
  intro s h
  rcases List.mem_cons.mp h with z | z
  ·rw [z]; simp
  ·rw [List.eq_nil_of_sublist_nil (hs s z)]; simp
 | a :: l, rows, n + 1, h, hn, hs => by
  obtain hn' := List.nodup_cons.mp hn
  obtain ht : ∀ s ∈ (a :: l) :: rows, a ∉ s.tail := fun s hm => by
   rcases List.mem_cons.mp hm with z | z
   ·rw [z]; exact hn'.1
   ·obtain h1 := hs s z
    intro ha
    cases h1 with
    | cons _ h1 => exact hn'.1 (h1.subset (List.mem_of_mem_tail ha))
    | cons_cons _ h1 => exact hn'.1 (h1.subset ha)
  have hf : ((a :: l) :: rows).filter (fun s => decide (s ≠ [])) = (a :: l) :: rows.filter (fun s => decide (s ≠ [])) := by
   rw [List.filter_cons, if_pos (by simp)]
  obtain hc : c3cand (((a :: l) :: rows).filter fun s => decide (s ≠ [])) = some a := by
   unfold c3cand
   rw [hf, List.filterMap_cons]
   simp only [List.head?_cons]
   rw [List.find?_cons_of_pos]
   rw [List.all_eq_true]
   intro s hm
   rw [decide_eq_true_eq]
   rw [← hf] at hm
   exact ht s (List.mem_filter.mp hm).1
  rw [c3F_s, if_neg (by rw [hf]; exact fun z => nomatch z), hc]
  obtain e : ((a :: l) :: rows).map (c3head a) = l :: rows.map (c3head a) := by
   rw [List.map_cons]
   congr 1
   unfold c3head
   rw [if_pos (List.head?_cons ..)]; rfl
  simp only [e]
  rw [c3_line l (rows.map (c3head a)) n (by simpa using h) hn'.2 fun r hr => ?_]
  ·rfl
  ·obtain ⟨s, hm, rfl⟩ := List.mem_map.mp hr
   obtain h1 := hs s hm
   unfold c3head
   cases h1 with
   | cons _ h1 =>
    split
    ·exact (List.tail_sublist _).trans h1
    ·exact h1
   | cons_cons _ h1 => rw [if_pos (List.head?_cons ..)]; exact h1
end Mine
end
section
namespace Mine
section
variable {α β : Type} [DecidableEq α] [DecidableEq β] {f : α → β} {p : α → Prop}
theorem c3_map (hf : ∀ x y, p x → p y → f x = f y → x = y) : ∀ (n : Nat) (seqs : List (List α)), (∀ s ∈ seqs, ∀ x ∈ s, p x) → c3F n (seqs.map (List.map f)) = (c3F n seqs).map (List.map f)
 | 0, _, _ => rfl
 | n + 1, seqs, hp => by
  obtain mem : ∀ s ∈ seqs, ∀ t, p t → (f t ∈ s.map f ↔ t ∈ s) := fun s hs t ht => by
   constructor
   ·intro h
    obtain ⟨u, hu, e⟩ := List.mem_map.mp h
    rw [← hf u t (hp s hs u hu) ht e]; exact hu
   ·exact fun h => List.mem_map_of_mem h
  obtain e1 : (seqs.map (List.map f)).filter (fun s => decide (s ≠ [])) = (seqs.filter fun s => decide (s ≠ [])).map (List.map f) := by
   rw [List.filter_map]
   congr 1
   refine List.filter_congr fun s o_ => ?_
   simp
  obtain hheads : ((seqs.filter fun s => decide (s ≠ [])).map (List.map f)).filterMap List.head? = ((seqs.filter fun s => decide (s ≠ [])).filterMap List.head?).map f := by
   rw [List.filterMap_map, List.map_filterMap]
   congr 1
   funext s
   simp
  obtain e2 : c3cand ((seqs.filter fun s => decide (s ≠ [])).map (List.map f)) = (c3cand (seqs.filter fun s => decide (s ≠ []))).map f := by
   unfold c3cand
   rw [hheads, List.find?_map]
   congr 1
   obtain key : ∀ l : List α, (∀ t ∈ l, p t) → List.find? ((fun t => ((seqs.filter fun s => decide (s ≠ [])).map (List.map f)).all fun s => decide (t ∉ s.tail)) ∘ f) l = List.find? (fun t => (seqs.filter fun s => decide (s ≠ [])).all fun s => decide (t ∉ s.tail)) l := by
    intro l
    induction l with
    | nil => intro _; rfl
    | cons t r ih =>
     intro hl
     rw [List.find?_cons, List.find?_cons, ih fun x hx => hl x (.tail _ hx)]
     obtain this : ((fun t => ((seqs.filter fun s => decide (s ≠ [])).map (List.map f)).all fun s => decide (t ∉ s.tail)) ∘ f) t = (seqs.filter fun s => decide (s ≠ [])).all fun s => decide (t ∉ s.tail) := by
      show (List.map _ _).all _ = _
      rw [List.all_map, Bool.eq_iff_iff]
      simp only [List.all_eq_true, Function.comp, decide_eq_true_eq]
      have h1 : ∀ s ∈ seqs.filter (fun s => decide (s ≠ [])), (f t ∉ (s.map f).tail ↔ t ∉ s.tail) := fun s hs => by
       obtain hs' := (List.mem_filter.mp hs).1
       rw [← List.map_tail]
       constructor
       ·exact fun h h' => h (List.mem_map_of_mem h')
       ·intro h h'
        obtain ⟨u, hu, e⟩ := List.mem_map.mp h'
        exact h (hf u t (hp s hs' u (List.mem_of_mem_tail hu)) (hl t (.head _)) e ▸ hu)
      exact ⟨fun h s hs => (h1 s hs).mp (h s hs), fun h s hs => (h1 s hs).mpr (h s hs)⟩
     rw [this]
   refine key _ fun t ht => ?_
   obtain ⟨s, hs, e⟩ := List.mem_filterMap.mp ht
   exact hp s (List.mem_filter.mp hs).1 t (List.mem_of_head? e)
  rw [c3F_s, c3F_s, e1, e2]
  by_cases h0 : seqs.filter (fun s => decide (s ≠ [])) = []
  ·rw [if_pos h0, if_pos (by rw [h0]; rfl)]; rfl
  ·rw [if_neg h0, if_neg (fun z => h0 (List.map_eq_nil_iff.mp z))]
   cases q : c3cand (seqs.filter fun s => decide (s ≠ [])) with
   | none => rfl
   | some t =>
    obtain ht : p t := by
     obtain ⟨s, hs, e⟩ := List.mem_filterMap.mp (c3cand_mem q)
     exact hp s (List.mem_filter.mp hs).1 t (List.mem_of_head? e)
    obtain e3 : (seqs.map (List.map f)).map (c3head (f t)) = (seqs.map (c3head t)).map (List.map f) := by
     rw [List.map_map, List.map_map]
     refine List.map_congr_left fun s hs => ?_
     show c3head (f t) (s.map f) = (c3head t s).map f
     unfold c3head
     cases s with
     | nil => rfl
     | cons x r =>
      simp only [List.map_cons, List.head?_cons, Option.some.injEq, List.tail_cons]
      by_cases h : x = t
      ·subst h; rw [if_pos rfl, if_pos rfl]
      ·rw [if_neg h, if_neg fun z => h (hf x t (hp _ hs x (.head _)) ht z)]; rfl
    simp only [Option.map_some, e3]
    rw [c3_map hf n (seqs.map (c3head t)) fun s hs x hx => ?_]
    ·cases c3F n (seqs.map (c3head t)) <;> rfl
    ·obtain ⟨s', hs', rfl⟩ := List.mem_map.mp hs
     refine hp s' hs' x ?_
     unfold c3head at hx
     split at hx
     ·exact List.mem_of_mem_tail hx
     ·exact hx
theorem c3len_map (seqs : List (List α)) : c3len (seqs.map (List.map f)) = c3len seqs := by
 unfold c3len
 rw [List.map_map]
 congr 1
 exact List.map_congr_left fun s o_ => List.length_map ..
end
open PySem
theorem nm_inj : ∀ x y, x < 6 → y < 6 → nm x = nm y → x = y := by
 obtain h : ∀ x < 6, ∀ y < 6, nm x = nm y → x = y := by decide +kernel
 exact fun x y hx hy => h x hx y hy
set_option tactic.hygienic true in
theorem dedup_fold_nd : ∀ (l acc : List Str), acc.Nodup → (l.foldl putS acc).Nodup
 | [], _, h => h
 | x :: r, acc, h => by
  refine dedup_fold_nd r _ ?_
  unfold putS
  split
  ·exact h
  ·rename_i hx
   exact List.nodup_append.mpr ⟨h, by simp, fun a ha b hb => by rw [List.mem_singleton.mp hb]; rintro rfl; exact hx ha⟩
set_option tactic.hygienic true in
theorem dedup_fold_mem : ∀ (l acc : List Str) (x : Str), x ∈ l.foldl putS acc ↔ x ∈ acc ∨ x ∈ l
 | [], _, _ => by simp
 | y :: r, acc, x => by
  rw [List.foldl_cons, dedup_fold_mem r _ x]
  unfold putS
  split
  ·rename_i hy
   rw [List.mem_cons]
   constructor
   ·rintro (h | h)
    ·exact .inl h
    ·exact .inr (.inr h)
   ·rintro (h | h | h)
    ·exact .inl h
    ·subst h; exact .inl hy
    ·exact .inr h
  ·simp only [List.mem_append, List.mem_cons, List.not_mem_nil, or_false]
   constructor
   ·rintro ((h | h) | h)
    ·exact .inl h
    ·exact .inr (.inl h)
    ·exact .inr (.inr h)
   ·rintro (h | h | h)
    ·exact .inl (.inl h)
    ·exact .inl (.inr h)
    ·exact .inr h
theorem dedupS_mem {l : List Str} {x : Str} : x ∈ dedupS l ↔ x ∈ l := by rw [dedupS, dedup_fold_mem]; simp
theorem dedupS_nd (l : List Str) : (dedupS l).Nodup := dedup_fold_nd l [] .nil
theorem remF_iff : ∀ {a b : List Str}, a.Nodup → b.Nodup → (remF a b = some [] ↔ ∀ x, x ∈ a ↔ x ∈ b)
 | [], b, _, _ => by
  rw [remF_n, Option.some.injEq]
  constructor
  ·rintro rfl x; exact Iff.rfl
  ·intro h
   cases b with
   | nil => rfl
   | cons y r => exact absurd ((h y).mpr (.head _)) (by simp)
 | x :: r, b, ha, hb => by
  obtain ha' := List.nodup_cons.mp ha
  rw [remF_s]
  by_cases hx : x ∈ b
  ·rw [if_pos hx, remF_iff ha'.2 (hb.erase x)]
   constructor
   ·intro h y
    rw [List.mem_cons, h y, hb.mem_erase_iff]
    constructor
    ·rintro (z | z)
     ·rw [z]; exact hx
     ·exact z.2
    ·intro z
     by_cases q : y = x
     ·exact .inl q
     ·exact .inr ⟨q, z⟩
   ·intro h y
    rw [hb.mem_erase_iff, ← h y, List.mem_cons]
    constructor
    ·intro z
     exact ⟨fun q => ha'.1 (q ▸ z), .inr z⟩
    ·rintro ⟨z1, z2 | z2⟩
     ·exact absurd z2 z1
     ·exact z2
  ·rw [if_neg hx]
   constructor
   ·intro h; cases h
   ·intro h; exact absurd ((h x).mp (.head _)) hx
theorem cmpB_iff {l1 l2 : List Str} : cmpB l1 l2 = true ↔ ∀ x, x ∈ l1 ↔ x ∈ l2 := by
 unfold cmpB
 rw [decide_eq_true_eq, remF_iff (dedupS_nd l1) (dedupS_nd l2)]
 exact ⟨fun h x => by rw [← dedupS_mem (l := l1), h x, dedupS_mem], fun h x => by rw [dedupS_mem, dedupS_mem]; exact h x⟩
end Mine
end
section
open PySem PySem.W PyProof.Rows
namespace Mine
open PySem.Calls
theorem strs_any {X X' : List Addr} {h h' : Heap} : ∀ {l : List Str} {vs : List Value}, RepAll X h (l.map .str) vs → RepAll X' h' (l.map .str) vs
 | [], _, r => by cases r; exact rfl
 | _ :: _, _, r => by obtain ⟨v, r', rfl, h1, h2⟩ := r; exact ⟨v, r', rfl, h1, strs_any h2⟩
section
variable {c : Cx}
theorem callWith_gen {f : Value} {e : Expr} {es : List Expr} {pos : Pos} {s : Shared} {E : Value → Shared → Prop} {Q : Value → Shared → Prop} {R : List Value → Shared → Prop} (o : Ok c s) (hk : Kpr c f)
  (ha : wpAny (model c.prog c.w) c.A (spliced (backTo pos (starEach (e :: es) c.env))) (fun vs s₁ => Kp c.hb [] s s₁ ∧ R vs s₁) E s)
  (h : ∀ s₁ vs, Kp c.hb [] s s₁ → R vs s₁ → wpAny (model c.prog c.w) c.A (call f vs) Q E s₁)
  (he : starEach (e :: es) c.env = (false, eval e c.env) :: starEach es c.env := by rfl) (hplain : ((starEach (e :: es) c.env).any (·.1)) = false := by rfl) :
  wpAny (model c.prog c.w) c.A (callWith pos f [] (backTo pos (starEach (e :: es) c.env)) []) Q E s := by
 have hp : ((backTo pos (starEach (e :: es) c.env)).any (·.1) || ([] : List (Option Str × Sem Value)).any (·.1.isNone)) = false := by
  obtain this : ∀ l : List (Bool × Sem Value), (backTo pos l).any (·.1) = l.any (·.1) := fun l => by
   unfold backTo; rw [List.any_map]; rfl
  rw [this, hplain]; rfl
 refine callWith_of (P := fun hp => ∃ s', Ok c s' ∧ s'.heap = hp) hp (fun hh z1_ => by obtain ⟨s', o', e'⟩ := z1_; exact e' ▸ hk s' o') ?_
 rw [he] at ha ⊢
 refine evalArgs_plain (wpAny_mono ha (fun vs s₁ h₁ => ⟨⟨s₁, o.kp h₁.1, rfl⟩, ?_⟩) fun o_ o_ e => e)
 exact h s₁ vs h₁.1 h₁.2
theorem none_since {hb : Heap} {O : List Addr} {s s' : Shared} (k : Kp hb O s s') {b : Addr} (hO : b ∉ O) (h : s'.heap.get? b = none) : s.heap.get? b = none := by
 cases q : s.heap.get? b with
 | none => rfl
 | some ob => obtain ⟨o', e', _⟩ := k.data q hO; exact no_some (h.symm.trans e')
theorem evs_new2 {e1 e2 : Expr} {xs ys : List Str} (h1 : Evn c e1 (xs.map .str)) (h2 : Evn c e2 (ys.map .str)) {pos : Pos} {s : Shared} {E : Value → Shared → Prop} (o : Ok c s)
  (hs1 : starEach [e1, e2] c.env = (false, eval e1 c.env) :: starEach [e2] c.env := by rfl) (hs2 : starEach [e2] c.env = (false, eval e2 c.env) :: starEach [] c.env := by rfl) :
  wpAny (model c.prog c.w) c.A (spliced (backTo pos (starEach [e1, e2] c.env))) (fun vs s' => Kp c.hb [] s s' ∧ ∃ a b us ws n m, vs = [.ref a, .ref b] ∧ a ≠ b ∧ s.heap.get? a = none ∧ s.heap.get? b = none ∧ s'.heap.get? a = some (listO us n) ∧ s'.heap.get? b = some (listO ws m) ∧
   RepAll [] s'.heap (xs.map .str) us ∧ RepAll [] s'.heap (ys.map .str) ws) E s := by
 refine spliced_more (wpAny_mono (h1 s E o) (fun v s₁ q₁ => ?_) fun o_ o_ e => e) hs1
 refine cutG fun P_ hP_ => ?_
 obtain ⟨k1, a, us, n, rfl, f1, g1, r1⟩ := q₁
 refine hP_ ?_
 clear hP_ P_
 refine spliced_more (wpAny_mono (h2 s₁ E (o.kp k1)) (fun v s₂ q₂ => ?_) fun o_ o_ e => e) hs2
 refine cutG fun P_ hP_ => ?_
 obtain ⟨k2, b, ws, m, rfl, f2, g2, r2⟩ := q₂
 refine hP_ ?_
 clear hP_ P_
 refine spliced_none ?_
 refine ⟨k1.trans k2, a, b, us, ws, n, m, rfl, fun e => ?_, f1, none_since k1 (fun h => (nomatch h)) f2, k2.get g1 notFrame_list (fun h => (nomatch h)), g2, strs_any r1, strs_any r2⟩
 exact clash e f2 g1
theorem Ok.temp {s s' : Shared} {N : List Addr} {M : List (Addr × List D)} (o : Ok c s) (k : Kp c.hb [] s s') (h : ∀ a ∈ N, s.heap.get? a = none) (hex : ∀ a ∈ N, ∃ o, s'.heap.get? a = some o) (hM : ∀ p ∈ M, p.1 ∈ N)
  (hg : ∀ p ∈ M, ∃ ys n, s'.heap.get? p.1 = some (listO ys n) ∧ RepAll (N ++ c.X) s'.heap p.2 ys) : Ok { c with X := N ++ c.X, own := M } s' := by
 obtain o' := o.kp k
 obtain rep' : ∀ {d : D} {v : Value}, Rep c.X s.heap d v → Rep (N ++ c.X) s'.heap d v := fun {d v} r => r.mono fun b ob hb' e hnf => by
  refine ⟨fun hm => ?_, k.get e hnf (fun h => (nomatch h))⟩
  rcases List.mem_append.mp hm with z | z
  ·rw [h b z] at e; cases e
  ·exact hb' z
 refine ⟨o'.base, o'.frames, fun b hb' => ?_, fun y d hy => ?_, fun p hp => ?_, o'.home⟩
 ·rcases List.mem_append.mp hb' with z | z
  ·exact hex b z
  ·exact o'.xin b z
 ·obtain ⟨v, hv, hr⟩ := o.vars y d hy
  exact ⟨v, hv.kp k (fun o_ o_ h => (nomatch h)), rep' hr⟩
 ·obtain ⟨ys, n, e1, e2⟩ := hg p hp
  exact ⟨List.mem_append_left _ (hM p hp), ys, n, e1, e2⟩
theorem Ok.newOff {s : Shared} (o : Ok c s) {N : List Addr} {X' : List Addr} {ow : List (Addr × List D)} (h : ∀ a ∈ N, s.heap.get? a = none) (hX : ∀ a ∈ N, a ∈ X') : Off { c with X := X', own := ow } N := by
 refine ⟨hX, fun a ha hm => ?_, fun a ha => ?_, fun a ha hm => ?_⟩
 ·obtain ⟨ob, e⟩ := o.home a hm; rw [h a ha] at e; cases e
 ·cases q : c.hb.get? a with
  | none => rfl
  | some ob => have := o.base a ob q; rw [h a ha] at this; cases this
 ·obtain ⟨l, hl, hfr⟩ := o.frames
  obtain hm' : a ∈ l.filterMap (·.frame) := by unfold framesOf at hm; rw [hl] at hm; exact hm
  obtain ⟨_, ob, e, _⟩ := hfr.mem hm'
  rw [h a ha] at e; cases e
theorem Kp.dropNew {hb : Heap} {N : List Addr} {s s' s'' : Shared} (k : Kp hb [] s s') (k' : Kp hb N s' s'') (h : ∀ a ∈ N, s.heap.get? a = none) : Kp hb [] s s'' :=
 k.join k' fun a ha => .inr (h a ha)
theorem ev_diff {k : Nat} (hr : Room c.A (k + 1)) {hb₀ : Heap} (G : Gl hb₀) {x : Str} {p pos : Pos} {e1 e2 : Expr} {xs ys : List Str} (hf : Ev c (.Name x p) (.val (.ref 64))) (h1 : Evn c e1 (xs.map .str)) (h2 : Evn c e2 (ys.map .str))
  (hx : ∀ x ∈ xs, PyData.strOk x = true) (hy : ∀ x ∈ ys, PyData.strOk x = true) (hxl : xs.length ≤ 400) (hyl : ys.length ≤ 400) (hh : c.hb = hb₀ := by rfl)
  (hs1 : starEach [e1, e2] c.env = (false, eval e1 c.env) :: starEach [e2] c.env := by rfl) (hs2 : starEach [e2] c.env = (false, eval e2 c.env) :: starEach [] c.env := by rfl) :
  Ev c (.Call (.Name x p) [e1, e2] [] pos) (.tup [dStrs (diffF xs ys).1, dStrs (diffF xs ys).2]) := fun s E o => by
 subst hh
 refine Call_Name rfl (wpAny_mono (hf s E o) (fun f' s₁ h₁ => ?_) fun o_ o_ e => e)
 obtain ⟨k₁, rfl⟩ := h₁
 have o₁ := o.kp k₁
 refine callWith_gen o₁ (FnAt.kpr (G.fn 10 64 (.tail _ (.tail _ (.tail _ (.head _)))))) (evs_new2 h1 h2 o₁ hs1 hs2) (fun s₂ vs k₂ r => ?_) hs1 (by rw [hs1, hs2]; rfl)
 refine cutG fun P_ hP_ => ?_
 obtain ⟨a, b, us, ws, n, m, rfl, hne, fa, fb, ga, gb, ra, rb⟩ := r
 refine hP_ ?_
 clear hP_ P_
 have fN : ∀ z ∈ [a, b], s₁.heap.get? z = none := by
  simp only [List.forall_mem_cons]; exact ⟨fa, fb, fun o_ h => (nomatch h)⟩
 obtain o₂ : Ok { c with X := [a, b] ++ c.X, own := [(a, xs.map .str), (b, ys.map .str)] } s₂ := by
  refine o₁.temp k₂ fN ?_ ?_ ?_
  ·simp only [List.forall_mem_cons]; exact ⟨⟨_, ga⟩, ⟨_, gb⟩, fun o_ h => (nomatch h)⟩
  ·simp
  ·simp only [List.forall_mem_cons]; exact ⟨⟨us, n, ga, strs_any ra⟩, ⟨ws, m, gb, strs_any rb⟩, fun o_ h => (nomatch h)⟩
 have no : ∀ z ∈ [a, b], z ∉ c.X := fun z hz hm => by
  obtain ⟨ob, e⟩ := o₁.xin z hm; rw [fN z hz] at e; cases e
 obtain hoff : Off { c with X := [a, b] ++ c.X, own := [(a, xs.map .str), (b, ys.map .str)] } [a, b] := o₁.newOff fN fun z hz => List.mem_append_left _ hz
 refine wpAny_mono (diff_call (c := { c with X := [a, b] ++ c.X, own := [(a, xs.map .str), (b, ys.map .str)] }) hr G (X₁ := c.X) rfl (no a (by simp)) (no b (by simp)) hne rfl hoff hx hy hxl hyl rfl o₂) (fun v s₃ h₃ => ?_) fun o_ o_ e => e
 exact ⟨k₁.trans (k₂.dropNew h₃.1 fN), h₃.2⟩
theorem src_range3 {x : Str} {p pos : Pos} {e e' e'' : Expr} {a b : Int} {n : Nat} {k : Nat} {Ob : List Addr} (hr : Room c.A k) (hf : Ev c (.Name x p) (.val (.type "range"))) (he : Ev c e (.int a)) (he' : Ev c e' (.int b)) (he'' : Ev c e'' (.int (-1))) (hsm : Builtin.Range.small a b (-1) = true) (hn : Builtin.Range.rangeSize a b (-1) = n)
  (hs : starEach [e, e', e''] c.env = [(false, eval e c.env), (false, eval e' c.env), (false, eval e'' c.env)] := by rfl) (hs' : starEach [e', e''] c.env = [(false, eval e' c.env), (false, eval e'' c.env)] := by rfl) (hs'' : starEach [e''] c.env = [(false, eval e'' c.env)] := by rfl) : Src c Ob (.Call (.Name x p) [e, e', e''] [] pos) (rangeD a n (-1)) := fun s E o => by
 refine Call_Name rfl (wpAny_mono (hf s E o) (fun f' s₁ h₁ => ?_) fun o_ o_ e => e)
 obtain ⟨k₁, rfl⟩ := h₁
 refine callWith_data (o.kp k₁) kpr_type (evs_cons he (evs_cons he' (evs_cons he'' evs_nil hs'') (by rw [hs', hs''])) (by rw [hs, hs'])) (fun s₂ vs k₂ r => ?_) (by rw [hs, hs']) (by rw [hs]; rfl)
 refine cutG fun P_ hP_ => ?_
 obtain ⟨v, _, rfl, ⟨t, rfl⟩, u, _, rfl, ⟨t', rfl⟩, w, _, rfl, ⟨t'', rfl⟩, rfl⟩ := r
 refine hP_ ?_
 clear hP_ P_
 refine call_range_3 (by decide) ?_
 exact walk_range hr (((k₁.trans k₂).trans (Kp.push _ _ _)).toks _) (IsRange.new ..) hsm hn
end
end Mine
end
section
open PySem PySem.W PyProof.Rows
namespace Mine
open PySem.Calls
section
variable {c : Cx}
structure CodeAt (hb : Heap) (cd P : Addr) : Prop where
 code : CodeHd hb cd P
 ne : hb.get? P = none
 bt : ∃ mg, hb.Ns mainGlobals mg ∧ hb.BuiltinsAt mg P
theorem CodeHd.stays {h h' : Heap} {cd P : Addr} (x : CodeHd h cd P) (st : h.StaysIn h') : CodeHd h' cd P := by
 refine cutG fun P_ hP_ => ?_
 obtain ⟨o, vs, file, tf, flags, tg, inF, text, tt, e, r⟩ := x
 refine hP_ ?_
 clear hP_ P_
 exact ⟨o, vs, file, tf, flags, tg, inF, text, tt, st _ _ e, r⟩
theorem lam_at {s : Shared} {E : Value → Shared → Prop} {cd P : Addr} {ps : Array Value} {params : Arguments} {body : Expr} {scope : Scope} {pos : Pos} (o : Ok c s) (K : CodeAt c.hb cd P) (hoff : Off c [P]) (hP : s.heap.get? P = some (tabObj ps)) (ht : TriplesOk ps.toList) (hnf : codeAmong pos ps.toList = none)
  (hcode : c.env.code = .ref cd) (hge : c.env.globals = mainGlobals) (hdef : defaultsOf params c.env = ([], [])) (hcl : ∀ x ∈ scope.names, x.2 = .free → (c.env.cells.lookup x.1).isSome = true) {Q : Value → Shared → Prop}
  (h : ∀ f c' ctv pm s', Kp c.hb [P] s s' → Ok c s' → s.heap.get? f = none → s.heap.get? c' = none → f ≠ c' → s'.heap.get? f = some (kla_obj "<lambda>" (c.env.qual ++ "<lambda>") params body scope (clOf scope c.env) pm c' ctv) →
   s'.heap.CodeRec (.ref c') (c.env.qual ++ "<lambda>") → s'.heap.get? P = some (tabObj (ps ++ #[rawInt pos.line, rawInt pos.col, .ref c'])) → Q (.ref f) s') :
  wpAny (model c.prog c.w) c.A (eval (.Lambda params body scope pos) c.env) Q E s := by
 refine cutG fun P_ hP_ => ?_
 obtain ⟨mg, hmg, hbt⟩ := K.bt
 have hgP : mainGlobals ≠ P := fun e => by
  obtain ⟨ob, _, _, e', _⟩ := hmg
  exact clash e K.ne e'
 obtain ⟨bm, ob, b1, b2, b3, b4, b5, b6⟩ := hbt
 refine hP_ ?_
 clear hP_ P_
 refine kla_eval hdef (kla_makeFunction (mg := mg) (closureFor_is hcl) hge (hmg.keeps o.base) hcode (CodeHd.stays K.code o.base) hP ht hnf hgP ⟨bm, ob, b1, b2, b3, b4, o.base _ _ b5, b6⟩ fun c' ctv h' tk hx hge' hlt hrec htb => ?_)
 have kk : Kp c.hb [P] s { s with heap := h'.push (kla_obj "<lambda>" (c.env.qual ++ "<lambda>") params body scope (clOf scope c.env) ((mg "__name__").getD .none) c' ctv), toks := tk } :=
  ⟨_, tk, rfl, fun b ob e hb => .inl (Heap.get?_push_of_some _ (hx b ob (fun z => hb (by rw [z]; exact .head _)) e))⟩
 refine h _ c' ctv _ _ kk (o.off (own' := c.own) kk hoff (fun a ha => ?_) (fun p hp => ?_)) ?_ (Heap.get?_none_of_le hge') (Nat.ne_of_gt hlt) (Heap.get?_push_size _ rfl) (hrec.push _) (Heap.get?_push_of_some _ htb)
 ·rw [List.mem_singleton.mp ha]; exact ⟨_, Heap.get?_push_of_some _ htb⟩
 ·refine o.ownKeep kk hoff.x hp fun hm => ?_
  refine cutG fun P_ hP_ => ?_
  obtain ⟨_, vs, n, e, _⟩ := o.own p hp
  refine hP_ ?_
  clear hP_ P_
  rw [List.mem_singleton.mp hm, hP] at e
  cases e
 ·exact Heap.get?_none_of_le (Nat.le_trans hge' (Nat.le_of_lt hlt))
noncomputable def baseOf (c : Cx) (h : Heap) : Heap := hideAll h ((c.X ++ framesOf c.A).filter fun b => (c.hb.get? b).isNone)
theorem baseOf_of {h : Heap} {b : Addr} {o : Obj} (e : (baseOf c h).get? b = some o) : h.get? b = some o := of_hideAll _ e
theorem baseOf_old {h : Heap} (st : c.hb.StaysIn h) {b : Addr} {o : Obj} (e : c.hb.get? b = some o) : (baseOf c h).get? b = some o :=
 hideAll_get _ (st b o e) fun hm => by
  have := (List.mem_filter.mp hm).2
  rw [e] at this; cases this
theorem baseOf_new {h : Heap} {b : Addr} {o : Obj} (e : h.get? b = some o) (h1 : b ∉ c.X) (h2 : b ∉ framesOf c.A) : (baseOf c h).get? b = some o :=
 hideAll_get _ e fun hm => (List.mem_append.mp (List.mem_filter.mp hm).1).elim h1 h2
theorem baseOf_none {h : Heap} {b : Addr} (h0 : c.hb.get? b = none) (h1 : b ∈ c.X ∨ b ∈ framesOf c.A) : (baseOf c h).get? b = none :=
 hideAll_none _ (List.mem_filter.mpr ⟨List.mem_append.mpr h1, by rw [h0]; rfl⟩)
theorem FunFrames.hb {h hb hb' : Heap} : ∀ {l : List Env}, h.FunFrames hb l → (∀ a ∈ l.filterMap (·.frame), hb'.get? a = none) → h.FunFrames hb' l
 | [], _, _ => trivial
 | env :: r, ⟨hk, ⟨L, o, hf, hn, ho, hd⟩, hr⟩, q => ⟨hk, ⟨L, o, hf, q L (by simp [hf]), ho, hd⟩, FunFrames.hb hr fun a ha => q a (by rw [List.filterMap_cons, hf]; exact .tail _ ha)⟩
theorem Sx.freeze {s₀ s : Shared} {O : List Addr} (S : Sx c s₀ O s) : Sx { c with hb := baseOf c s.heap } s (mine c) s := by
 refine ⟨⟨fun b o e => baseOf_of e, ?_, S.ok.xin, S.ok.vars, S.ok.own, S.ok.home⟩, Kp.refl _ _ _, fun o_ ha => .inl ha, fun a ha => ⟨(S.hx a ha).1, baseOf_none (S.hx a ha).2 (.inl (S.hx a ha).1)⟩, ⟨S.offs.x, S.offs.home, fun a ha => baseOf_none (S.offs.base a ha) (.inl (S.offs.x a ha)), S.offs.frame⟩, S.nd, S.fr, S.cap⟩
 obtain ⟨l, hl, hf⟩ := S.ok.frames
 refine ⟨l, hl, FunFrames.hb hf.1 fun a ha => baseOf_none (hf.mem ha).1 (.inr ?_), hf.2⟩
 unfold framesOf; rw [hl]; exact ha
theorem Kp.hbMono {hb hb' : Heap} {O : List Addr} {s s' : Shared} (k : Kp hb' O s s') (h : ∀ b o, hb.get? b = some o → hb'.get? b = some o) : Kp hb O s s' := by
 obtain ⟨hh, tk, rfl, e⟩ := k
 refine ⟨hh, tk, rfl, fun b o ho hO => (e b o ho hO).imp id fun ⟨n, r⟩ => ⟨?_, r⟩⟩
 cases q : hb.get? b with
 | none => rfl
 | some o' => rw [h b o' q] at n; cases n
theorem Sx.hbDown {hb : Heap} {s₀ s : Shared} {O : List Addr} (S : Sx c s₀ O s) (h : ∀ b o, hb.get? b = some o → c.hb.get? b = some o) : Sx { c with hb := hb } s₀ O s := by
 have hn : ∀ b, c.hb.get? b = none → hb.get? b = none := fun b n => by
  cases q : hb.get? b with
  | none => rfl
  | some o' => rw [h b o' q] at n; cases n
 refine ⟨⟨fun b o e => S.ok.base b o (h b o e), ?_, S.ok.xin, S.ok.vars, S.ok.own, S.ok.home⟩, S.kp.hbMono h, S.free, fun a ha => ⟨(S.hx a ha).1, hn a (S.hx a ha).2⟩, ⟨S.offs.x, S.offs.home, fun a ha => hn a (S.offs.base a ha), S.offs.frame⟩, S.nd, S.fr, S.cap⟩
 obtain ⟨l, hl, hf⟩ := S.ok.frames
 exact ⟨l, hl, FunFrames.hb hf.1 fun a ha => hn a (hf.mem ha).1, hf.2⟩
theorem callWith_any {f : Value} {e : Expr} {es : List Expr} {pos : Pos} {s : Shared} {E : Value → Shared → Prop} {Q : Value → Shared → Prop} {R : List Value → Shared → Prop} (o : Ok c s) (hk : Kpr c f)
  (ha : wpAny (model c.prog c.w) c.A (spliced (backTo pos (starEach (e :: es) c.env))) (fun vs s₁ => Ok c s₁ ∧ R vs s₁) E s)
  (h : ∀ s₁ vs, Ok c s₁ → R vs s₁ → wpAny (model c.prog c.w) c.A (call f vs) Q E s₁)
  (he : starEach (e :: es) c.env = (false, eval e c.env) :: starEach es c.env := by rfl) (hplain : ((starEach (e :: es) c.env).any (·.1)) = false := by rfl) :
  wpAny (model c.prog c.w) c.A (callWith pos f [] (backTo pos (starEach (e :: es) c.env)) []) Q E s := by
 have hp : ((backTo pos (starEach (e :: es) c.env)).any (·.1) || ([] : List (Option Str × Sem Value)).any (·.1.isNone)) = false := by
  obtain this : ∀ l : List (Bool × Sem Value), (backTo pos l).any (·.1) = l.any (·.1) := fun l => by
   unfold backTo; rw [List.any_map]; rfl
  rw [this, hplain]; rfl
 refine callWith_of (P := fun hp => ∃ s', Ok c s' ∧ s'.heap = hp) hp (fun hh z1_ => by obtain ⟨s', o', e'⟩ := z1_; exact e' ▸ hk s' o') ?_
 rw [he] at ha ⊢
 refine evalArgs_plain (wpAny_mono ha (fun vs s₁ h₁ => ⟨⟨s₁, h₁.1, rfl⟩, ?_⟩) fun o_ o_ e => e)
 exact h s₁ vs h₁.1 h₁.2
end
end Mine
end
section
open PySem PySem.W PyProof.Rows
namespace Mine
noncomputable def TupsAt (s : Shared) (h : Heap) : List Addr → List Value → Prop
 | [], vs => vs = []
 | a :: as, vs => ∃ t r, vs = .ref t :: r ∧ s.heap.get? t = none ∧ h.get? t = some (tupO [.ref a, .none] 0) ∧ TupsAt s h as r
noncomputable def ItemsPost (s : Shared) (as : List Addr) (v : Value) (s' : Shared) : Prop :=
 ∃ l vs n h tk, v = .ref l ∧ s' = { s with heap := h, toks := tk } ∧ (∀ b o, s.heap.get? b = some o → h.get? b = some o) ∧ s.heap.get? l = none ∧ h.get? l = some (listO vs n) ∧ TupsAt s h as vs
noncomputable abbrev itO (d : Addr) (x : Value) (f : Bool) (i n ep : Nat) (p q : Value) : Obj := ⟨.type "dict_itemiterator", none, .fields #[x, .bool f, .ref d, .int i 0, .int n 0, .int ep 0, p, q], #[]⟩
noncomputable abbrev dcO (es : List DictEntry) (ep : Nat) : Obj := ⟨.type "dict", none, .dict ⟨es⟩ ep, #[]⟩
noncomputable def DitAt (h : Heap) (it d : Addr) (i n ep : Nat) : Prop :=
 ∃ x f p q, h.get? it = some (itO d x f i n ep p q) ∧ ((x = .none ∧ f = false) ∨ ∃ (a : Addr) (o : Obj), x = rawInt a ∧ h.get? a = some o ∧ a ≠ it)
section
variable {prog : Program} {w : World} {A : Around} {E : Value → Shared → Prop} {h : Heap} {g : Array GenState} {dr : Drawn} {tk : Nat} {os : OsState}
theorem it_free {it d : Addr} {x : Value} {f : Bool} {i n ep : Nat} {p q u v : Value} {Q : Value → Shared → Prop} (hit : h.get? it = some (itO d x f i n ep p q))
  (hx : (x = .none ∧ f = false) ∨ ∃ (a : Addr) (o' : Obj), x = rawInt a ∧ h.get? a = some o' ∧ a ≠ it)
  (hQ : ∀ h', DitAt h' it d i n ep → h'.get? h.objs.size = some (tupO [u, v] 0) → (∀ b o, b ≠ it → h.get? b = some o → h'.get? b = some o) → Q (.ref h.objs.size) ⟨h', g, dr, tk, os⟩) :
  wpAny (model prog w) A (Builtin.Dict_items.pairFromOwner (.ref it) 6 u v) Q E ⟨h, g, dr, tk, os⟩ := by
 have l1 : it < h.objs.size := Heap.lt_size hit
 have hit₁ := Heap.get?_push_of_some (tupO [u, v] 0) hit
 have ht₁ : (h.push (tupO [u, v] 0)).get? h.objs.size = some (tupO [u, v] 0) := Heap.get?_push_size _ rfl
 have k₁ : ∀ b o, h.get? b = some o → (h.push (tupO [u, v] 0)).get? b = some o := fun b o e => Heap.get?_push_of_some _ e
 unfold Builtin.Dict_items.pairFromOwner
 refine wpAny_bind (wpAny_newTuple ?_)
 show wpAny _ _ (Builtin.Dict_items.ownedTupleIsFree (.ref it) >>= _) _ _ ⟨h.push (tupO [u, v] 0), g, dr, tk, os⟩
 generalize h.push (tupO [u, v] 0) = h₁ at *
 refine wpAny_bind ?_
 unfold Builtin.Dict_items.ownedTupleIsFree
 rcases hx with ⟨rfl, rfl⟩ | ⟨a, oa, rfl, ha, hai⟩
 ·refine wpAny_bind (wpAny_field hit₁ rfl (x := .none) rfl (wpAny_pure ?_))
  dsimp only [if_true]
  refine wpAny_bind (wpAny_field hit₁ rfl (x := p) rfl ?_)
  refine wpAny_bind (wpAny_field hit₁ rfl (x := q) rfl ?_)
  refine wpAny_bind (wpAny_setField_rec hit₁ (by simp) fun h₃ e₃ s₃ => ?_)
  refine wpAny_bind (wpAny_setField_rec e₃ (by simp) fun h₄ e₄ s₄ => ?_)
  refine wpAny_bind (wpAny_setField_rec e₄ (by simp) fun h₅ e₅ s₅ => ?_)
  refine wpAny_bind (wpAny_setField_rec e₅ (by simp) fun h₆ e₆ s₆ => ?_)
  have k : ∀ b o, b ≠ it → h₁.get? b = some o → h₆.get? b = some o := fun b o n e => s₆.extBut b o n (s₅.extBut b o n (s₄.extBut b o n (s₃.extBut b o n e)))
  have n : h.objs.size ≠ it := Nat.ne_of_gt l1
  exact wpAny_bind (wpAny_letGo (wpAny_pure (hQ h₆ ⟨_, _, _, _, e₆, .inr ⟨_, _, rfl, k _ _ n ht₁, n⟩⟩ (k _ _ n ht₁) fun b o n e => k b o n (k₁ b o e))))
 ·refine wpAny_bind (wpAny_field hit₁ rfl (x := rawInt a) rfl ?_)
  show wpAny _ _ (loadIfAlive ((a : Int).toNat) >>= _) _ _ _
  rw [Int.toNat_natCast]
  refine wpAny_bind (kdx_alive (k₁ _ _ ha) ?_)
  dsimp only [Option.isNone_some, Bool.false_eq_true, if_false]
  refine wpAny_bind (wpAny_field hit₁ rfl (x := .bool f) rfl ?_)
  cases f with
  | true =>
   rw [if_neg (show ¬ ((Value.bool true != Value.bool true) = true) from Bool.false_ne_true)]
   refine wpAny_pure ?_
   simp only [Bool.false_eq_true, if_false]
   exact wpAny_pure (hQ _ ⟨_, _, _, _, hit₁, .inr ⟨a, _, rfl, k₁ _ _ ha, hai⟩⟩ ht₁ fun b o n e => k₁ b o e)
  | false =>
   rw [if_pos (show (Value.bool false != Value.bool true) = true from rfl)]
   refine wpAny_bind (wpAny_setField_rec hit₁ (by simp) fun h₃ e₃ s₃ => ?_)
   refine wpAny_pure ?_
   dsimp only [Bool.false_eq_true, if_false]
   exact wpAny_pure (hQ _ ⟨_, _, _, _, e₃, .inr ⟨a, _, rfl, s₃.extBut _ _ hai (k₁ _ _ ha), hai⟩⟩ (s₃.extBut _ _ (Nat.ne_of_gt l1) ht₁) fun b o n e => s₃.extBut b o n (k₁ b o e))
theorem it_head {it d : Addr} {x : Value} {f : Bool} {n ep i : Nat} {p q : Value} {es : List DictEntry} {Q : Option Value → Shared → Prop} (hit : h.get? it = some (itO d x f i n ep p q)) (hd : h.get? d = some (dcO es ep)) (hn : n = es.length)
  (hx : (x = .none ∧ f = false) ∨ ∃ (a : Addr) (o : Obj), x = rawInt a ∧ h.get? a = some o ∧ a ≠ it)
  (hs : ∀ e a h', es[i]? = some e → h.get? a = none → DitAt h' it d (i + 1) es.length ep → h'.get? a = some (tupO [e.key, e.val] 0) → (∀ b o, b ≠ it → h.get? b = some o → h'.get? b = some o) → Q (some (.ref a)) ⟨h', g, dr, tk, os⟩)
  (he : es[i]? = none → A.handled = none ∧ ∀ h', (∀ b o, b ≠ it → h.get? b = some o → h'.get? b = some o) → Q none ⟨h', g, dr, tk, os⟩) :
  wpAny (model prog w) A (pyNext (.ref it)) Q E ⟨h, g, dr, tk, os⟩ := by
 have hT : Shared.TypeIs ⟨h, g, dr, tk, os⟩ (.ref it) "dict_itemiterator" := ⟨_, hit, rfl⟩
 subst hn
 unfold pyNext
 refine wpAny_bind (wpAny_attempt (wpAny_callSpecial?_slot (name := Str.ofString "__next__") hT PySem.F.slot_dict_itemiterator_next
  (wpAny_call_entry PySem.F.slot_dict_itemiterator_next hT PySem.F.entry_dict_itemiterator_next ?_ (PySem.F.args_dict_itemiterator_next_1 _))))
 refine wpAny_bind (wpAny_pure ?_)
 refine wpAny_bind ?_
 refine wpAny_bind ?_
 first | refine wpAny_bind (wpAny_typeNameOfWhole_itemiter hT (wpAny_pure ?_)) | refine wpAny_bind (wpAny_typeNameOf_itemiter hT (wpAny_pure ?_))
 refine wpAny_bind (wpAny_fieldsOf hit rfl ?_)
 rw [if_pos (show Builtin.Dict_items.ownsTuple "dict_itemiterator" = true from by decide)]
 show wpAny _ _ (if (Value.ref d == Value.none) = true then _ else _) _ _ _
 rw [if_neg (show ¬ ((Value.ref d == Value.none) = true) from Bool.false_ne_true)]
 refine wpAny_bind (wpAny_pure ?_)
 refine wpAny_bind (wpAny_dictEntries hd rfl ?_)
 rw [if_neg (by simp)]
 refine wpAny_bind (wpAny_pure ?_)
 refine wpAny_bind (wpAny_dictEpoch hd rfl ?_)
 rw [if_neg (by simp)]
 refine wpAny_pure ?_
 dsimp only
 rw [if_neg (show ¬ ((i : Int) < 0) by grind), Int.toNat_natCast, List.getElem?_toArray]
 rcases hi : es[i]? with _ | e
 ·obtain ⟨hh, he⟩ := he hi
  refine wpAny_bind ?_
  first | refine wpAny_bind (wpAny_typeNameOfWhole_itemiter hT (wpAny_pure ?_)) | refine wpAny_bind (wpAny_typeNameOf_itemiter hT (wpAny_pure ?_))
  show wpAny _ _ (setField (.ref it) 2 .none >>= _) _ _ _
  refine wpAny_bind (wpAny_setField hit rfl (by simp) ?_)
  show wpAny _ _ (newExc (.type "StopIteration") [] >>= _) _ _ _
  refine wpAny_bind ?_
  dsimp only [newExc, newTuple]
  refine wpAny_bind (wpAny_newObj_type ?_ (by size_fits))
  refine wpAny_bind (m := firstArgMember _ _) (wpAny_of_eq (a := Value.none) (by first | rfl | (dsimp only [firstArgMember]; rfl)) ?_)
  refine wpAny_newObj_type ?_ (by size_fits)
  dsimp only [raiseNew]
  refine wpAny_bind (wpAny_handled ?_)
  rw [show A.in1.handled = none from hh]
  refine wpAny_bind (wpAny_pure (wpAny_throw ?_))
  refine wpAny_bind (wpAny_isInstance (T := "StopIteration") (b := true) ⟨_, Heap.get?_push_size _ rfl, rfl⟩ isSubtype_stop ?_)
  exact wpAny_pure (he _ (((Heap.SameBut.update ..).extBut.push _).push _))
 ·refine wpAny_bind ?_
  first | refine wpAny_bind (wpAny_typeNameOfWhole_itemiter hT (wpAny_pure ?_)) | refine wpAny_bind (wpAny_typeNameOf_itemiter hT (wpAny_pure ?_))
  refine wpAny_bind (wpAny_isOneOf_itemiter hT ?_)
  show wpAny _ _ (setField (.ref it) 3 (rawInt ((i : Int) + 1)) >>= _) _ _ ⟨h, g, dr, tk, os⟩
  refine wpAny_bind (wpAny_setField_rec hit (by simp) fun h₁ e₁ s₁ => ?_)
  replace s₁ : Heap.SameBut it h h₁ := s₁
  replace e₁ : h₁.get? it = some (itO d x f (i + 1) es.length ep p q) := by
   obtain z : ((i + 1 : Nat) : Int) = (i : Int) + 1 := by grind
   unfold itO; rw [z]; simpa [rawInt] using e₁
  have hT₁ : Shared.TypeIs ⟨h₁, g, dr, tk, os⟩ (.ref it) "dict_itemiterator" := ⟨_, e₁, rfl⟩
  refine wpAny_bind (wpAny_holding ?_)
  refine wpAny_bind (wpAny_isOneOf_itemiter hT₁ ?_)
  refine wpAny_bind (wpAny_isOneOf_itemiter hT₁ ?_)
  obtain hx₁ : (x = .none ∧ f = false) ∨ ∃ (a : Addr) (o : Obj), x = rawInt a ∧ h₁.get? a = some o ∧ a ≠ it := by
   rcases hx with hx | ⟨a, o, hx, ha, hn⟩
   ·exact .inl hx
   ·exact .inr ⟨a, o, hx, s₁.extBut a o hn ha, hn⟩
  obtain hz : h.get? h₁.objs.size = none := by
   cases z : h.get? h₁.objs.size with
   | none => rfl
   | some o => exact absurd (Heap.lt_size z) (by rw [s₁.1]; exact Nat.lt_irrefl _)
  exact it_free e₁ hx₁ fun h' r t k => wpAny_pure ⟨_, rfl, wpAny_pure (hs e _ h' hi hz r t fun b o n q => k b o n (s₁.extBut b o n q))⟩
noncomputable def TupsN (h h' : Heap) : List DictEntry → List Value → Prop
 | [], vs => vs = []
 | e :: es, vs => ∃ t r, vs = .ref t :: r ∧ h.get? t = none ∧ h'.get? t = some (tupO [e.key, e.val] 0) ∧ TupsN h h' es r
theorem TupsN.from {h h₁ h' : Heap} (k : ∀ t, h₁.get? t = none → h.get? t = none) : ∀ {es : List DictEntry} {vs : List Value}, TupsN h₁ h' es vs → TupsN h h' es vs
 | [], _, x => x
 | _ :: _, _, ⟨t, r, e, a, b, x⟩ => ⟨t, r, e, k t a, b, TupsN.from k x⟩
theorem it_loop {S I d : Addr} {es : List DictEntry} {ep : Nat} {res : Value} (hh : A.handled = none) (hSI : S ≠ I) (hSd : d ≠ S) (hId : d ≠ I) {R : Result → Shared → Prop} :
  ∀ (l : List DictEntry) (i : Nat) (h : Heap) (acc : List Value) (c : Nat), es.drop i = l → DitAt h I d i es.length ep → h.get? d = some (dcO es ep) → h.get? S = some (listO acc c) → acc.length + l.length ≤ 100 →
   (∀ h' vs c', (∀ b o, b ≠ S → b ≠ I → h.get? b = some o → h'.get? b = some o) → h'.get? S = some (listO (acc ++ vs) c') → TupsN h h' l vs → R (.ok (.ret res)) ⟨h', g, dr, tk, os⟩) →
   codeAny (model prog w) A (.builtin "list.extend.loop" ⟨[.ref S, .ref I, res], []⟩) R ⟨h, g, dr, tk, os⟩ := by
 intro l
 induction l with
 | nil =>
  intro i h acc c hl hi hd hS hn hR
  obtain hx : es[i]? = none := List.getElem?_eq_none (List.drop_eq_nil_iff.mp hl)
  refine cutG fun P_ hP_ => ?_
  obtain ⟨x, f, p, q, hit, hx'⟩ := hi
  refine hP_ ?_
  clear hP_ P_
  refine codeAny_builtin PySem.F.entry_extend_loop ?_
  rw [Around.under_plainId PySem.F.plain_extend_loop _]
  show wpAny _ A.in1 (pyNext (.ref I) >>= _) _ _ _
  refine wpAny_bind (it_head hit hd rfl hx' (fun e a h' q => by exact no_some (hx.symm.trans q)) fun o_ => ⟨hh, fun h' k => ?_⟩)
  exact wpAny_pure (hR h' [] c (fun b o o_ n e => k b o n e) (by rw [List.append_nil]; exact k _ _ hSI hS) rfl)
 | cons e l ih =>
  intro i h acc c hl hi hd hS hn hR
  have hx : es[i]? = some e := by rw [← List.head?_drop, hl]; rfl
  obtain hl' : es.drop (i + 1) = l := by rw [← List.tail_drop, hl]; rfl
  refine cutG fun P_ hP_ => ?_
  obtain ⟨x, f, p, q, hit, hx'⟩ := hi
  refine hP_ ?_
  clear hP_ P_
  refine codeAny_builtin PySem.F.entry_extend_loop ?_
  rw [Around.under_plainId PySem.F.plain_extend_loop _]
  show wpAny _ A.in1 (pyNext (.ref I) >>= _) _ _ _
  refine wpAny_bind (it_head hit hd rfl hx' (fun e' a h' q hn' hi' ht k => ?_) fun q => by exact no_some (q.symm.trans hx))
  cases hx.symm.trans q
  obtain hS' := k _ _ hSI hS
  have up : ∀ b o, b ≠ S → h'.get? b = some o → (h'.update S (Obj.mapSeq (·.push (Value.ref a)))).get? b = some o := fun b o n e => (Heap.get?_update_other _ _ (Ne.symm n)).trans e
  have hI' : DitAt (h'.update S (Obj.mapSeq (·.push (Value.ref a)))) I d (i + 1) es.length ep := by
   refine cutG fun P_ hP_ => ?_
   obtain ⟨x, f, p, q, hit, hx'⟩ := hi'
   refine hP_ ?_
   clear hP_ P_
   refine ⟨x, f, p, q, up _ _ (Ne.symm hSI) hit, hx'.imp id fun ⟨b, o, e1, e2, e3⟩ => ?_⟩
   by_cases hb : b = S
   ·exact ⟨b, _, e1, by rw [hb]; exact Heap.get?_update_self _ hS' rfl, e3⟩
   ·exact ⟨b, o, e1, up _ _ hb e2, e3⟩
  have haS : a ≠ S := fun z => by rw [z, hS] at hn'; cases hn'
  obtain haI : a ≠ I := fun z => by rw [z, hit] at hn'; cases hn'
  show wpAny _ A.in1 (updateSeq S (·.push (Value.ref a)) >>= _) _ _ _
  refine wpAny_bind ?_
  obtain hz : acc.length + 1 ≤ 100 := by simp only [List.length_cons] at hn; grind
  refine wpAny_updateSeq hS' rfl (wpAny_pure ⟨plainId_quiet PySem.F.plain_extend_loop _, ?_⟩) (by show acc.length ≤ sizeLine; simp only [sizeLine_eq]; grind) (by show (acc.toArray.push (Value.ref a)).size ≤ sizeLine + 1; simp only [Array.size_push, List.size_toArray, sizeLine_eq]; grind)
  obtain ⟨c₁, hS₁⟩ : ∃ c₁, (h'.update S (Obj.mapSeq (·.push (Value.ref a)))).get? S = some (listO (acc ++ [.ref a]) c₁) := by
   rw [Heap.get?_update_self _ hS' rfl]
   simp only [Obj.mapSeq, List.push_toArray]
   exact ⟨_, rfl⟩
  refine ih (i + 1) _ (acc ++ [.ref a]) _ hl' hI' (up _ _ hSd (k _ _ hId hd)) hS₁ (by simp only [List.length_append, List.length_cons, List.length_nil] at hn ⊢; grind) fun h₂ vs c' k₂ hS₂ T => ?_
  ·refine hR h₂ (.ref a :: vs) c' (fun b o n1 n2 e => k₂ b o n1 n2 (up b o n1 (k b o n2 e))) (by rw [hS₂, List.append_assoc]; rfl) ⟨a, vs, rfl, hn', k₂ _ _ haS haI (up _ _ haS ht), T.from fun t ht => ?_⟩
   cases z : h.get? t with
   | none => rfl
   | some o =>
    exfalso
    by_cases t1 : t = S
    ·rw [t1, Heap.get?_update_self _ hS' rfl] at ht; cases ht
    by_cases t2 : t = I
    ·refine cutG fun P_ hP_ => ?_
     obtain ⟨x, f, p, q, hit, _⟩ := hI'
     refine hP_ ?_
     clear hP_ P_
     rw [t2, hit] at ht; cases ht
    rw [up _ _ t1 (k _ _ t2 z)] at ht; cases ht
theorem TupsN.items {s : Shared} {h : Heap} : ∀ {es : List DictEntry} {as : List Addr} {vs : List Value}, es.map (fun e => (e.key, e.val)) = as.map (fun a => (.ref a, .none)) → TupsN s.heap h es vs → TupsAt s h as vs
 | [], [], _, _, x => x
 | _ :: _, [], _, q, _ => by cases q
 | [], _ :: _, _, q, _ => by cases q
 | e :: es, a :: as, vs, q, ⟨t, r, e0, e1, e2, x⟩ => by
  simp only [List.map_cons, List.cons.injEq, Prod.mk.injEq] at q
  exact ⟨t, r, e0, e1, by rw [e2, q.1.1, q.1.2], x.items q.2⟩
theorem it_extend {S r d : Addr} {es : List DictEntry} {ep c : Nat} {res : Value} (hh : A.handled = none) (hd : h.get? d = some (dcO es ep)) (hr : h.get? r = some ⟨.type "dict_items", none, .fields ⟨[.ref d]⟩, #[]⟩) (hS : h.get? S = some (listO [] c)) (hSr : S ≠ r) (hSd : d ≠ S) (hn : es.length ≤ 100) {R : Result → Shared → Prop}
  (hR : ∀ h' vs c', (∀ b o, b ≠ S → h.get? b = some o → h'.get? b = some o) → h'.get? S = some (listO vs c') → TupsN h h' es vs → R (.ok (.ret res)) ⟨h', g, dr, tk, os⟩) :
  wpAny (model prog w) A.in1 (Builtin.List.listExtendWith (.ref S) (.ref r) res)
   (fun fin s' => match fin with | .done f => R (.ok f) s' | .again c' => c'.quiet = true ∧ codeAny (model prog w) A c' R s') (fun e s' => R (.error e) s') ⟨h, g, dr, tk, os⟩ := by
 obtain hT : Shared.TypeIs ⟨h, g, dr, tk, os⟩ (.ref r) "dict_items" := ⟨_, hr, rfl⟩
 obtain nI : ∀ {b : Addr} {o : Obj}, h.get? b = some o → b ≠ h.objs.size := fun e => Nat.ne_of_lt (Heap.lt_size e)
 have key : ∀ (h₁ : Heap) (c₁ : Nat), (∀ b o, b ≠ S → (h.push (itO d .none false 0 es.length ep .none .none)).get? b = some o → h₁.get? b = some o) → (∀ b, b ≠ S → b ≠ h.objs.size → h₁.get? b = none → h.get? b = none) →
   h₁.get? S = some (listO [] c₁) → codeAny (model prog w) A (.builtin "list.extend.loop" ⟨[.ref S, .ref h.objs.size, res], []⟩) R ⟨h₁, g, dr, tk, os⟩ := by
  intro h₁ c₁ k kn hS₁
  obtain hI := k _ _ (nI hS).symm (Heap.get?_push_size _ rfl)
  refine it_loop hh (nI hS) hSd (nI hd) es 0 h₁ [] c₁ rfl ⟨_, _, _, _, hI, .inl ⟨rfl, rfl⟩⟩ (k _ _ hSd (Heap.get?_push_of_some _ hd)) hS₁ (by simpa using hn) fun h' vs c' k' hS' T => ?_
  refine hR h' vs c' (fun b o n e => k' b o n (nI e) (k b o n (Heap.get?_push_of_some _ e))) hS' (T.from fun t ht => kn t (fun z => by rw [z, hS₁] at ht; cases ht) (fun z => by rw [z, hI] at ht; cases ht) ht)
 unfold Builtin.List.listExtendWith
 refine wpAny_bind (wpAny_typeOf (T := "dict_items") hT ?_)
 obtain h1 : Builtin.List.listSameRef (.ref S) (.ref r) = false := by simp [Builtin.List.listSameRef, hSr]
 obtain h2 : (Value.type "dict_items" == Value.type "list") = false := by decide
 obtain h3 : (Value.type "dict_items" == Value.type "tuple") = false := by decide
 simp only [h1, h2, h3, Bool.or_false, Bool.false_eq_true, if_false]
 refine wpAny_bind ?_
 refine wpAny_pyIter_slot hT F.slot_dict_items_iter (wpAny_call_entry F.slot_dict_items_iter hT F.entry_dict_items_iter ?_ (F.args_dict_items_iter_1 _))
 unfold Builtin.«dict_items.__iter__»
 refine wpAny_bind (wpAny_pure ?_)
 refine wpAny_bind ?_
 unfold Builtin.Dict_items.dictOf
 refine wpAny_bind (wpAny_field hr rfl (x := .ref d) rfl (wpAny_pure ?_))
 refine wpAny_bind ?_
 unfold Builtin.Dict_items.newIterator
 refine wpAny_bind (wpAny_dictEntries hd rfl ?_)
 refine wpAny_bind (wpAny_dictEpoch hd rfl ?_)
 simp only [show Builtin.Dict_items.ownsTuple "dict_itemiterator" = true from by decide, if_true]
 refine wpAny_newObj_type (wpAny_pure ⟨_, rfl, "dict_itemiterator", _, ⟨_, Heap.get?_push_size _ rfl, rfl⟩, F.slot_dict_itemiterator_next.lookup, ?_⟩)
  (by simp only [sizeOk, Builtin.Dict_items.ownedTupleFields, List.size_toArray, List.length_append, List.length_cons, List.length_nil, sizeLine_eq]; grind)
 show wpAny _ _ _ _ _ ⟨h.push (itO d .none false 0 es.length ep .none .none), g, dr, tk, os⟩
 have hS₁ := Heap.get?_push_of_some (itO d .none false 0 es.length ep .none .none) hS
 obtain hr₁ := Heap.get?_push_of_some (itO d .none false 0 es.length ep .none .none) hr
 have kn : ∀ b, b ≠ h.objs.size → (h.push (itO d .none false 0 es.length ep .none .none)).get? b = none → h.get? b = none := fun b o_ e => by
  cases z : h.get? b with
  | none => rfl
  | some o => rw [Heap.get?_push_of_some _ z] at e; cases e
 refine wpAny_bind (wpAny_holding (kdx_hint ⟨_, hr₁, rfl⟩ ?_))
 refine wpAny_ite_split (fun o_ => ?_) (fun o_ => wpAny_pure ⟨plainId_quiet PySem.F.plain_extend_loop _, key _ c (fun b o o_ e => e) (fun b o_ => kn b) hS₁⟩)
 refine wpAny_bind (wpAny_rule ?_)
 refine wpAny_bind ?_
 show wpAny _ _ (updateSeq S (·.push .none) >>= fun o_ => updateSeq S (·.pop)) _ _ _
 refine wpAny_bind (wpAny_updateSeq hS₁ rfl ?_)
 obtain hS₂ := Heap.get?_update_self (Obj.mapSeq (·.push Value.none)) hS₁ rfl
 refine wpAny_updateSeq (hz := by seq_fits) hS₂ rfl ?_
 obtain hS₃ := Heap.get?_update_self (Obj.mapSeq (·.pop)) hS₂ rfl
 have oth : ∀ b, b ≠ S → (((h.push (itO d .none false 0 es.length ep .none .none)).update S (Obj.mapSeq (·.push Value.none))).update S (Obj.mapSeq (·.pop))).get? b = (h.push (itO d .none false 0 es.length ep .none .none)).get? b := fun b n =>
  (Heap.get?_update_other _ _ (Ne.symm n)).trans (Heap.get?_update_other _ _ (Ne.symm n))
 exact wpAny_pure ⟨plainId_quiet PySem.F.plain_extend_loop _, key _ _ (fun b o n e => (oth b n).trans e) (fun b n m e => kn b m ((oth b n).symm.trans e)) hS₃⟩
end
theorem items_call {prog : Program} {w : World} {A : Around} {E : Value → Shared → Prop} {Q : Value → Shared → Prop} {s : Shared} {d r : Addr} {es : List DictEntry} {as : List Addr} {ep : Nat} (hh : A.handled = none) (hn : es.length ≤ 100) (he : es.map (fun e => (e.key, e.val)) = as.map (fun a => (.ref a, .none)))
  (hd : s.heap.get? d = some (dcO es ep)) (hr : s.heap.get? r = some ⟨.type "dict_items", none, .fields ⟨[.ref d]⟩, #[]⟩)
  (hQ : ∀ v s', ItemsPost s as v s' → Q v s') : wpAny (model prog w) A (call (.type "list") [.ref r]) Q E s := by
 obtain ⟨h, g, dr, tk, os⟩ := s
 refine callType_codes (Q₁ := fun obj s₁ => obj = .ref h.objs.size ∧ s₁ = ⟨h.push (listO [] 0), g, dr, tk, os⟩) PySem.F.called_list (PySem.F.typeCall_list_1 _) PySem.F.entry_list_init
  (code_list_new _ ⟨rfl, rfl⟩) fun obj s₁ h₁ => ?_
 obtain ⟨rfl, rfl⟩ := h₁
 obtain hS : (h.push (listO [] 0)).get? h.objs.size = some (listO [] 0) := Heap.get?_push_size _ rfl
 obtain nS : ∀ {b : Addr} {o : Obj}, h.get? b = some o → b ≠ h.objs.size := fun e => Nat.ne_of_lt (Heap.lt_size e)
 obtain hz : h.get? h.objs.size = none := by
  cases z : h.get? h.objs.size with
  | none => rfl
  | some o => exact absurd rfl (nS z)
 refine ⟨⟨_, hS, rfl⟩, PySem.F.args_list_init_2 _ _, ?_⟩
 show wpAny _ _ (do let old ← Builtin.List.listItems (.ref h.objs.size); Builtin.List.listUpdate (.ref h.objs.size) (fun o_ => #[]); letGo old.toList.reverse; Builtin.List.listExtendWith (.ref h.objs.size) (.ref r) .none) _ _ _
 refine wpAny_bind ?_
 unfold Builtin.List.listItems
 refine wpAny_bind (wpAny_seqItems hS rfl (wpAny_pure ?_))
 show wpAny _ _ (updateSeq h.objs.size (fun o_ => #[]) >>= fun o_ => letGo (#[] : Array Value).toList.reverse >>= fun o_ => Builtin.List.listExtendWith (.ref h.objs.size) (.ref r) .none) _ _ _
 refine wpAny_bind (wpAny_updateSeq hS rfl ?_)
 obtain hS₂ := Heap.get?_update_self (Obj.mapSeq (fun o_ => (#[] : Array Value))) hS rfl
 obtain oth : ∀ b, b ≠ h.objs.size → ((h.push (listO [] 0)).update h.objs.size (Obj.mapSeq (fun o_ => (#[] : Array Value)))).get? b = (h.push (listO [] 0)).get? b := fun b n => Heap.get?_update_other _ _ (Ne.symm n)
 have up : ∀ b o, h.get? b = some o → ((h.push (listO [] 0)).update h.objs.size (Obj.mapSeq (fun o_ => (#[] : Array Value)))).get? b = some o := fun b o e => (oth b (nS e)).trans (Heap.get?_push_of_some _ e)
 refine wpAny_bind (wpAny_letGo ?_)
 refine it_extend (A := A.in1) hh (up _ _ hd) (up _ _ hr) hS₂ (nS hr).symm (nS hd) hn fun h' vs c' k hS' T => ?_
 refine ⟨rfl, hQ _ _ ⟨_, vs, c', h', tk, rfl, rfl, fun b o e => k b o (nS e) (up b o e), hz, hS', (T.from fun t ht => ?_).items he⟩⟩
 cases z : h.get? t with
 | none => rfl
 | some o => rw [up _ _ z] at ht; cases ht
end Mine
end
section
open PySem PySem.W PyProof.Rows PySem.W.X
namespace Mine
open PySem.Calls
namespace DFK
noncomputable abbrev bnd : Obj := { cls := .type "builtin_function_or_method", data := .fields #[.builtin "dict.fromkeys", .type "dict"] }
theorem ty : typeOf (.builtin "dict.fromkeys") = pure (.type "classmethod_descriptor") := by show builtinType _ = _; rw [builtinType_eq_fast]; kernel_rfl
theorem entry1 : entryFor table "dict.fromkeys" = some Builtin.«dict.fromkeys» := entryFor_of_tree (by kernel_rfl)
theorem entry2 : entryFor table "dict.fromkeys.loop" = some Builtin.«dict.fromkeys.loop» := entryFor_of_tree (by kernel_rfl)
theorem quiet1 {as : Args} : (Code.builtin "dict.fromkeys" as).quiet = true := Code.quiet_builtin _ (by decide +kernel)
theorem quiet2 {as : Args} : (Code.builtin "dict.fromkeys.loop" as).quiet = true := Code.quiet_builtin _ (by decide +kernel)
theorem isT : isType (.type "dict") = pure true := by first | rfl | kernel_rfl | (unfold isType; rw [isSubtype_type]; kernel_rfl)
theorem owner : (kfb_private% "ownerAndName") "dict.fromkeys" = ("dict", "fromkeys") := by first | decide +kernel | kernel_rfl
theorem sub : isSubtype (.type "dict") (.type "dict") = pure true := by rw [isSubtype_type]; kernel_rfl
theorem found : findCls [] (.type "dict") (.type "type") (PySem.Str.ofString "fromkeys") = some (.get (.builtin "classmethod_descriptor.__get__") (.builtin "dict.fromkeys") .none (.type "dict")) := by first | rfl | kernel_rfl | decide +kernel
theorem check {v : Value} : checkBoundCall "dict.fromkeys" ⟨[.type "dict", v], []⟩ = pure () := by first | kernel_rfl | rfl
section
variable {prog : Program} {w : World} {M : Model} {A : Around} {E : Value → Shared → Prop} {s : Shared}
theorem runGet {P : Fin → Shared → Prop} (h : P (.done (.ret (.ref s.heap.objs.size))) { s with heap := s.heap.push bnd }) :
  wpAny M A (Builtin.«classmethod_descriptor.__get__» ⟨[.builtin "dict.fromkeys", .none, .type "dict"], []⟩) P E s := by
 unfold Builtin.«classmethod_descriptor.__get__»
 refine wpAny_bind (wpAny_of_eq (a := (.builtin "dict.fromkeys", none, some (.type "dict"))) (by first | rfl | kernel_rfl) ?_)
 dsimp only [owner]
 refine wpAny_bind (wpAny_of_eq (a := .type "dict") rfl (wpAny_bind (wpAny_of_eq (a := true) isT ?_)))
 refine KFB.if_not rfl (wpAny_bind (wpAny_of_eq (a := true) sub (KFB.if_not rfl ?_)))
 exact wpAny_bind (wpAny_newObj_type (wpAny_pure h))
set_option maxRecDepth 100000 in
theorem getm {pl : Sem Bool} {Q : Value × List Value → Shared → Prop} (h : Q (.ref s.heap.objs.size, []) { s with heap := s.heap.push bnd, toks := s.toks + 1 }) :
  wpAny (model prog w) A (getMethod (.type "dict") (PySem.Str.ofString "fromkeys") pl) Q E s := by
 have X : Frag.In [] s.heap := fun a o e => by cases e
 obtain ht : typeOf (.type "dict") = pure (.type "type") := by first | rfl | kernel_rfl
 obtain L0 : Looks (model prog w) s.heap (typeOf (.type "dict")) (.type "type") := Looks.of_pure ht
 obtain LO : Looks (model prog w) s.heap (opaqueClassAbove (.type "dict")) none := Looks.of_pure (by unfold opaqueClassAbove; dsimp only; rw [show Manifest.isStub "dict" = false by decide +kernel]; rfl)
 unfold getMethod specialOf
 refine wpAny_bind (wpAny_bind (L0.here ((looks_findIn X type_tga).here ?_)))
 dsimp only
 rw [if_pos canon_tga]
 refine wpAny_bind (wpAny_mono (Q := fun v => Q (v, [])) (E := E) ?_ (fun o_ o_ z => wpAny_pure z) fun o_ o_ z => z)
 refine cls_open X LO L0 type_tga (looks_hook X (r := none) (by rfl)) (by show subIn [] _ _ = _; rfl) found ?_
 show wpAny _ _ (holding [.builtin "dict.fromkeys"] (call (.builtin "classmethod_descriptor.__get__") [.builtin "dict.fromkeys", .none, .type "dict"]) >>= fun v => ret v) _ _ _
 exact wpAny_bind (wpAny_holding (wpAny_call_entry KFB.slot_get ty KFB.entry_get (runGet ⟨_, rfl, wpAny_pure (wpAny_pure h)⟩) (KFB.args_get _ _ _)))
theorem looksKeeper {h : Heap} {x : Addr} (ho : h.get? x = some bnd) : Looks M h (keeperOf (.ref x)) .machine := fun A Q E s' k q => by
 unfold keeperOf
 refine wpAny_bind (wpAny_load (k _ _ ho) ?_)
 exact wpAny_pure q
set_option maxRecDepth 100000 in
theorem callB {x : Addr} {v : Value} {Q : Value → Shared → Prop} (ho : s.heap.get? x = some bnd)
  (h : codeAny (model prog w) A (.builtin "dict.fromkeys" ⟨[.type "dict", v], []⟩) (wants Q E) s) : wpAny (model prog w) A (call (.ref x) [v]) Q E s := by
 refine wpAny_call (codeAny_of_tree ?_)
 show wpAny _ A.in1 (callAny (.ref x) ⟨[v], []⟩) _ _ s
 dsimp only [callAny]
 refine wpAny_bind (wpAny_load ho ?_)
 dsimp only
 refine KFB.if_so (by decide) (wpAny_bind (wpAny_of_eq (a := ()) check (wpAny_bind (wpAny_pure (wpAny_pure ⟨quiet1, ?_⟩)))))
 exact h
theorem cu (a : Args) : (Code.builtin "dict.fromkeys.loop" a).cUnits ≤ 100 := by
 first | (have h : (Code.builtin "dict.fromkeys.loop" a).cUnits = 1 := by kernel_rfl); grind
noncomputable def putK (acc : List (List Str)) (k : List Str) : List (List Str) := if k ∈ acc then acc else acc ++ [k]
noncomputable def dedupK (ks : List (List Str)) : List (List Str) := ks.foldl putK []
noncomputable abbrev TK (prog : Program) (w : World) : HeapKind prog w (List Str) := tupleKind (strKind prog w)
structure DSt (prog : Program) (w : World) (h : Heap) (d : Addr) (acc : List (List Str)) (as : List Addr) (xs : List (List Str × Addr × Value)) : Prop where
 dict : h.DictOfH (TK prog w) d xs
 keys : xs.map (·.1) = acc
 vals : ∀ x ∈ xs, x.2.2 = .none ∧ x.2.1 ∈ as
theorem atKey_some {xs : List (List Str × Addr × Value)} {k : List Str} : (atKey xs k).isSome = decide (k ∈ xs.map (·.1)) := by
 unfold atKey
 rw [Option.isSome_map]
 induction xs with
 | nil => rfl
 | cons x r ih =>
  rw [List.find?_cons]
  by_cases h : x.1 = k
  ·simp [h]
  ·obtain this : ¬ k = x.1 := fun e => h e.symm
   simp [h, this, ih]
theorem DSt.put {h h' : Heap} {d a : Addr} {acc : List (List Str)} {as : List Addr} {xs : List (List Str × Addr × Value)} {k : List Str} (D : DSt prog w h d acc as xs) (ha : a ∈ as) (hd : h'.DictOfH (TK prog w) d (storedH xs k a .none)) : DSt prog w h' d (putK acc k) as (storedH xs k a .none) := by
 refine ⟨hd, ?_, ?_⟩
 ·unfold storedH putK
  rw [atKey_some, D.keys]
  by_cases hk : k ∈ acc
  ·rw [if_pos (by simpa using hk), if_pos hk, List.map_map, ← D.keys]
   exact List.map_congr_left fun x o_ => by unfold Function.comp putAt; dsimp only; split <;> rfl
  ·rw [if_neg (by simpa using hk), if_neg hk, List.map_append, D.keys]; rfl
 ·intro x hx
  unfold storedH at hx
  split at hx
  ·obtain ⟨y, hy, rfl⟩ := List.mem_map.mp hx
   unfold putAt
   have := D.vals y hy
   split
   ·exact ⟨rfl, this.2⟩
   ·exact this
  ·rcases List.mem_append.mp hx with z | z
   ·exact D.vals x z
   ·rw [List.mem_singleton.mp z]; exact ⟨rfl, ha⟩
theorem loop {R : Result → Shared → Prop} {d I l : Addr} {as : List Addr} {ks : List (List Str)} (hu : A.units + 100 < cLine) (hh : A.handled = none) (hlen : as.length = ks.length) (hsz : ks.length ≤ 100) (hId : I ≠ d) (hld : l ≠ d) (hIl : I ≠ l)
  (had : ∀ a ∈ as, a ≠ d ∧ a ≠ I) : ∀ (n i : Nat) (s : Shared) (xs : List (List Str × Addr × Value)), i + n = ks.length → DSt prog w s.heap d ((ks.take i).foldl putK []) as xs → s.heap.IsListIter I l i → s.heap.IsList l (as.map Value.ref).toArray →
  (∀ (j : Nat) (k : List Str) (a : Addr), ks[j]? = some k → as[j]? = some a → (TK prog w).is s.heap k a) →
  (∀ s' xs', (∃ h tk, s' = { s with heap := h, toks := tk }) → (∀ b o, b ≠ d → b ≠ I → s.heap.get? b = some o → s'.heap.get? b = some o) → DSt prog w s'.heap d (dedupK ks) as xs' → R (.ok (.ret (.ref d))) s') →
  codeAny (model prog w) A (.builtin "dict.fromkeys.loop" ⟨[.ref d, .ref I, .none], []⟩) R s
 | 0, i, s, xs, hi, D, hit, hl, hks, hR => by
  refine codeAny_builtin entry2 ?_
  obtain hnone : (as.map Value.ref).toArray[i]? = none := by
   rw [List.getElem?_toArray, List.getElem?_eq_none]; rw [List.length_map]; grind
  refine wpAny_bind (wpAny_pyNext_list_end (items := (as.map Value.ref).toArray) (by exact hh) hit hl hnone fun h' hx => ?_)
  obtain keep : ∀ b o, b ≠ d → b ≠ I → s.heap.get? b = some o → h'.get? b = some o := fun b o o_ hb e => hx b o hb e
  refine wpAny_pure (hR _ xs ⟨h', s.toks, rfl⟩ keep ⟨?_, ?_, D.vals⟩)
  ·refine cutG fun P_ hP_ => ?_
   obtain ⟨o, es, ep, e1, e2, e3, e4, e5, e6⟩ := D.dict
   refine hP_ ?_
   clear hP_ P_
   refine ⟨o, es, ep, hx _ _ (Ne.symm hId) e1, e2, e3, e4, fun x hx' => ?_, e6⟩
   refine cutG fun P_ hP_ => ?_
   obtain ⟨o', it, n, f1, f2, f3, f4⟩ := e5 x hx'
   refine hP_ ?_
   clear hP_ P_
   exact ⟨o', it, n, hx _ _ (had _ (D.vals x hx').2).2 f1, f2, f3, f4⟩
  ·rw [D.keys, List.take_of_length_le (by grind)]; rfl
 | n + 1, i, s, xs, hi, D, hit, hl, hks, hR => by
  refine codeAny_builtin entry2 ?_
  have hik : i < ks.length := by grind
  have hia : i < as.length := by grind
  obtain hx : (as.map Value.ref).toArray[i]? = some (.ref as[i]) := by
   rw [List.getElem?_toArray, List.getElem?_map]; simp [hia]
  refine wpAny_bind (wpAny_pyNext_list_item (items := (as.map Value.ref).toArray) hit hl hx fun h₁ hit₁ hs₁ => ?_)
  dsimp only
  have D₁ : DSt prog w h₁ d ((ks.take i).foldl putK []) as xs := by
   refine cutG fun P_ hP_ => ?_
   obtain ⟨o, es, ep, e1, e2, e3, e4, e5, e6⟩ := D.dict
   refine hP_ ?_
   clear hP_ P_
   refine ⟨⟨o, es, ep, (hs₁.2 _ (Ne.symm hId)).trans e1, e2, e3, e4, fun x hx' => ?_, e6⟩, D.keys, D.vals⟩
   refine cutG fun P_ hP_ => ?_
   obtain ⟨o', it, n, f1, f2, f3, f4⟩ := e5 x hx'
   refine hP_ ?_
   clear hP_ P_
   exact ⟨o', it, n, (hs₁.2 _ (had _ (D.vals x hx').2).2).trans f1, f2, f3, f4⟩
  have hk₁ : ∀ (j : Nat) (k : List Str) (a : Addr), ks[j]? = some k → as[j]? = some a → (TK prog w).is h₁ k a := fun j k a e1 e2 => by
   refine cutG fun P_ hP_ => ?_
   obtain ⟨o', it, n, f1, f2, f3, f4⟩ := hks j k a e1 e2
   refine hP_ ?_
   clear hP_ P_
   exact ⟨o', it, n, (hs₁.2 _ (had _ (List.mem_of_getElem? e2)).2).trans f1, f2, f3, f4⟩
  obtain hl₁ : h₁.IsList l (as.map Value.ref).toArray := by
   obtain ⟨o, e1, e2⟩ := hl; exact ⟨o, (hs₁.2 _ (Ne.symm hIl)).trans e1, e2⟩
  refine wpAny_bind (wpAny_typeOf (s := { s with heap := h₁ }) (Heap.DictOfH.typeIs (s := { s with heap := h₁ }) D₁.dict) ?_)
  refine KFB.if_so (by decide) ?_
  obtain hxl : xs.length ≤ 100 := by
   obtain e1 : xs.length = (xs.map (·.1)).length := by simp
   obtain e2 : ∀ (l acc : List (List Str)), (l.foldl putK acc).length ≤ acc.length + l.length := fun l => by
    induction l with
    | nil => intro acc; simp
    | cons x r ih =>
     intro acc
     have := ih (putK acc x)
     obtain h : (putK acc x).length ≤ acc.length + 1 := by unfold putK; split <;> simp
     simp only [List.foldl_cons, List.length_cons]; grind
   rw [e1, D.keys]
   have := e2 (ks.take i) []
   rw [List.length_take] at this
   simp only [List.length_nil] at this; grind
  refine wpAny_bind (wpAny_of_eq (a := d) rfl (wpAny_bind (wpAny_holding (wpAny_dictSet_heap (knd := TK prog w) (s := { s with heap := h₁ }) (k := ks[i]) ?_ (hk₁ i ks[i] as[i] (by simp [hik]) (by simp [hia])) D₁.dict (fun h₂ hd₂ hs₂ => ?_) (by unfold sizeLine; grind)))))
  ·show A.units + _ < cLine
   obtain this : (Code.builtin "dict.fromkeys.loop" ⟨[.ref d, .ref I, .none], []⟩).cUnits ≤ 100 := cu _
   grind
  ·refine wpAny_pure ⟨quiet2, ?_⟩
   obtain ha : as[i] ∈ as := List.getElem_mem _
   refine loop hu hh hlen hsz hId hld hIl had n (i + 1) _ (storedH xs ks[i] as[i] .none) (by grind) ?_ ?_ ?_ (fun j k a e1 e2 => ?_) ?_
   ·have := D₁.put ha hd₂
    rw [List.take_add_one, List.foldl_append]
    simpa [hik] using this
   ·obtain ⟨o, e1, e2⟩ := hit₁; exact ⟨o, (hs₂.2 _ hId).trans e1, e2⟩
   ·obtain ⟨o, e1, e2⟩ := hl₁; exact ⟨o, (hs₂.2 _ hld).trans e1, e2⟩
   ·refine cutG fun P_ hP_ => ?_
    obtain ⟨o', it, n, f1, f2, f3, f4⟩ := hk₁ j k a e1 e2
    refine hP_ ?_
    clear hP_ P_
    exact ⟨o', it, n, (hs₂.2 _ (had _ (List.mem_of_getElem? e2)).1).trans f1, f2, f3, f4⟩
   ·rintro s' xs' ⟨h, tk, rfl⟩ keep D'
    refine hR _ xs' ⟨h, tk, rfl⟩ (fun b o hb1 hb2 e => keep b o hb1 hb2 ((hs₂.2 _ hb1).trans ((hs₁.2 _ hb2).trans e))) D'
noncomputable def NewDict (s : Shared) (v : Value) (s' : Shared) : Prop := ∃ d n h tk, v = .ref d ∧ s' = { s with heap := h, toks := tk } ∧ (∀ b o, s.heap.get? b = some o → h.get? b = some o) ∧ s.heap.get? d = none ∧ h.get? d = some ⟨.type "dict", none, .dict ⟨[]⟩ n, #[]⟩
theorem E1.x_fin {s₀ s : Shared} {Q : Value → Shared → Prop} {v : Value} {h' : Heap} {tk n : Nat} {d : Addr} {news : List (Addr × Obj)} (h : ∀ v s', NewDict s₀ v s' → Q v s') (D : X.Mem s₀.heap h' [] ((d, ⟨.type "dict", none, .dict ⟨[]⟩ n, #[]⟩) :: news)) (e1 : v = .ref d) (e2 : s = { s₀ with heap := h', toks := tk }) (_ : (0 : Nat) = 0) : Q v s := by
 subst e1 e2; exact h _ _ ⟨d, n, h', tk, rfl, rfl, fun b o e => D.keep b o e (Bool.or_true _), (D.nw _ (.head _)).2, (D.nw _ (.head _)).1⟩
end
open E1
set_option maxRecDepth 100000 in
set_option maxHeartbeats 8000000 in
theorem call0 {prog : Program} {w : World} {e0 e1 : Env} {l : Addr} {E : Value → Shared → Prop} {Q : Value → Shared → Prop} {s : Shared} (hQ : ∀ v s', NewDict s v s' → Q v s') :
  wpAny (model prog w) (((callerA.deeper e0).deeper e1).under (.builtin "dict.fromkeys" ⟨[.type "dict", .ref l], []⟩)) (call (.type "dict") []) Q E s := by x_run
section
variable {prog : Program} {w : World} {E : Value → Shared → Prop} {s : Shared}
theorem top {R : Result → Shared → Prop} {e0 e1 : Env} {l : Addr} {as : List Addr} {ks : List (List Str)} (hlen : as.length = ks.length) (hsz : ks.length ≤ 100) (hl : s.heap.IsList l (as.map Value.ref).toArray)
  (hks : ∀ (j : Nat) (k : List Str) (a : Addr), ks[j]? = some k → as[j]? = some a → (TK prog w).is s.heap k a) (hex : ∀ a ∈ as, ∃ o, s.heap.get? a = some o)
  (hR : ∀ s' d xs, (∃ h tk, s' = { s with heap := h, toks := tk }) → (∀ b o, s.heap.get? b = some o → s'.heap.get? b = some o) → s.heap.get? d = none → DSt prog w s'.heap d (dedupK ks) as xs → R (.ok (.ret (.ref d))) s') :
  codeAny (model prog w) ((callerA.deeper e0).deeper e1) (.builtin "dict.fromkeys" ⟨[.type "dict", .ref l], []⟩) R s := by
 refine codeAny_builtin entry1 ?_
 refine wpAny_bind (wpAny_of_eq (a := true) isT (KFB.if_not rfl ?_))
 refine wpAny_bind (wpAny_of_eq (a := true) sub (KFB.if_not rfl ?_))
 refine KFB.if_not rfl ?_
 refine wpAny_bind (wpAny_bind (wpAny_rule (wpAny_pure ?_)))
 refine wpAny_bind (wpAny_pure ?_)
 dsimp only
 refine wpAny_bind (call0 fun v s₁ hn => ?_)
 refine cutG fun P_ hP_ => ?_
 obtain ⟨d, n, h₁, tk₁, rfl, rfl, hk, hd0, hd1⟩ := hn
 refine hP_ ?_
 clear hP_ P_
 have hl₁ : h₁.IsList l (as.map Value.ref).toArray := by obtain ⟨o, e1, e2⟩ := hl; exact ⟨o, hk _ _ e1, e2⟩
 obtain hDT : Shared.TypeIs { s with heap := h₁, toks := tk₁ } (.ref d) "dict" := ⟨_, hd1, rfl⟩
 refine wpAny_holding ?_
 refine wpAny_bind (wpAny_typeOf (s := { s with heap := h₁, toks := tk₁ }) hl₁.typeIs ?_)
 refine wpAny_bind (wpAny_typeOf (s := { s with heap := h₁, toks := tk₁ }) hDT ?_)
 refine KFB.if_not (by decide) ?_
 refine wpAny_bind (wpAny_typeOf (s := { s with heap := h₁, toks := tk₁ }) hDT ?_)
 refine KFB.if_not (by decide) ?_
 refine wpAny_bind (wpAny_pyIter_list (s := { s with heap := h₁, toks := tk₁ }) hl₁ ?_)
 refine wpAny_pure ⟨quiet2, ?_⟩
 obtain hdl : d < h₁.objs.size := Heap.lt_size hd1
 obtain hll : l < h₁.objs.size := by obtain ⟨o, e1, _⟩ := hl₁; exact Heap.lt_size e1
 obtain hne : ∀ a ∈ as, a ≠ d ∧ a ≠ h₁.objs.size := fun a ha => by
  obtain ⟨o, e⟩ := hex a ha
  exact ⟨fun z => (by exact clash z hd0 e), Nat.ne_of_lt (Heap.lt_size (hk _ _ e))⟩
 refine loop (A := (callerA.deeper e0).deeper e1) (as := as) (ks := ks) (l := l) (by show callerA.units + 3 + 3 + 100 < cLine; decide) rfl hlen hsz (Nat.ne_of_gt hdl) (fun z => (by obtain ⟨o, e, _⟩ := hl; exact clash z hd0 e)) (Nat.ne_of_gt hll) hne ks.length 0 _ [] (by grind) ⟨⟨_, #[], n, Heap.get?_push_of_some _ hd1, ⟨rfl, rfl, rfl⟩, rfl, rfl, fun o_ h => (nomatch h), List.nodup_nil⟩, rfl, fun o_ h => (nomatch h)⟩ ⟨_, Heap.get?_push_size _ rfl, rfl, rfl⟩ (by obtain ⟨o, e1, e2⟩ := hl₁; exact ⟨o, Heap.get?_push_of_some _ e1, e2⟩) (fun j k a e1 e2 => ?_) ?_
 ·refine cutG fun P_ hP_ => ?_
  obtain ⟨o', it, n, f1, f2⟩ := hks j k a e1 e2
  refine hP_ ?_
  clear hP_ P_
  exact ⟨o', it, n, Heap.get?_push_of_some _ (hk _ _ f1), f2⟩
 ·rintro s' xs ⟨h, tk, rfl⟩ keep D
  refine hR _ d xs ⟨h, tk, rfl⟩ (fun b o e => keep b o (fun z => by exact clash z hd0 e) (fun z => ?_) (Heap.get?_push_of_some _ (hk b o e))) hd0 D
  have := Heap.lt_size (hk b o e)
  rw [z] at this; exact Nat.lt_irrefl _ this
end
end DFK
end Mine
end
section
namespace Mine
open PySem
section
variable {α : Type} [DecidableEq α]
noncomputable def ovS : List α → List α → List α
 | _, [] => []
 | seen, x :: r => if x ∈ seen then x :: ovS seen r else ovS (x :: seen) r
theorem ovS_s (seen : List α) (x : α) (r : List α) : ovS seen (x :: r) = if x ∈ seen then x :: ovS seen r else ovS (x :: seen) r := rfl
theorem ovS_n (seen : List α) : ovS seen [] = [] := rfl
noncomputable def fsS : List α → List α → List α
 | _, [] => []
 | seen, x :: r => if x ∈ seen then fsS seen r else x :: fsS (x :: seen) r
theorem fsS_congr : ∀ {l s s' : List α}, (∀ x, x ∈ s ↔ x ∈ s') → fsS s l = fsS s' l
 | [], _, _, _ => rfl
 | x :: r, s, s', h => by
  rw [fsS, fsS]
  by_cases q : x ∈ s
  ·rw [if_pos q, if_pos ((h x).mp q), fsS_congr h]
  ·rw [if_neg q, if_neg fun z => q ((h x).mpr z)]
   congr 1
   exact fsS_congr fun y => by rw [List.mem_cons, List.mem_cons, h y]
theorem ov_at (z : α) : ∀ (l s : List α), ((List.range l.length).filter fun k => decide (l.getD k z ∈ s ∨ l.getD k z ∈ l.take k)).map (fun k => l.getD k z) = ovS s l
 | [], _ => rfl
 | x :: r, s => by
  rw [List.length_cons, List.range_succ_eq_map, List.filter_cons, List.filter_map]
  obtain h0 : decide ((x :: r).getD 0 z ∈ s ∨ (x :: r).getD 0 z ∈ (x :: r).take 0) = decide (x ∈ s) := by simp
  have hs : ∀ s' : List α, (∀ y, y ∈ s' ↔ y = x ∨ y ∈ s) → ((List.range r.length).filter ((fun k => decide ((x :: r).getD k z ∈ s ∨ (x :: r).getD k z ∈ (x :: r).take k)) ∘ Nat.succ)).map ((fun k => (x :: r).getD k z) ∘ Nat.succ) = ovS s' r := fun s' h' => by
   rw [← ov_at z r s']
   obtain e1 : ((fun k => (x :: r).getD k z) ∘ Nat.succ) = fun k => r.getD k z := by funext k; rfl
   rw [e1]
   congr 1
   refine List.filter_congr fun k o_ => ?_
   simp only [Function.comp, Nat.succ_eq_add_one, List.getD_cons_succ, List.take_succ_cons, List.mem_cons]
   rw [decide_eq_decide, h']
   constructor
   ·rintro (h | h | h)
    ·exact .inl (.inr h)
    ·exact .inl (.inl h)
    ·exact .inr h
   ·rintro ((h | h) | h)
    ·exact .inr (.inl h)
    ·exact .inl h
    ·exact .inr (.inr h)
  rw [h0, ovS_s]
  by_cases q : x ∈ s
  ·rw [decide_eq_true q, if_pos rfl, if_pos q, List.map_cons, List.map_map, hs s fun y => ⟨fun h => .inr h, fun h => h.elim (fun z => z ▸ q) id⟩]
   rfl
  ·rw [decide_eq_false q, if_neg (by simp), if_neg q, List.map_map, hs (x :: s) fun y => List.mem_cons]
theorem fs_at {β : Type} (z : α) (g : α → β) : ∀ (l s : List α), ((List.range l.length).filter fun k => decide (¬ (l.getD k z ∈ s ∨ l.getD k z ∈ l.take k))).map (fun k => g (l.getD k z)) = (fsS s l).map g
 | [], _ => rfl
 | x :: r, s => by
  rw [List.length_cons, List.range_succ_eq_map, List.filter_cons, List.filter_map]
  obtain h0 : decide (¬ ((x :: r).getD 0 z ∈ s ∨ (x :: r).getD 0 z ∈ (x :: r).take 0)) = decide (x ∉ s) := by simp
  have hs : ∀ s' : List α, (∀ y, y ∈ s' ↔ y = x ∨ y ∈ s) → ((List.range r.length).filter ((fun k => decide (¬ ((x :: r).getD k z ∈ s ∨ (x :: r).getD k z ∈ (x :: r).take k))) ∘ Nat.succ)).map ((fun k => g ((x :: r).getD k z)) ∘ Nat.succ) = (fsS s' r).map g := fun s' h' => by
   rw [← fs_at z g r s']
   obtain e1 : ((fun k => g ((x :: r).getD k z)) ∘ Nat.succ) = fun k => g (r.getD k z) := by funext k; rfl
   rw [e1]
   congr 1
   refine List.filter_congr fun k o_ => ?_
   simp only [Function.comp, Nat.succ_eq_add_one, List.getD_cons_succ, List.take_succ_cons, List.mem_cons]
   rw [decide_eq_decide, h']
   refine not_congr ?_
   constructor
   ·rintro (h | h | h)
    ·exact .inl (.inr h)
    ·exact .inl (.inl h)
    ·exact .inr h
   ·rintro ((h | h) | h)
    ·exact .inr (.inl h)
    ·exact .inl h
    ·exact .inr (.inr h)
  rw [h0, fsS]
  by_cases q : x ∈ s
  ·rw [decide_eq_false (by simpa using q), if_neg (by simp), if_pos q, List.map_map, hs s fun y => ⟨fun h => .inr h, fun h => h.elim (fun z => z ▸ q) id⟩]
  ·rw [decide_eq_true q, if_pos rfl, if_neg q, List.map_cons, List.map_map, hs (x :: s) fun y => List.mem_cons]
   rfl
theorem erase_cons_not {y : α} : ∀ {A W : List α}, y ∉ A → A.foldl List.erase (y :: W) = y :: A.foldl List.erase W
 | [], _, _ => rfl
 | a :: A, W, h => by
  obtain hne : ¬ y = a := fun z => h (by rw [z]; exact .head _)
  rw [List.foldl_cons, List.foldl_cons, List.erase_cons_tail (by simpa using hne), erase_cons_not fun z => h (.tail _ z)]
theorem erase_cons_mem {y : α} : ∀ {A W : List α}, y ∈ A → A.foldl List.erase (y :: W) = (A.erase y).foldl List.erase W
 | a :: A, W, h => by
  by_cases q : a = y
  ·subst q
   rw [List.foldl_cons, List.erase_cons_head, List.erase_cons_head]
  ·have hm : y ∈ A := by
    rcases List.mem_cons.mp h with z | z
    ·exact absurd z.symm q
    ·exact z
   rw [List.foldl_cons, List.erase_cons_tail (by simpa using fun z => q z.symm), erase_cons_mem hm, List.erase_cons_tail (by simpa using q), List.foldl_cons]
theorem erase_nil_all : ∀ A : List α, A.foldl List.erase [] = []
 | [] => rfl
 | a :: A => by rw [List.foldl_cons, List.erase_nil]; exact erase_nil_all A
theorem erase_ov : ∀ {W A S : List α}, A.Nodup → (∀ x ∈ W, x ∈ A ∨ x ∈ S) → (∀ x ∈ A, x ∉ S) → A.foldl List.erase W = ovS S W
 | [], A, S, _, _, _ => by
  rw [ovS_n]
  exact erase_nil_all A
 | y :: W, A, S, hn, h1, h2 => by
  rw [ovS_s]
  by_cases q : y ∈ S
  ·rw [if_pos q, erase_cons_not fun z => h2 y z q, erase_ov hn (fun x hx => h1 x (.tail _ hx)) h2]
  ·obtain hy : y ∈ A := (h1 y (.head _)).resolve_right q
   rw [if_neg q, erase_cons_mem hy, erase_ov (hn.erase y) (fun x hx => ?_) (fun x hx => ?_)]
   ·by_cases e : x = y
    ·exact .inr (by rw [e]; exact .head _)
    ·rcases h1 x (.tail _ hx) with z | z
     ·exact .inl (hn.mem_erase_iff.mpr ⟨e, z⟩)
     ·exact .inr (.tail _ z)
   ·have := hn.mem_erase_iff.mp hx
    rw [List.mem_cons]
    rintro (z | z)
    ·exact this.1 z
    ·exact h2 x this.2 z
end
theorem dF_ov : ∀ {L ys ms seen : List Str}, ys.Nodup → (∀ x ∈ L, x ∈ ys ↔ x ∉ seen) → dF L ys ms = (ms ++ ovS seen L, ys.filter fun x => decide (x ∉ L))
 | [], ys, ms, seen, _, _ => by rw [dF_n, ovS_n, List.append_nil, List.filter_eq_self.mpr (by simp)]
 | x :: r, ys, ms, seen, hn, h => by
  rw [dF_s, ovS_s]
  by_cases hx : x ∈ ys
  ·obtain hs := (h x (.head _)).mp hx
   rw [if_pos hx, if_neg hs, dF_ov (hn.erase x) fun y hy => ?_, hn.erase_eq_filter, List.filter_filter]
   ·congr 1
    refine List.filter_congr fun y o_ => ?_
    rw [Bool.eq_iff_iff]
    simp [and_comm]
   ·rw [hn.mem_erase_iff, h y (.tail _ hy), List.mem_cons, not_or]
  ·obtain hs : x ∈ seen := by
    by_cases q : x ∈ seen
    ·exact q
    ·exact absurd ((h x (.head _)).mpr q) hx
   rw [if_neg hx, if_pos hs, dF_ov hn fun y hy => h y (.tail _ hy), List.append_assoc]
   congr 1
   refine List.filter_congr fun y hy => ?_
   rw [Bool.eq_iff_iff]
   simp only [decide_eq_true_eq, List.mem_cons, not_or]
   exact ⟨fun z => ⟨fun e => hx (e ▸ hy), z⟩, fun z => z.2⟩
theorem dF_all : ∀ {A W ms : List Str}, A.Nodup → (∀ x ∈ A, x ∈ W) → dF A W ms = (ms, A.foldl List.erase W)
 | [], _, _, _, _ => rfl
 | x :: r, W, ms, hn, h => by
  have hn' := List.nodup_cons.mp hn
  rw [dF_s, if_pos (h x (.head _)), List.foldl_cons, dF_all hn'.2 fun y hy => (List.mem_erase_of_ne fun (e : y = x) => hn'.1 (e ▸ hy)).mpr (h y (.tail _ hy))]
noncomputable def overF (w : List Str) : List Str := ((List.range w.length).filter fun k => decide (w.getD k "" ∈ w.take k)).map fun k => w.getD k ""
noncomputable def lostF (w : List Str) : List Str := ((List.range w.length).filter fun i => decide (w.getD (w.length - 1 - i) "" ∈ w.drop (w.length - 1 - i + 1))).map fun i => w.getD (w.length - 1 - i) ""
theorem overF_is (w : List Str) : overF w = ovS [] w := by
 rw [← ov_at ("" : Str) w []]
 unfold overF
 congr 1
 exact List.filter_congr fun k o_ => by simp
theorem lostF_is (w : List Str) : lostF w = ovS [] w.reverse := by
 rw [← overF_is]
 unfold lostF overF
 rw [List.length_reverse]
 have key : ∀ i ∈ List.range w.length, w.reverse.getD i "" = w.getD (w.length - 1 - i) "" := fun i hi => by
  have := List.mem_range.mp hi
  rw [List.getD_eq_getElem?_getD, List.getElem?_reverse this, List.getD_eq_getElem?_getD]
 obtain e1 : (List.range w.length).filter (fun i => decide (w.getD (w.length - 1 - i) "" ∈ w.drop (w.length - 1 - i + 1))) = (List.range w.length).filter fun k => decide (w.reverse.getD k "" ∈ w.reverse.take k) := by
  refine List.filter_congr fun i hi => ?_
  obtain hlt := List.mem_range.mp hi
  rw [key i hi, decide_eq_decide, List.take_reverse, List.mem_reverse, show w.length - 1 - i + 1 = w.length - i by grind]
 rw [e1]
 refine List.map_congr_left fun i hi => (key i (List.mem_filter.mp hi).1).symm
theorem diff_lost {one whole : List Str} (hn : one.Nodup) (hs : ∀ x, x ∈ one ↔ x ∈ whole) : diffF whole one = (lostF whole, []) := by
 unfold diffF
 rw [dF_ov (seen := []) hn fun x hx => ?_, lostF_is, List.nil_append]
 ·congr 1
  rw [List.filter_eq_nil_iff]
  intro x hx
  simpa using (hs x).mp hx
 ·simpa using (hs x).mpr (List.mem_reverse.mp hx)
theorem diff_over {one whole : List Str} (hn : one.Nodup) (hs : ∀ x, x ∈ one ↔ x ∈ whole) : diffF one whole = ([], overF whole) := by
 unfold diffF
 have hn' : one.reverse.Nodup := (List.reverse_perm one).nodup_iff.mpr hn
 rw [dF_all hn' fun x hx => (hs x).mp (List.mem_reverse.mp hx), overF_is, erase_ov (S := []) hn' (fun x hx => .inl (List.mem_reverse.mpr ((hs x).mpr hx))) fun o_ o_ h => by cases h]
theorem putK_fs : ∀ (l acc : List (List Str)), l.foldl DFK.putK acc = acc ++ fsS acc l
 | [], acc => by rw [fsS, List.append_nil]; rfl
 | k :: r, acc => by
  rw [List.foldl_cons, fsS]
  unfold DFK.putK
  by_cases q : k ∈ acc
  ·rw [if_pos q, if_pos q]; exact putK_fs r acc
  ·rw [if_neg q, if_neg q]
   have := putK_fs r (acc ++ [k])
   rw [show (fun acc k => if k ∈ acc then acc else acc ++ [k]) = DFK.putK from rfl, this, List.append_assoc, fsS_congr (s' := k :: acc) fun x => by simp [or_comm]]
   rfl
end Mine
end
section
open PySem PySem.W PyProof.Rows
namespace Mine
noncomputable def ordL : List (List Nat) := [[0, 1, 2], [0, 2, 1], [1, 0, 2], [1, 2, 0], [2, 0, 1], [2, 1, 0]]
noncomputable def ordR (rows : List (List Nat)) (o : List Nat) : List (List Nat) := o.map fun k => rows.getD k []
noncomputable def ordN (rows : List (List Nat)) (o : List Nat) : List (List Str) := o.map fun k => (rows.getD k []).map nm
noncomputable def dueF (rows : List (List Nat)) (o : List Nat) : List Nat := rankL (aheadF rows) (ordR rows o).flatten (left0 (ordR rows o).flatten)
structure RowsOk (rows : List (List Nat)) : Prop where
 l3 : rows.length = 3
 ok : ∀ r ∈ rows, rowOk r
noncomputable def selfL (rows : List (List Nat)) : List Nat := (List.range 6).filter fun t => ((aheadF rows).getD t 0).testBit t
theorem ordN_is (rows : List (List Nat)) (o : List Nat) : ordN rows o = (ordR rows o).map (List.map nm) := by unfold ordN ordR; rw [List.map_map]; rfl
section
variable {rows : List (List Nat)} {o : List Nat} (H : RowsOk rows)
include H
theorem h6_of : ∀ r ∈ rows, ∀ t ∈ r, t < 6 := fun r hr => (H.ok r hr).1
theorem ordR_mem (ho : o ∈ ordL) {r : List Nat} : r ∈ ordR rows o ↔ r ∈ rows := by
 obtain h1 : ∀ k ∈ o, k < 3 := (by decide : ∀ o ∈ ordL, ∀ k ∈ o, k < 3) o ho
 obtain h2 : ∀ k, k < 3 → k ∈ o := (by decide : ∀ o ∈ ordL, ∀ k, k < 3 → k ∈ o) o ho
 obtain hl := H.l3
 constructor
 ·intro h
  obtain ⟨k, hk, rfl⟩ := List.mem_map.mp h
  exact mem_getD' (by have := h1 k hk; grind)
 ·intro h
  obtain ⟨k, hk, e⟩ := List.getElem_of_mem h
  exact List.mem_map.mpr ⟨k, h2 k (by grind), by rw [List.getD_eq_getElem?_getD, List.getElem?_eq_getElem hk, Option.getD_some, e]⟩
theorem ed_ord (ho : o ∈ ordL) {p q : Nat} : Ed (ordR rows o) p q ↔ Ed rows p q := by
 unfold Ed
 simp only [ordR_mem H ho]
theorem lt_ord (ho : o ∈ ordL) {p q : Nat} : Lt (ordR rows o) p q ↔ Lt rows p q :=
 ⟨lt_congr fun o_ o_ => (ed_ord H ho).mp, lt_congr fun o_ o_ => (ed_ord H ho).mpr⟩
theorem flat_mem (ho : o ∈ ordL) {t : Nat} : t ∈ (ordR rows o).flatten ↔ t ∈ rows.flatten := by
 simp only [List.mem_flatten, ordR_mem H ho]
theorem h6_ord (ho : o ∈ ordL) : ∀ r ∈ ordR rows o, ∀ t ∈ r, t < 6 := fun r hr => h6_of H r ((ordR_mem H ho).mp hr)
theorem nr_ord (ho : o ∈ ordL) : ∀ r ∈ ordR rows o, r.Nodup := fun r hr => (H.ok r ((ordR_mem H ho).mp hr)).2
theorem bit_ord (ho : o ∈ ordL) : ∀ u t, Bit (aheadF rows) u t ↔ Lt (ordR rows o) u t := fun u t => by rw [ahead_bit (h6_of H), lt_ord H ho]
theorem c3_ordN (ho : o ∈ ordL) : c3F (c3len (ordN rows o) + 1) (ordN rows o) = (c3F (c3len (ordR rows o) + 1) (ordR rows o)).map (List.map nm) := by
 rw [ordN_is, c3len_map, c3_map (p := fun t => t < 6) nm_inj _ _ (h6_ord H ho)]
theorem self_mem {t : Nat} : t ∈ selfL rows ↔ t < 6 ∧ Lt rows t t := by
 unfold selfL
 rw [List.mem_filter, List.mem_range]
 exact and_congr_right fun o_ => ahead_bit (h6_of H)
theorem self_none (h : selfL rows = []) : ∀ t, ¬ Lt rows t t := fun t l => by
 have : t ∈ selfL rows := (self_mem H).mpr ⟨(lt_lt (h6_of H) l).1, l⟩
 rw [h] at this; cases this
theorem c3_no (h : selfL rows ≠ []) (ho : o ∈ ordL) : c3F (c3len (ordN rows o) + 1) (ordN rows o) = none := by
 obtain ⟨t, ht⟩ := List.exists_mem_of_ne_nil _ h
 rw [c3_ordN H ho, c3_refused (h6_ord H ho) ((lt_ord H ho).mpr ((self_mem H).mp ht).2) (nr_ord H ho)]; rfl
variable (hac : ∀ t, ¬ Lt rows t t)
include hac
theorem ac_ord (ho : o ∈ ordL) : ∀ t, ¬ Lt (ordR rows o) t t := fun t h => hac t ((lt_ord H ho).mp h)
theorem c3_yes (ho : o ∈ ordL) : c3F (c3len (ordN rows o) + 1) (ordN rows o) = some ((dueF rows o).map nm) := by
 rw [c3_ordN H ho, c3_rank (h6_ord H ho) (bit_ord H ho) (ac_ord H hac ho) (nr_ord H ho)]; rfl
theorem free_ord {left : List Nat} (hne : left ≠ []) : freeOf (aheadF rows) left ≠ [] := free_ne (h6_of H) (fun o_ o_ => ahead_bit (h6_of H)) hac hne
theorem due_perm (ho : o ∈ ordL) : (dueF rows o).Perm (left0 (ordR rows o).flatten) :=
 rank_perm (h6_ord H ho) (bit_ord H ho) (ac_ord H hac ho) _ _ rfl fun t ht => (left0_mem (flat6 (h6_ord H ho))).mp ht
theorem due_mem (ho : o ∈ ordL) {t : Nat} : t ∈ dueF rows o ↔ t ∈ rows.flatten := by
 rw [(due_perm H hac ho).mem_iff, left0_mem (flat6 (h6_ord H ho)), flat_mem H ho]
theorem due_nodup (ho : o ∈ ordL) : (dueF rows o).Nodup := (due_perm H hac ho).nodup_iff.mpr (left0_nodup _)
theorem due_lt (ho : o ∈ ordL) : ∀ t ∈ dueF rows o, t < 6 := fun t ht => flat6 (h6_of H) t ((due_mem H hac ho).mp ht)
theorem due_len (ho : o ∈ ordL) : (dueF rows o).length ≤ 6 := nodup_lt_len ⟨due_lt H hac ho, due_nodup H hac ho⟩
theorem due_lin (ho : o ∈ ordL) : (dueF rows o).Pairwise fun a b => ¬ Lt rows b a :=
 (rank_lin (h6_ord H ho) (bit_ord H ho) (ac_ord H hac ho) _ _ rfl (left0_nodup _) fun t ht => (left0_mem (flat6 (h6_ord H ho))).mp ht).imp fun h l => h ((lt_ord H ho).mpr l)
omit H hac in
theorem nms_mem {a b : List Nat} (h : ∀ t, t ∈ a ↔ t ∈ b) (x : Str) : x ∈ a.map nm ↔ x ∈ b.map nm := by simp only [List.mem_map, h]
theorem one_mem (ho : o ∈ ordL) (x : Str) : x ∈ (dueF rows o).map nm ↔ x ∈ rows.flatten.map nm := nms_mem (fun o_ => due_mem H hac ho) x
theorem one_nodup (ho : o ∈ ordL) : ((dueF rows o).map nm).Nodup := by
 obtain h := due_nodup H hac ho
 obtain h6 := due_lt H hac ho
 generalize dueF rows o = l at h h6
 induction l with
 | nil => exact .nil
 | cons a r ih =>
  rw [List.map_cons, List.nodup_cons] at *
  refine ⟨fun hm => ?_, ih h.2 fun t ht => h6 t (.tail _ ht)⟩
  obtain ⟨b, hb, e⟩ := List.mem_map.mp hm
  have := nm_inj _ _ (h6 b (.tail _ hb)) (h6 a (.head _)) e
  subst this; exact h.1 hb
theorem cmp_same (ho : o ∈ ordL) : cmpB ((dueF rows o).map nm) (rows.flatten.map nm) = true ∧ cmpB (rows.flatten.map nm) ((dueF rows o).map nm) = true :=
 ⟨cmpB_iff.mpr fun x => one_mem H hac ho x, cmpB_iff.mpr fun x => (one_mem H hac ho x).symm⟩
theorem cmp_less (ho : o ∈ ordL) (hne : dueF rows o ≠ []) : cmpB (((dueF rows o).map nm).drop 1) (rows.flatten.map nm) = false ∧ cmpB (rows.flatten.map nm) (((dueF rows o).map nm).drop 1) = false := by
 obtain hn := one_nodup H hac ho
 obtain hm := one_mem H hac ho
 cases e : dueF rows o with
 | nil => exact absurd e hne
 | cons a r =>
  rw [e] at hn hm
  rw [List.map_cons] at hn hm ⊢
  rw [List.drop_succ_cons, List.drop_zero]
  obtain ha := (hm (nm a)).mp (.head _)
  obtain hna := (List.nodup_cons.mp hn).1
  exact ⟨Bool.eq_false_iff.mpr fun q => hna ((cmpB_iff.mp q (nm a)).mpr ha), Bool.eq_false_iff.mpr fun q => hna ((cmpB_iff.mp q (nm a)).mp ha)⟩
theorem adj_share (h : ∀ o ∈ ordL, dueF rows o = dueF rows [0, 1, 2]) {P S : List Nat} {x y : Nat} (e : dueF rows [0, 1, 2] = P ++ x :: y :: S) : Share rows x y := by
 obtain h0 : [0, 1, 2] ∈ ordL := .head _
 obtain hy : y ∈ rows.flatten := (due_mem H hac h0).mp (by rw [e]; simp)
 obtain ⟨r, hr, hyr⟩ := List.mem_flatten.mp hy
 obtain ⟨j, hj, ej⟩ := List.getElem_of_mem hr
 obtain hj3 : j < 3 := by have := H.l3; grind
 obtain ⟨rest, ho⟩ : ∃ rest, j :: rest ∈ ordL := by
  rcases (by grind : j = 0 ∨ j = 1 ∨ j = 2) with rfl | rfl | rfl
  ·exact ⟨[1, 2], by decide⟩
  ·exact ⟨[0, 2], by decide⟩
  ·exact ⟨[0, 1], by decide⟩
 obtain er : rows.getD j [] = r := by rw [List.getD_eq_getElem?_getD, List.getElem?_eq_getElem hj, Option.getD_some, ej]
 have e1 : (ordR rows (j :: rest)).flatten = r ++ (ordR rows rest).flatten := by show (rows.getD j [] :: ordR rows rest).flatten = _; rw [er, List.flatten_cons]
 obtain e2 := h _ ho
 rw [e] at e2
 unfold dueF at e2
 rw [e1] at e2
 obtain hfm := fun t => flat_mem H ho (t := t)
 rw [e1] at hfm
 obtain h6 := h6_of H
 refine share_of_same (flat := []) h6 (fun u t => ahead_bit h6) hac hr hyr (fun r hr t ht => (hfm t).mpr (List.mem_flatten.mpr ⟨r, hr, ht⟩)) (fun t ht => List.mem_flatten.mp ((hfm t).mp ht)) (fun t ht => ?_) e2
 exact (left0_mem fun t ht => flat6 h6 t ((hfm t).mp ht)).mp ht
theorem chain_of (hs : ∀ k x y, (dueF rows [0, 1, 2])[k]? = some x → (dueF rows [0, 1, 2])[k + 1]? = some y → Share rows x y) : (dueF rows [0, 1, 2]).Pairwise (Lt rows) := by
 obtain h0 : [0, 1, 2] ∈ ordL := .head _
 refine pair_of_adj (R := Lt rows) (fun o_ o_ o_ => Lt.trans) fun k x y hx hy => ?_
 obtain hn := due_nodup H hac h0
 obtain hl := due_lin H hac h0
 obtain ⟨kx, ex⟩ := List.getElem?_eq_some_iff.mp hx
 obtain ⟨ky, ey⟩ := List.getElem?_eq_some_iff.mp hy
 obtain hlt := List.pairwise_iff_getElem.mp hl k (k + 1) kx ky (by grind)
 obtain hne : x ≠ y := fun q => by
  have := List.pairwise_iff_getElem.mp hn k (k + 1) kx ky (by grind)
  rw [ex, ey] at this; exact this q
 rw [ex, ey] at hlt
 rcases share_lt (hs k x y hx hy) hne with z | z
 ·exact z
 ·exact absurd z hlt
theorem perm_ord {o' : List Nat} (ho : o ∈ ordL) (ho' : o' ∈ ordL) : (dueF rows o).Perm (dueF rows o') := by
 refine (List.perm_ext_iff_of_nodup (due_nodup H hac ho) (due_nodup H hac ho')).mpr fun t => ?_
 rw [due_mem H hac ho, due_mem H hac ho']
theorem same_of_chain (h : (dueF rows [0, 1, 2]).Pairwise (Lt rows)) : ∀ o ∈ ordL, dueF rows o = dueF rows [0, 1, 2] := fun o ho =>
 (order_uniq (perm_ord H hac (.head _) ho) (due_nodup H hac (.head _)) h (due_lin H hac ho)).symm
theorem apart_iff : (∀ o ∈ ordL, dueF rows o = dueF rows [0, 1, 2]) ↔ ∀ k x y, (dueF rows [0, 1, 2])[k]? = some x → (dueF rows [0, 1, 2])[k + 1]? = some y → Share rows x y := by
 refine ⟨fun h k x y hx hy => ?_, fun h => same_of_chain H hac (chain_of H hac h)⟩
 obtain ⟨kx, ex⟩ := List.getElem?_eq_some_iff.mp hx
 obtain ⟨ky, ey⟩ := List.getElem?_eq_some_iff.mp hy
 refine adj_share H hac h (P := (dueF rows [0, 1, 2]).take k) (S := (dueF rows [0, 1, 2]).drop (k + 2)) ?_
 rw [← ey, ← ex, List.getElem_cons_drop, List.getElem_cons_drop, List.take_append_drop]
theorem cnt_up {u t : Nat} (h : Lt rows u t) : cnt (aheadF rows) u < cnt (aheadF rows) t := cnt_lt (h6_of H) (fun o_ o_ => ahead_bit (h6_of H)) hac h
theorem rows_up : ∀ r ∈ rows, r.Pairwise fun a b => cnt (aheadF rows) a < cnt (aheadF rows) b := fun r hr =>
 (pair_of_adj (R := Lt rows) (fun o_ o_ o_ => Lt.trans) fun k a b ha hb => .one ⟨r, hr, k, ha, hb⟩).imp fun h => cnt_up H hac h
theorem need_sub {l : List Nat} (hl : l.Pairwise fun a b => cnt (aheadF rows) a ≤ cnt (aheadF rows) b) (hm : ∀ t, t ∈ l ↔ t ∈ rows.flatten) : ∀ r ∈ rows, r.Sublist l := fun r hr =>
 sub_of_order hl (rows_up H hac r hr) fun t ht => (hm t).mpr (List.mem_flatten.mpr ⟨r, hr, ht⟩)
theorem need_is {l : List Nat} (hl : l.Pairwise fun a b => cnt (aheadF rows) a ≤ cnt (aheadF rows) b) (hn : l.Nodup) (hm : ∀ t, t ∈ l ↔ t ∈ rows.flatten) (h : ∀ o ∈ ordL, dueF rows o = dueF rows [0, 1, 2]) : l = dueF rows [0, 1, 2] := by
 obtain h0 : [0, 1, 2] ∈ ordL := .head _
 obtain hs := (apart_iff H hac).mp h
 refine (order_uniq (R := fun a b => cnt (aheadF rows) a < cnt (aheadF rows) b) ((List.perm_ext_iff_of_nodup (due_nodup H hac h0) hn).mpr fun t => by rw [hm, due_mem H hac h0]) (due_nodup H hac h0) ((chain_of H hac hs).imp fun h => cnt_up H hac h) (hl.imp fun h => by grind)).symm
theorem c3_need {l : List Nat} (hl : l.Pairwise fun a b => cnt (aheadF rows) a ≤ cnt (aheadF rows) b) (hn : l.Nodup) (hm : ∀ t, t ∈ l ↔ t ∈ rows.flatten) {gs : List (List Str)} (hg : gs = (l :: rows).map (List.map nm)) : c3F (c3len gs + 1) gs = some (l.map nm) := by
 obtain h6 := h6_of H
 obtain hlt : ∀ s ∈ l :: rows, ∀ x ∈ s, x < 6 := fun s hs x hx => by
  rcases List.mem_cons.mp hs with e | e
  ·subst e; exact flat6 h6 x ((hm x).mp hx)
  ·exact h6 s e x hx
 rw [hg, c3len_map, c3_map (p := fun t => t < 6) nm_inj _ _ hlt, c3_line l rows _ ?_ hn (need_sub H hac hl hm)]; rfl
 ·unfold c3len; rw [List.map_cons, List.sum_cons]; grind
end
theorem fsS_map {α β : Type} [DecidableEq α] [DecidableEq β] {f : α → β} {p : α → Prop} (hf : ∀ x y, p x → p y → f x = f y → x = y) : ∀ (l s : List α), (∀ x ∈ l, p x) → (∀ x ∈ s, p x) → fsS (s.map f) (l.map f) = (fsS s l).map f
 | [], _, _, _ => rfl
 | x :: l, s, h, h' => by
  have hm : f x ∈ s.map f ↔ x ∈ s := ⟨fun q => by
   obtain ⟨y, hy, e⟩ := List.mem_map.mp q
   rw [← hf y x (h' y hy) (h x (.head _)) e]; exact hy, fun q => List.mem_map.mpr ⟨x, q, rfl⟩⟩
  rw [List.map_cons]
  unfold fsS
  by_cases q : x ∈ s
  ·rw [if_pos q, if_pos (hm.mpr q)]; exact fsS_map hf l s (fun y hy => h y (.tail _ hy)) h'
  ·rw [if_neg q, if_neg (mt hm.mp q), List.map_cons, ← List.map_cons (f := f) (a := x) (l := s)]
   rw [fsS_map hf l (x :: s) (fun y hy => h y (.tail _ hy)) fun y hy => (List.mem_cons.mp hy).elim (fun e => e ▸ h x (.head _)) (h' y)]
theorem fsS_nil {α : Type} [DecidableEq α] : ∀ (l s : List α), fsS s l = [] ↔ ∀ x ∈ l, x ∈ s
 | [], s => by simp [fsS]
 | x :: l, s => by
  unfold fsS
  by_cases q : x ∈ s
  ·rw [if_pos q, fsS_nil l s]; simp [q]
  ·rw [if_neg q]; simp [q]
theorem fsS_one {α : Type} [DecidableEq α] {d : α} {l : List α} : (fsS [] (d :: l)).length = 1 ↔ ∀ x ∈ d :: l, x = d := by
 obtain e : fsS [] (d :: l) = d :: fsS [d] l := by rw [fsS, if_neg (by simp)]
 rw [e, List.length_cons, Nat.add_eq_right, List.length_eq_zero_iff, fsS_nil]
 simp
theorem fsS_len {α : Type} [DecidableEq α] : ∀ (l s : List α), (fsS s l).length ≤ l.length
 | [], _ => Nat.le_refl _
 | x :: l, s => by
  unfold fsS
  split
  ·exact Nat.le_succ_of_le (fsS_len l s)
  ·exact Nat.succ_le_succ (fsS_len l _)
theorem rowsF_ok (script : List Int) : RowsOk (rowsF script) := by
 obtain h := laid_ok' (layIn script)
 refine ⟨rfl, fun r hr => ?_⟩
 have hs : ∀ (kind : Int) (k : Nat) (r : List Nat), rowOk r → rowOk (rowK kind k r) := fun kind k r hr => by
  unfold rowK
  split
  ·exact hr
  ·exact ⟨fun t ht => hr.1 t ((sortN_perm r).mem_iff.mp ht), (sortN_perm r).nodup_iff.mpr hr.2⟩
 simp only [rowsF, List.mem_cons, List.not_mem_nil, or_false] at hr
 rcases hr with rfl | rfl | rfl
 ·exact hs _ _ _ h.1
 ·exact hs _ _ _ h.2.1
 ·exact hs _ _ _ h.2.2
set_option tactic.hygienic true in
theorem putR_mem {r : List Nat} {t x : Nat} : x ∈ putR r t ↔ x ∈ r ∨ x = t := by
 unfold putR
 split
 ·rename_i h; exact ⟨.inl, fun q => q.elim id fun e => e ▸ h⟩
 ·simp
theorem lay_keeps : ∀ (xs : List Int) (st : List Nat × List Nat × List Nat) (t : Nat), (t ∈ st.1 → t ∈ (xs.foldl layStep st).1) ∧ (t ∈ st.2.1 → t ∈ (xs.foldl layStep st).2.1) ∧ (t ∈ st.2.2 → t ∈ (xs.foldl layStep st).2.2)
 | [], _, _ => ⟨id, id, id⟩
 | x :: xs, st, t => by
  obtain ih := lay_keeps xs (layStep st x) t
  rw [List.foldl_cons]
  refine ⟨fun h => ih.1 ?_, fun h => ih.2.1 ?_, fun h => ih.2.2 ?_⟩ <;> unfold layStep <;> split <;> (try split) <;> first | exact h | exact putR_mem.mpr (.inl h)
theorem rows_three (script : List Int) : ∀ t, t < 3 → t ∈ (rowsF script).flatten := by
 have hk : ∀ (kind : Int) (k : Nat) (r : List Nat) (t : Nat), t ∈ r → t ∈ rowK kind k r := fun kind k r t ht => by
  unfold rowK
  split
  ·exact ht
  ·exact (sortN_perm r).mem_iff.mpr ht
 have e : laid (layIn script) = (script.take 12).foldl layStep ([1], [0, 1], [2]) := by
  unfold laid layIn; rw [List.foldl_append]; rfl
 have h := lay_keeps (script.take 12) ([1], [0, 1], [2])
 rw [← e] at h
 intro t ht
 rw [List.mem_flatten]
 have : t = 0 ∨ t = 1 ∨ t = 2 := by grind
 rcases this with rfl | rfl | rfl
 ·exact ⟨_, .tail _ (.head _), hk _ _ _ _ ((h 0).2.1 (by decide))⟩
 ·exact ⟨_, .head _, hk _ _ _ _ ((h 1).1 (by decide))⟩
 ·exact ⟨_, .tail _ (.tail _ (.head _)), hk _ _ _ _ ((h 2).2.2 (by decide))⟩
end Mine
end
section
open PySem PySem.W PyProof.Rows PySem.W.X
namespace Mine
open PySem.Calls
noncomputable def tupS (l : List Str) : D := .tup (l.map .str)
theorem itemsAre {prog : Program} {w : World} {X : List Addr} {h : Heap} : ∀ {l : List Str} {vs : List Value}, RepAll X h (l.map .str) vs → ItemsAre (strKind prog w) l vs
 | [], _, r => by cases r; exact .nil
 | x :: l, _, r => by
  obtain ⟨v, r', rfl, ⟨t, rfl⟩, h2⟩ := r
  refine .cons ?_ (itemsAre h2)
  show Value.isStrOf x (.str x t) = true
  simp [Value.isStrOf]
theorem tup_refs {prog : Program} {w : World} {X : List Addr} {h : Heap} : ∀ {ks : List (List Str)} {us : List Value}, RepAll X h (ks.map tupS) us → ∃ as : List Addr, us = as.map .ref ∧ as.length = ks.length ∧ (∀ a ∈ as, a ∉ X ∧ ∃ (k : List Str) (vs : List Value) (n : Nat), h.get? a = some (tupO vs n) ∧ RepAll X h (k.map .str) vs) ∧ ∀ (j : Nat) (k : List Str) (a : Addr), ks[j]? = some k → as[j]? = some a → (DFK.TK prog w).is h k a
 | [], _, r => by cases r; exact ⟨[], rfl, rfl, fun o_ h => (nomatch h), fun j k a e => by simp at e⟩
 | k :: ks, _, r => by
  refine cutG fun P_ hP_ => ?_
  obtain ⟨v, r', rfl, ⟨a, vs, n, rfl, ha, hg, hr⟩, h2⟩ := r
  obtain ⟨as, rfl, hl, h3, h4⟩ := tup_refs (prog := prog) (w := w) h2
  refine hP_ ?_
  clear hP_ P_
  refine ⟨a :: as, rfl, by simp [hl], ?_, ?_⟩
  ·simp only [List.forall_mem_cons]
   exact ⟨⟨ha, _, _, _, hg, hr⟩, h3⟩
  ·intro j k' a' e1 e2
   cases j with
   | zero =>
    simp only [List.getElem?_cons_zero, Option.some.injEq] at e1 e2
    subst e1 e2
    exact ⟨_, vs.toArray, n, hg, rfl, rfl, by simpa using itemsAre hr⟩
   | succ j => exact h4 j k' a' (by simpa using e1) (by simpa using e2)
noncomputable def DedupAt (hb : Heap) : Prop := ∃ dV kV, FnAt hb 43 (fName 6) (fArgs 6) (fBody 6) (fScope 6) dV kV (.ref (43 - 1)) ∧
 ∀ (s : Shared) (v : Value) name doc pm an ct, hb.StaysIn s.heap → BindsTo s (fnX name (fName 6) (fArgs 6) (fBody 6) (fScope 6) [] dV kV doc pm an (.ref (43 - 1)) ct) ⟨[v], []⟩ [("params", v), ("unhashable_fallback", .bool false)]
theorem Kp.of_all {hb : Heap} {s s' : Shared} (h : ∃ hh tk, s' = { s with heap := hh, toks := tk }) (k : ∀ b o, s.heap.get? b = some o → s'.heap.get? b = some o) : Kp hb [] s s' := by
 obtain ⟨hh, tk, rfl⟩ := h
 exact ⟨hh, tk, rfl, fun b o e o_ => .inl (k b o e)⟩
set_option maxRecDepth 100000 in
theorem dedup_call {c : Cx} {k : Nat} {e0 : Env} (hr : Room c.A (k + 1)) (G : Gl c.hb) (F : DedupAt c.hb) (hA : c.A = callerA.deeper e0) {ks : List (List Str)} (hks : ks.length ≤ 100) {s : Shared} {E : Value → Shared → Prop} {vs : List Value} (o : Ok c s) (hv : RepAll c.X s.heap [.list (ks.map tupS)] vs) :
  wpAny (model c.prog c.w) c.A (call (.ref 43) vs) (fun v s' => Kp c.hb [] s s' ∧ ∃ d xs as, v = .ref d ∧ s.heap.get? d = none ∧ DFK.DSt c.prog c.w s'.heap d (DFK.dedupK ks) as xs ∧ ∀ a ∈ as, ∃ k : List Str, Rep c.X s'.heap (tupS k) (.ref a)) E s := by
 refine cutG fun P_ hP_ => ?_
 obtain ⟨v, _, rfl, h1, rfl⟩ := hv
 obtain ⟨dV, kV, F, hB⟩ := F
 refine hP_ ?_
 clear hP_ P_
 refine wpAny_call (enter_fn F (bd := [("params", .list (ks.map tupS)), ("unhashable_fallback", .bool false)]) (ow := []) (binds := [("params", v), ("unhashable_fallback", .bool false)]) o hr (fun name doc pm an ct => hB s v name doc pm an ct o.base) rfl ⟨v, _, rfl, h1, _, _, rfl, rfl, rfl⟩ (by exact (by decide : (["params", "unhashable_fallback"] : List Str).Nodup)) (fun n => by rfl) (fun o_ h => (nomatch h)) List.nodup_nil ⟨fun o_ h => (nomatch h), fun o_ h => (nomatch h), fun o_ h => (nomatch h), fun o_ h => (nomatch h)⟩ (fun L s₁ o_ S => ?_) (by exact List.nodup_nil) rfl rfl rfl)
 dsimp only [fnCx] at S
 refine cutQ fun Q₁ E₁ hQ hE => ?_
 refine ex_cons ?_
 refine wpAny_Try_except ?_
 refine cutQ fun Q₂ E₂ hQ₂ hE₂ => ?_
 refine ex_cons ?_
 refine wpAny_Return_some ?_
 refine MethodCall_ (pl := _) (bi_at G S.ok.base rfl (DFK.getm ?_)) rfl
 obtain k₂ : Kp c.hb [] s₁ { s₁ with heap := s₁.heap.push DFK.bnd, toks := s₁.toks + 1 } := (Kp.push c.hb s₁ DFK.bnd).toks _
 obtain hb₂ : (s₁.heap.push DFK.bnd).get? s₁.heap.objs.size = some DFK.bnd := Heap.get?_push_size _ rfl
 obtain S₂ := S.step k₂
 generalize hs₂ : ({ s₁ with heap := s₁.heap.push DFK.bnd, toks := s₁.toks + 1 } : Shared) = s₂ at k₂ S₂
 have hb₂ : s₂.heap.get? s₁.heap.objs.size = some DFK.bnd := by rw [← hs₂]; exact hb₂
 clear hs₂
 generalize s₁.heap.objs.size = x at hb₂
 refine callWith_of (P := fun h => h.get? x = some DFK.bnd) (by rfl) (fun h e => ⟨.machine, .inr (.inl rfl), DFK.looksKeeper e⟩) ?_
 refine evalArgs_plain (wpAny_mono ((evs_cons (ev_var rfl) evs_nil : Evs { prog := c.prog, w := c.w, A := c.A.deeper (fnEnv (fName 6) (fScope 6) L 43 (.ref (43 - 1))), hb := c.hb, env := fnEnv (fName 6) (fScope 6) L 43 (.ref (43 - 1)), X := homes (fnEnv (fName 6) (fScope 6) L 43 (.ref (43 - 1))) ++ c.X, vars := [("params", .list (ks.map tupS)), ("unhashable_fallback", .bool false)], own := [] } _ [.list (ks.map tupS)]) _ s₂ _ S₂.ok) (fun us s₃ h₃ => ?_) fun o_ o_ e => e)
 refine cutG fun P_ hP_ => ?_
 obtain ⟨k₃, u, _, rfl, ⟨l, zs, n, rfl, hl, hg, hz⟩, rfl⟩ := h₃
 refine hP_ ?_
 clear hP_ P_
 obtain S₃ := S₂.step k₃
 refine ⟨k₃.get hb₂ (fun es n z => by cases z) (fun h => (nomatch h)), ?_⟩
 refine cutG fun P_ hP_ => ?_
 obtain ⟨as, rfl, hlen, has, hks'⟩ := tup_refs (prog := c.prog) (w := c.w) hz
 refine hP_ ?_
 clear hP_ P_
 refine DFK.callB (k₃.get hb₂ (fun es n z => by cases z) (fun h => (nomatch h))) ?_
 rw [hA]
 refine DFK.top (l := l) hlen hks ⟨_, hg, rfl, n, rfl⟩ hks' (fun a ha => by obtain ⟨_, _, _, _, e, _⟩ := has a ha; exact ⟨_, e⟩) ?_
 intro s' d xs hs' keep hd D
 obtain k₄ : Kp c.hb [] s₃ s' := Kp.of_all hs' keep
 obtain S₄ := S₃.step k₄
 refine hQ₂ _ _ (hQ _ _ ?_)
 refine ⟨S₄.kp, d, xs, as, rfl, none_since S₃.kp (fun h => (nomatch h)) hd, D, fun a ha => ?_⟩
 refine cutG fun P_ hP_ => ?_
 obtain ⟨h1, k, us, n, e, r⟩ := has a ha
 refine hP_ ?_
 clear hP_ P_
 obtain h2 : a ∉ c.X := fun hm => h1 (List.mem_append_right _ hm)
 exact ⟨k, a, us, n, rfl, h2, keep _ _ e, strs_any r⟩
end Mine
end
section
open PySem PySem.W PyProof.Rows PySem.W.X
namespace Mine
open PySem.Calls
noncomputable def NewObj (s : Shared) (ob : Addr → Obj) (v : Value) (s' : Shared) : Prop := ∃ x h tk, v = .ref x ∧ s' = { s with heap := h, toks := tk } ∧ (∀ b o, s.heap.get? b = some o → h.get? b = some o) ∧ s.heap.get? x = none ∧ h.get? x = some (ob x)
theorem E2.x_fin {s₀ s : Shared} {ob : Addr → Obj} {Q : Value → Shared → Prop} {v : Value} {h' : Heap} {tk : Nat} {x : Addr} {news : List (Addr × Obj)} (h : ∀ v s', NewObj s₀ ob v s' → Q v s') (D : X.Mem s₀.heap h' [] ((x, ob x) :: news)) (e1 : v = .ref x) (e2 : s = { s₀ with heap := h', toks := tk }) (_ : (0 : Nat) = 0) : Q v s := by
 subst e1 e2; exact h _ _ ⟨x, h', tk, rfl, rfl, fun b o e => D.keep b o e (Bool.or_true _), (D.nw _ (.head _)).2, (D.nw _ (.head _)).1⟩
section
open E2
set_option maxRecDepth 100000 in
set_option maxHeartbeats 8000000 in
theorem call_items {prog : Program} {w : World} {env : Env} {E : Value → Shared → Prop} {Q : Value → Shared → Prop} {s : Shared} {d : Addr} {es : Array DictEntry} {ep : Nat} (hd : s.heap.get? d = some ⟨.type "dict", none, .dict es ep, #[]⟩) (hne : ¬ d = sysModules)
  (hQ : ∀ v s', NewObj s (fun o_ => ⟨.type "dict_items", none, .fields ⟨[.ref d]⟩, #[]⟩) v s' → Q v s') :
  wpAny (model prog w) (callerA.deeper env) (call (.builtin "dict.items") [.ref d]) Q E s := by x_run
end
noncomputable def IntPost' (s : Shared) (i : Int) (v : Value) (s' : Shared) : Prop := ∃ t h tk, v = .int i t ∧ s' = { s with heap := h, toks := tk } ∧ (∀ b o, s.heap.get? b = some o → h.get? b = some o)
theorem E3.x_fin {s₀ s : Shared} {i : Int} {t : Tok} {tk : Nat} {Q : Value → Shared → Prop} {v : Value} (h : ∀ v s', IntPost' s₀ i v s' → Q v s') (_ : ∀ v s', IntPost' s₀ i v s' → Q v s') (e1 : v = .int i t) (e2 : s = { s₀ with toks := tk }) (_ : (0 : Nat) = 0) : Q v s := by
 subst e1 e2; exact h _ _ ⟨t, _, tk, rfl, rfl, fun o_ o_ e => e⟩
section
open E3
set_option maxRecDepth 100000 in
set_option maxHeartbeats 8000000 in
theorem call_len_d {prog : Program} {w : World} {env : Env} {E : Value → Shared → Prop} {Q : Value → Shared → Prop} {s : Shared} {d : Addr} {es : Array DictEntry} {ep : Nat} (hd : s.heap.get? d = some ⟨.type "dict", none, .dict es ep, #[]⟩) (hne : ¬ d = sysModules) (hsz : es.size ≤ 100)
  (hQ : ∀ v s', IntPost' s (es.size : Int) v s' → Q v s') :
  wpAny (model prog w) (callerA.deeper env) (call (.builtin "len") [.ref d]) Q E s := by x_run
end
structure TblAt (hb : Heap) (X : List Addr) (d : Addr) (l : List (Int × Addr × List Str)) : Prop where
 obj : ∃ ep, hb.get? d = some ⟨.type "dict", none, .dict (l.map fun e => (⟨e.1, .ref e.2.1, .none⟩ : DictEntry)).toArray ep, #[]⟩
 keys : ∀ e ∈ l, Rep X hb (tupS e.2.2) (.ref e.2.1)
 ne : ¬ d = sysModules
theorem pairs_rep {X : List Addr} {s : Shared} {h : Heap} (hX : ∀ a ∈ X, ∃ o, s.heap.get? a = some o) : ∀ {l : List (Int × Addr × List Str)} {vs : List Value}, (∀ e ∈ l, Rep X h (tupS e.2.2) (.ref e.2.1)) → TupsAt s h (l.map (·.2.1)) vs → RepAll X h (l.map fun e => D.tup [tupS e.2.2, .none]) vs
 | [], _, _, r => by cases r; exact rfl
 | e :: l, _, hk, r => by
  obtain ⟨t, r', rfl, h1, h2, h3⟩ := r
  refine ⟨_, r', rfl, ⟨t, _, 0, rfl, fun q => ?_, h2, _, _, rfl, hk e (.head _), _, _, rfl, rfl, rfl⟩, pairs_rep hX (fun x hx => hk x (.tail _ hx)) h3⟩
  obtain ⟨o, e'⟩ := hX t q
  exact no_some (h1.symm.trans e')
theorem items_any {prog : Program} {w : World} {env : Env} {E : Value → Shared → Prop} {Q : Value → Shared → Prop} {s : Shared} {d r : Addr} {ep : Nat} {l : List (Int × Addr × List Str)} (h1 : 1 ≤ l.length) (h6 : l.length ≤ 6)
  (hd : s.heap.get? d = some ⟨.type "dict", none, .dict (l.map fun e => (⟨e.1, .ref e.2.1, .none⟩ : DictEntry)).toArray ep, #[]⟩) (hr : s.heap.get? r = some ⟨.type "dict_items", none, .fields ⟨[.ref d]⟩, #[]⟩)
  (hQ : ∀ v s', ItemsPost s (l.map (·.2.1)) v s' → Q v s') : wpAny (model prog w) (callerA.deeper env) (call (.type "list") [.ref r]) Q E s := by
 refine items_call rfl (by rw [List.length_map]; omega) ?_ hd hr hQ
 rw [List.map_map, List.map_map]
 rfl
section
variable {c : Cx}
theorem ev_len_d {e0 : Env} (hA : c.A = callerA.deeper e0) {d : Addr} {l : List (Int × Addr × List Str)} (T : TblAt c.hb c.X d l) (hl : l.length ≤ 100) {x : Str} {p pos : Pos} {e : Expr} (hf : Ev c (.Name x p) (.val (.builtin "len"))) (he : Ev c e (.val (.ref d)))
  (hs : starEach [e] c.env = [(false, eval e c.env)] := by rfl) : Ev c (.Call (.Name x p) [e] [] pos) (.int l.length) := ev_call hf (evs_cons he evs_nil hs) kpr_builtin (fun s E vs o hv => by
 obtain ⟨v, _, rfl, rfl, rfl⟩ := hv
 obtain ⟨ep, hd⟩ := T.obj
 rw [hA]
 refine call_len_d (o.base _ _ hd) T.ne (by simpa using hl) fun v s' q => ?_
 obtain ⟨t, h, tk, rfl, rfl, k⟩ := q
 exact ⟨Kp.of_all ⟨h, tk, rfl⟩ k, t, by simp⟩) hs (by rw [hs]; rfl)
theorem ev_items {e0 : Env} (hA : c.A = callerA.deeper e0) {d : Addr} {l : List (Int × Addr × List Str)} (T : TblAt c.hb c.X d l) (h1 : 1 ≤ l.length) (h6 : l.length ≤ 6) {x : Str} {p p1 p2 ap : Pos} {e : Expr} (hf : Ev c (.Name x p) (.val (.type "list"))) (he : Ev c e (.val (.ref d))) {pl : Sem Bool}
  (hm : eval (.Call (.Attribute e "items" ap) [] [] p1) c.env = (do
   let ov ← eval e c.env
   standAt ap.atName
   let (f, first) ← holding [ov] (getMethod ov "items" pl)
   callWith p1 f first (backTo p1 (starEach [] c.env)) []))
  (hs : starEach [.Call (.Attribute e "items" ap) [] [] p1] c.env = [(false, eval (.Call (.Attribute e "items" ap) [] [] p1) c.env)] := by rfl) :
  Ev c (.Call (.Name x p) [.Call (.Attribute e "items" ap) [] [] p1] [] p2) (.list (l.map fun e => D.tup [tupS e.2.2, .none])) := fun s E o => by
 obtain ⟨ep, hd⟩ := T.obj
 refine Call_Name rfl (wpAny_mono (hf s E o) (fun f' s₁ h₁ => ?_) fun o_ o_ e => e)
 obtain ⟨k₁, rfl⟩ := h₁
 have o₁ := o.kp k₁
 refine callWith_gen (R := fun vs s' => ∃ r, vs = [.ref r] ∧ s'.heap.get? r = some ⟨.type "dict_items", none, .fields ⟨[.ref d]⟩, #[]⟩) o₁ kpr_type ?_ (fun s₂ vs k₂ q => ?_) hs (by rw [hs]; rfl)
 ·refine spliced_more (rest := []) ?_ hs
  refine MethodCall_ (pl := pl) (wpAny_mono (he s₁ E o₁) (fun ov s₂ h₂ => ?_) fun o_ o_ e => e) hm
  obtain ⟨k₂, rfl⟩ := h₂
  have hd₂ := (o₁.kp k₂).base _ _ hd
  refine getMethod_builtin ⟨_, hd₂, rfl⟩ PySem.F.plainAttrs_dict PySem.F.slot_dict_items PySem.F.type_dict_items (fun a e => by cases e; exact ⟨_, hd₂, rfl⟩) ?_
  refine callWith_method0 ?_
  rw [hA]
  refine call_items hd₂ T.ne fun v s' q => ?_
  refine cutG fun P_ hP_ => ?_
  obtain ⟨r, h, tk, rfl, rfl, kk, _, hr⟩ := q
  refine hP_ ?_
  clear hP_ P_
  exact spliced_none ⟨k₂.trans (Kp.of_all ⟨h, tk, rfl⟩ kk), r, rfl, hr⟩
 ·refine cutG fun P_ hP_ => ?_
  obtain ⟨r, rfl, hr⟩ := q
  refine hP_ ?_
  clear hP_ P_
  have o₂ := o₁.kp k₂
  rw [hA]
  refine items_any h1 h6 (o₂.base _ _ hd) hr fun v s' q => ?_
  refine cutG fun P_ hP_ => ?_
  obtain ⟨a, vs, n, h, tk, rfl, rfl, kk, ha, hg, ht⟩ := q
  refine hP_ ?_
  clear hP_ P_
  obtain k₃ : Kp c.hb [] s₂ { s₂ with heap := h, toks := tk } := Kp.of_all ⟨h, tk, rfl⟩ kk
  refine ⟨(k₁.trans k₂).trans k₃, a, vs, n, rfl, fun q => ?_, hg, ?_⟩
  ·obtain ⟨ob, e'⟩ := o₂.xin a q
   exact no_some (ha.symm.trans e')
  ·refine pairs_rep o₂.xin (fun e he => ?_) ht
   exact (T.keys e he).mono fun a ob ha e' o_ => ⟨ha, kk _ _ (o₂.base _ _ e')⟩
end
end Mine
end
section
open PySem PySem.W PyProof.Rows PySem.W.X
namespace Mine
open PySem.Calls
noncomputable def lamE (i : Nat) : Expr := match (fBody 18)[i]? with | some (.Assign _ (.Call _ (e :: _) _ _) _) => e | _ => .Constant .none 0 ⟨0, 0, 0, 0⟩
noncomputable def lamP (i : Nat) : Arguments := match lamE i with | .Lambda p _ _ _ => p | _ => ⟨[], [], none, [], [], none, []⟩
noncomputable def lamB (i : Nat) : Expr := match lamE i with | .Lambda _ b _ _ => b | _ => .Constant .none 0 ⟨0, 0, 0, 0⟩
noncomputable def lamS (i : Nat) : Scope := match lamE i with | .Lambda _ _ s _ => s | _ => { kind := .module, names := [] , isGenerator := false, isCoroutine := false }
noncomputable abbrev cloCx (c : Cx) (env : Env) (vars : List (Str × D)) : Cx := { c with A := c.A.deeper env, env := env, X := env.locals :: c.X, vars := vars, own := [] }
theorem lookup_nd : ∀ {l : List (Str × Value)} {x : Str} {v : Value}, (l.map (·.1)).Nodup → (x, v) ∈ l → l.lookup x = some v
 | (y, u) :: r, x, v, hn, hm => by
  rw [List.map_cons, List.nodup_cons] at hn
  rw [List.lookup_cons]
  rcases List.mem_cons.mp hm with e | e
  ·cases e; simp
  ·have : x ≠ y := fun z => hn.1 (z ▸ List.mem_map.mpr ⟨_, e, rfl⟩)
   rw [beq_eq_false_iff_ne.mpr this]
   exact lookup_nd hn.2 e
theorem lookup_reverse {binds : List (Str × Value)} (hn : (binds.map (·.1)).Nodup) {x : Str} {v : Value} (h : binds.lookup x = some v) : binds.reverse.lookup x = some v := by
 obtain hm : (x, v) ∈ binds.reverse := List.mem_reverse.mpr (mem_of_lookup' h)
 refine lookup_nd ?_ hm
 rw [List.map_reverse]
 exact List.pairwise_reverse.mpr (hn.imp fun h e => h e.symm)
section
variable {c : Cx} {s : Shared} {f : Addr} {qual : Str} {scope : Scope} {cdv : Value} {cl : List (Str × Addr)} {bd cap : List (Str × D)} {binds : List (Str × Value)} {k : Nat}
theorem ok_enter (o : Ok c s) {h₁ : Heap} {tk : Nat} (hns : h₁.Ns s.heap.objs.size fun x => binds.reverse.lookup x) (hsb : Heap.SameBut s.heap.objs.size (s.heap.push { cls := .type "frame", data := .dict #[] }) h₁)
  (hnames : bd.map (·.1) = binds.map (·.1)) (hrep : RepAll c.X s.heap (bd.map (·.2)) (binds.map (·.2))) (hnd : (bd.map (·.1)).Nodup) (hloc : ∀ y ∈ bd, scope.names.lookup y.1 = some .local)
  (hcap : ∀ x d, cap.lookup x = some d → ∃ a v, cl.lookup x = some a ∧ scope.names.lookup x = some .free ∧ s.heap.IsCell a (some v) ∧ Rep c.X s.heap d v)
  (hcl : ∀ a ∈ cl.map (·.2), ∃ ob, s.heap.get? a = some ob) (hk : scope.kind = .function) :
  Ok (cloCx c (envX qual scope s.heap.objs.size f cdv cl) (bd ++ cap)) { s with heap := h₁, toks := tk } ∧ Kp c.hb [] s { s with heap := h₁, toks := tk } := by
 have hkeep : ∀ b ob, s.heap.get? b = some ob → h₁.get? b = some ob := fun b ob e => (hsb.2 b (Nat.ne_of_lt (Heap.lt_size e))).trans (Heap.get?_push_of_some _ e)
 have kk : Kp c.hb [] s { s with heap := h₁, toks := tk } := ⟨h₁, tk, rfl, fun b ob e o_ => .inl (hkeep b ob e)⟩
 have o1 := o.kp kk
 have hL : s.heap.get? s.heap.objs.size = none := Heap.get?_none_of_le (Nat.le_refl _)
 refine cutG fun P_ hP_ => ?_
 obtain ⟨oL, es, ep, eL, dL, _⟩ := id hns
 refine hP_ ?_
 clear hP_ P_
 have up : ∀ {d : D} {v : Value}, Rep c.X s.heap d v → Rep (s.heap.objs.size :: c.X) h₁ d v := fun {d v} r => r.mono fun a ob ha e o_ => ⟨fun hm => by
  rcases List.mem_cons.mp hm with z | z
  ·exact clash z hL e
  ·exact ha z, hkeep a ob e⟩
 refine ⟨⟨o1.base, ?_, fun a ha => ?_, fun y d hy => ?_, fun p hp => (by cases hp), fun a ha => ?_⟩, kk⟩
 ·obtain ⟨l, hl, hf⟩ := o1.frames
  refine ⟨_, Around.frames_deeper hl, ⟨by show scope.kind ≠ .module; rw [hk]; decide, ⟨s.heap.objs.size, oL, rfl, ?_, eL, fun vs => by rw [dL]; intro z; cases z⟩, hf.1⟩, fun a ha => ?_⟩
  ·show c.hb.get? s.heap.objs.size = none
   cases q : c.hb.get? s.heap.objs.size with
   | none => rfl
   | some ob => have := o.base _ _ q; exact no_some (hL.symm.trans this)
  ·rcases List.mem_cons.mp (show a ∈ s.heap.objs.size :: l.filterMap (·.frame) from ha) with z | z
   ·rw [z]; exact ⟨oL, es, ep, eL, dL⟩
   ·exact hf.2 a z
 ·rcases List.mem_cons.mp ha with z | z
  ·rw [z]; exact ⟨oL, eL⟩
  ·exact o1.xin a z
 ·have hy' : (bd ++ cap).lookup y = some d := hy
  rw [List.lookup_append] at hy'
  cases q : bd.lookup y with
  | some d' =>
   rw [q] at hy'
   cases hy'
   obtain ⟨v, hv, hr'⟩ := lookup_rep hnames hrep q
   refine ⟨v, .inl ⟨hloc _ (mem_of_lookup' q), _, hns, ?_⟩, up hr'⟩
   exact lookup_reverse (by rw [← hnames]; exact hnd) hv
  | none =>
   rw [q] at hy'
   refine cutG fun P_ hP_ => ?_
   obtain ⟨a, v, h1, h2, ⟨ob, h3, h4⟩, h5⟩ := hcap y d hy'
   refine hP_ ?_
   clear hP_ P_
   exact ⟨v, .inr ⟨.inr h2, a, h1, ob, hkeep _ _ h3, h4⟩, up h5⟩
 ·rcases List.mem_cons.mp ha with z | z
  ·rw [z]; exact ⟨oL, eL⟩
  ·obtain ⟨ob, e⟩ := hcl a z; exact ⟨ob, hkeep _ _ e⟩
theorem call_lam {c' : Addr} {q : Str} {params : Arguments} {body : Expr} {pm ctv : Value} {vs : List Value} {d : D} {E : Value → Shared → Prop} (hr : Room c.A (k + 1)) (nl : c.hb.NoLimit) (ho : s.heap.get? f = some (kla_obj "<lambda>" q params body scope cl pm c' ctv)) (hcd : s.heap.CodeRec (.ref c') q) (o : Ok c s)
  (hbind : bindArgs (kla_fn "<lambda>" q params body scope cl pm (.ref c') ctv) ⟨vs, []⟩ = pure binds) (hnames : bd.map (·.1) = binds.map (·.1)) (hrep : RepAll c.X s.heap (bd.map (·.2)) (binds.map (·.2)))
  (h : ∀ L, Ev (cloCx c (envX q scope L f (.ref c') cl) (bd ++ cap)) body d)
  (hnd : (bd.map (·.1)).Nodup) (hloc : ∀ y ∈ bd, scope.names.lookup y.1 = some .local)
  (hcap : ∀ x d, cap.lookup x = some d → ∃ a v, cl.lookup x = some a ∧ scope.names.lookup x = some .free ∧ s.heap.IsCell a (some v) ∧ Rep c.X s.heap d v)
  (hcl : ∀ a ∈ cl.map (·.2), ∃ ob, s.heap.get? a = some ob)
  (hcell : ∀ x ∈ scope.names, x.2 ≠ .cell) (hk : scope.kind = .function) (hco : scope.isCoroutine = false) (hgen : scope.isGenerator = false) :
  wpAny (model c.prog c.w) c.A (call (.ref f) vs) (fun v s' => Kp c.hb [] s s' ∧ Rep c.X s'.heap d v) E s := by
 refine wpAny_call (kla_callFunE hr.depth ho rfl hco hgen rfl hcd ?_)
 rw [hbind]
 obtain hloc' : ∀ y ∈ binds, scope.names.lookup y.1 = some .local := fun y hy => by
  obtain hm : y.1 ∈ bd.map (·.1) := by rw [hnames]; exact List.mem_map.mpr ⟨y, hy, rfl⟩
  obtain ⟨z, hz, e⟩ := List.mem_map.mp hm
  rw [← e]; exact hloc z hz
 refine wpAny_pure (wpAny_newFunctionEnv hcell hloc' (fun h₁ hns hsb => ⟨(nl.keeps o.base).fresh _ hsb, ?_⟩) hk)
 obtain ⟨o1, k1⟩ := ok_enter (tk := s.toks + binds.length) (qual := q) (f := f) (cdv := .ref c') o hns hsb hnames hrep hnd hloc hcap hcl hk
 show codeAny _ _ (.expr body (envX q scope s.heap.objs.size f (.ref c') cl)) _ _
 refine kla_codeExpr (wpAny_mono (h s.heap.objs.size _ (fun o_ o_ => False) o1) (fun v s' hv => ?_) fun o_ o_ e => e.elim)
 exact ⟨k1.trans hv.1, hv.2.sub fun a ha => .tail _ ha⟩
end
end Mine
end
section
open PySem PySem.W PyProof.Rows PySem.W.X
namespace Mine
open PySem.Calls
section
variable {c : Cx} {s₀ s s₂ : Shared} {O Ob fp : List Addr} {I : Addr} {xs : List D} {P : Nat → Value → Prop} {St : Nat → Heap → Prop} {E : Value → Shared → Prop}
structure ItAt (c : Cx) (s₀ : Shared) (O : List Addr) (I : Addr) : Prop where
 x : I ∉ c.X
 h : I ∉ homes c.env
 b : c.hb.get? I = none
 f : I ∉ framesOf c.A
 o : I ∉ ownA c
 O : I ∈ O ∨ s₀.heap.get? I = none
 hx : ∀ a ∈ homes c.env, a ∈ c.X
 ox : ∀ a ∈ ownA c, a ∈ c.X
theorem Sx.stepIt {V : List (Str × D)} {h₁ : Heap} {tk₁ : Nat} (T : ItAt c s₀ O I) (S' : Sx { c with X := I :: c.X, vars := V } s₀ O s) (kI : Kp c.hb [I] s { s with heap := h₁, toks := tk₁ }) (hex : ∃ ob, h₁.get? I = some ob) :
  Sx { c with X := I :: c.X, vars := V } s₀ O { s with heap := h₁, toks := tk₁ } := by
 have one : ∀ {P : Addr → Prop}, P I → ∀ b ∈ [I], P b := fun {P} h b hb => by exact all_one (h) _ hb
 refine ⟨S'.ok.off kI ⟨one (.head _), one T.h, one T.b, one T.f⟩ (fun a ha => by obtain rfl := mem_1 ha; exact hex) (fun q hq => S'.ok.ownKeep kI (one (.head _)) hq fun hm => ?_), S'.kp.join kI (one T.O), S'.free, S'.hx, S'.offs, S'.nd, S'.fr.kp kI (fun a ha hm => ?_), S'.cap⟩
 ·obtain z : q.1 = I := by exact List.mem_singleton.mp hm
  obtain this : q.1 ∈ ownA c := List.mem_map.mpr ⟨q, hq, rfl⟩
  rw [z] at this; exact T.o this
 ·obtain z : a = I := by exact List.mem_singleton.mp hm
  exact T.h (z ▸ ha)
structure WalkIt (c : Cx) (Ob : List Addr) (I : Addr) (fp : List Addr) (xs : List D) (P : Nat → Value → Prop) (St : Nat → Heap → Prop) (s₀ : Shared) : Prop where
 W : Walks c.prog c.w c.A I fp [I] xs.length P St
 nf : ∀ i h, St i h → ∀ b ∈ fp, ∃ o, h.get? b = some o ∧ notFrame o
 items : ∀ i v d, xs[i]? = some d → P i v → Rep (I :: c.X) s₀.heap d v
 apart : ∀ b ∈ fp, b ≠ I → b ∉ Ob
 self : I ∈ fp
theorem next_it {V : List (Str × D)} {i : Nat} (T : ItAt c s₀ (mine c) I) (Wk : WalkIt c Ob I fp xs P St s₀) (S' : Sx { c with X := I :: c.X, vars := V } s₀ (mine c) s) (st : St i s.heap) (hlt : i < xs.length) {Q : Option Value → Shared → Prop}
  (h : ∀ v s', Sx { c with X := I :: c.X, vars := V } s₀ (mine c) s' → Kp c.hb [I] s s' → St (i + 1) s'.heap → Rep (I :: c.X) s'.heap xs[i] v → P i v → Q (some v) s') : wpAny (model c.prog c.w) c.A (pyNext (.ref I)) Q E s := by
 obtain hd : xs[i]? = some xs[i] := by simp [hlt]
 obtain one : ∀ {P : Addr → Prop}, P I → ∀ b ∈ [I], P b := fun {P} h b hb => by exact all_one (h) _ hb
 refine Wk.W.item i s _ _ hlt st fun v h₁ tk₁ hPv st₁ hk₁ => ?_
 have kI : Kp c.hb [I] s { s with heap := h₁, toks := tk₁ } := ⟨h₁, tk₁, rfl, fun q ob e hq => .inl (hk₁ q ob (fun z => hq z) e)⟩
 have S₁ := S'.stepIt T kI (by obtain ⟨ob, e, _⟩ := Wk.nf _ _ st₁ I Wk.self; exact ⟨ob, e⟩)
 refine h v _ S₁ kI st₁ ?_ hPv
 refine (Wk.items i v _ hd hPv).mono fun a ob ha e hnf => ⟨ha, S₁.kp.get e hnf fun hm => ?_⟩
 rcases List.mem_append.mp hm with y | y
 ·exact ha (.tail _ (T.hx a y))
 ·exact ha (.tail _ (T.ox a y))
theorem ex_forIt {x : Str} {px pos : Pos} {iter : Expr} {body orelse : List Stmt} {V : Nat → List (Str × D)} {j₀ : Nat} {Q : Flow → Shared → Prop} {M₀ : Model} {A₀ : Around} {env₀ : Env}
  (T : ItAt c s₀ (mine c) I) (Wk : WalkIt c Ob I fp xs P St s₀) (hOb : ∀ a ∈ mine c, a ∈ Ob) (S : Sx { c with X := I :: c.X, vars := V j₀ } s₀ (mine c) s) (st : St j₀ s.heap) (hj : j₀ ≤ xs.length) (he : Ev { c with X := I :: c.X, vars := V j₀ } iter (.val (.ref I)))
  (turn : ∀ i d s₁ s', xs[i]? = some d → Sx { c with X := I :: c.X, vars := (x, d) :: V i } s₁ (mine c) s' →
   wpAny (model c.prog c.w) c.A (execs body c.env) (fun f s'' => f = .next ∧ Sx { c with X := I :: c.X, vars := V (i + 1) } s₁ (mine c) s'') (fun o_ o_ => False) s')
  (done : ∀ s', Sx { c with vars := V xs.length } s₀ (mine c) s' → wpAny (model c.prog c.w) c.A (execs orelse c.env) Q (fun o_ o_ => False) s')
  (hb : mayBind c.env x = true) (hkf : c.env.scope.kind = .function) (ht : letOwnedTupleGo (.Name x px) = fun o_ o_ => pure () := by rfl)
  (hs : ∀ v, foldedSetIterable iter c.env v = pure v := by intro _; rfl) (hM₀ : M₀ = model c.prog c.w := by rfl) (hA₀ : A₀ = c.A := by rfl) (hE₀ : env₀ = c.env := by rfl) : wpAny M₀ A₀ (exec (.For (.Name x px) iter body orelse pos) env₀) Q E s := by
 subst hM₀ hA₀ hE₀
 obtain hIm : I ∉ mine c := fun hm => (List.mem_append.mp hm).elim T.h T.o
 obtain hfpM : ∀ q ∈ fp, q ∉ mine c := fun q hq hm => by
  by_cases e : q = I
  ·exact hIm (e ▸ hm)
  ·exact Wk.apart q hq e (hOb q hm)
 obtain hmine : ∀ V, mine { c with X := I :: c.X, vars := V } = mine c := fun o_ => rfl
 have stx : ∀ {i : Nat} {sa sb : Shared} {Qs : List Addr}, St i sa.heap → Kp c.hb Qs sa sb → (∀ q ∈ fp, q ∉ Qs) → St i sb.heap := fun {i sa sb Qs} hst kk hq => Wk.W.frame _ _ _ hst fun q hqf ob e => kk.get e (by
  obtain ⟨o', e', h'⟩ := Wk.nf _ _ hst q hqf; obtain rfl := Option.some.inj (e.symm.trans e'); exact h') (hq q hqf)
 refine wpAny_For (wpAny_mono (he s E S.ok) (fun xv s₁ h₁ => ?_) fun o_ o_ e => e) hs
 obtain ⟨k₁, rfl⟩ := h₁
 obtain S₁ := S.step k₁
 have st₁ := stx st k₁ fun o_ o_ h => (nomatch h)
 refine Wk.W.self j₀ s₁ _ _ st₁ ?_
 refine codeAny_forLoop_any (R := fun r s' => match r with | .ok f => Q f s' | .error e => cameBackBy (model c.prog c.w) c.A c.env E e s')
  (fun n s' => ∃ i, n = xs.length + 1 - i ∧ i ≤ xs.length ∧ Sx { c with X := I :: c.X, vars := V i } s₀ (mine c) s' ∧ St i s'.heap) ?_ (xs.length + 1 - j₀) ⟨j₀, rfl, hj, S₁, st₁⟩
 rintro n s' ⟨i, rfl, hi, S', st'⟩
 by_cases hlt : i < xs.length
 ·refine next_it T Wk S' st' hlt fun v s₃ S₃ o_ st₃ r o_ => ?_
  dsimp only
  rw [ht]
  refine wpAny_pure ?_
  refine wpAny_assign_Name (st_name (c := { c with X := I :: c.X, vars := V i }) S₃.rebase hkf (mayBind_of hb) r fun s₄ S₄ => ?_)
  refine wpAny_mono (turn i _ _ _ (by simp [hlt]) S₄) (fun f s₅ T5 => ?_) fun o_ o_ e => e.elim
  obtain ⟨rfl, T5⟩ := T5
  refine ⟨xs.length + 1 - (i + 1), by grind, i + 1, rfl, hlt, S₃.back T5 rfl, stx st₃ T5.kp hfpM⟩
 ·obtain hin : i = xs.length := by grind
  subst hin
  refine Wk.W.done s' _ _ st' fun h₁ tk₁ hk₁ => ?_
  dsimp only
  have kI : Kp c.hb [I] s' { s' with heap := h₁, toks := tk₁ } := ⟨h₁, tk₁, rfl, fun q ob e hq => .inl (hk₁ q ob (fun z => hq z) e)⟩
  have one : ∀ {P : Addr → Prop}, P I → ∀ b ∈ [I], P b := fun {P} h b hb => by exact all_one (h) _ hb
  obtain S₁ : Sx { c with vars := V xs.length } s₀ (mine c) { s' with heap := h₁, toks := tk₁ } := by
   refine ⟨S'.ok.offX (X' := c.X) kI ⟨one (.head _), one T.h, one T.b, one T.f⟩ (fun a ha => .tail _ ha) (fun a ha hm => ?_) (fun q hq => ?_), S'.kp.join kI (one T.O), S'.free, fun a ha => ⟨T.hx a ha, (S'.hx a ha).2⟩, ⟨T.ox, S'.offs.home, S'.offs.base, S'.offs.frame⟩, S'.nd, S'.fr.kp kI (fun a ha hm => ?_), S'.cap⟩
   ·obtain z : a = I := by exact List.mem_singleton.mp ha
    exact absurd (z ▸ hm) T.x
   ·obtain ⟨_, vs, n, hg, hr⟩ := S'.ok.ownKeep kI (one (.head _)) hq fun hm => by
     obtain z : q.1 = I := by exact List.mem_singleton.mp hm
     have : q.1 ∈ ownA c := List.mem_map.mpr ⟨q, hq, rfl⟩
     rw [z] at this; exact T.o this
    exact ⟨T.ox q.1 (List.mem_map.mpr ⟨q, hq, rfl⟩), vs, n, hg, hr.mono fun a o_ ha e o_ => ⟨fun z => ha (.tail _ z), e⟩⟩
   ·obtain z : a = I := by exact List.mem_singleton.mp hm
    exact T.h (z ▸ ha)
  exact wpAny_mono (done _ S₁) (fun f s'' h => h) fun o_ o_ e => e.elim
end
end Mine
end
section
open PySem PySem.W PyProof.Rows PySem.W.X
namespace Mine
open PySem.Calls
section
variable {c : Cx} {s : Shared} {E : Value → Shared → Prop}
noncomputable abbrev liP (vs : List Value) : Nat → Value → Prop := fun i v => vs.toArray[i]? = some v
noncomputable abbrev liSt (I a : Addr) (vs : List Value) : Nat → Heap → Prop := fun i h => h.IsListIter I a i ∧ h.IsList a vs.toArray
theorem pyIter_data {A' : Around} {ds : List D} {v : Value} {k : Nat} (hr : Room c.A k) (r : Rep c.X s.heap (.list ds) v) {Q : Value → Shared → Prop}
  (h : ∀ I a vs s₂, Kp c.hb [] s s₂ → s.heap.get? I = none → (∃ ob, s₂.heap.get? I = some ob) → vs.length = ds.length → WalkIt c c.X I [I, a] ds (liP vs) (liSt I a vs) s → liSt I a vs 0 s₂.heap → Q (.ref I) s₂) : wpAny (model c.prog c.w) A' (pyIter v) Q E s := by
 refine cutG fun P_ hP_ => ?_
 obtain ⟨a, vs, n, rfl, hax, hg, hv⟩ := r
 refine hP_ ?_
 clear hP_ P_
 obtain hl : s.heap.IsList a vs.toArray := ⟨_, hg, rfl, n, rfl⟩
 obtain hne : a ≠ s.heap.objs.size := Nat.ne_of_lt (Heap.lt_size hg)
 refine wpAny_pyIter_list hl (h s.heap.objs.size a vs _ (Kp.push _ _ _) (Heap.get?_none_of_le (Nat.le_refl _)) ⟨_, Heap.get?_push_size _ rfl⟩ hv.length ?_ ⟨⟨_, Heap.get?_push_size _ rfl, rfl, rfl⟩, hl.push _⟩)
 obtain hlen : vs.toArray.size = ds.length := by simp [hv.length]
 obtain W := Walks.list (prog := c.prog) (w := c.w) hr.1 s.heap.objs.size a hne vs.toArray
 rw [hlen] at W
 refine ⟨W, ?_, ?_, ?_, .head _⟩
 ·rintro i h ⟨⟨o1, e1, c1, d1⟩, o2, e2, c2, n2, d2⟩ b hb
  rcases mem_c hb with rfl | hb
  ·exact ⟨o1, e1, fun es n h => by cases d1.symm.trans h⟩
  ·rcases mem_c hb with rfl | z
   ·exact ⟨o2, e2, fun es n h => by cases d2.symm.trans h⟩
   ·exact no_nil z
 ·intro i v d hd hP
  obtain ⟨u, hu, hru⟩ := hv.get hd
  obtain this : v = u := by
   have hP' : vs[i]? = some v := by simpa [liP] using hP
   rw [hu] at hP'; exact (Option.some.inj hP').symm
  subst this
  refine hru.mono fun b ob hb e' o_ => ⟨fun hm => ?_, e'⟩
  rcases mem_c hm with rfl | z
  ·exact absurd (Heap.lt_size e') (Nat.lt_irrefl _)
  ·exact hb z
 ·intro b hb hne'
  rcases mem_c hb with rfl | hb
  ·exact absurd rfl hne'
  ·rcases mem_c hb with rfl | z
   ·exact hax
   ·exact no_nil z
theorem call_iter {A : Around} {M : Program} {w : World} {v : Value} {Q : Value → Shared → Prop} (h : wpAny (model M w) A.in1 (pyIter v) Q E s) : wpAny (model M w) A (call (.builtin "iter") [v]) Q E s := by
 refine Calls.call_function_entry (by decide +kernel) (by decide +kernel) kdk_entry_iter (kdk_args_iter _) ?_
 unfold Builtin.«iter»
 refine wpAny_bind (m := someArgs "iter" 1 2 _) (wpAny_of_eq (a := [v]) (by first | rfl | kernel_rfl!) ?_)
 exact wpAny_bind (wpAny_mono h (fun v s' q => wpAny_pure ⟨v, rfl, q⟩) fun o_ o_ e => e)
theorem call_next {A : Around} {M : Program} {w : World} {it l : Addr} {i : Nat} {items : Array Value} {x : Value} {Q : Value → Shared → Prop} (hit : s.heap.IsListIter it l i) (hl : s.heap.IsList l items) (hx : items[i]? = some x)
  (hQ : ∀ h', h'.IsListIter it l (i + 1) → Heap.SameBut it s.heap h' → Q x { s with heap := h' }) : wpAny (model M w) A (call (.builtin "next") [.ref it]) Q E s := by
 refine Calls.call_function_entry (by decide +kernel) (by decide +kernel) kdk_entry_next (kdk_args_next _) ?_
 unfold Builtin.«next»
 refine wpAny_bind (m := someArgs "next" 1 2 _) (wpAny_of_eq (a := [Value.ref it]) (by first | rfl | kernel_rfl!) ?_)
 dsimp only
 refine wpAny_bind (wpAny_specialOf (name := Str.ofString "__next__") hit.typeIs slot_listiter_next.lookup ?_)
 refine wpAny_ite_split (fun hab => absurd hab (by decide)) (fun o_ => ?_)
 refine cutG fun P_ hP_ => ?_
 obtain ⟨o, ho, hc, hd⟩ := id hit
 obtain ⟨ol, hol, _, nl, hdl⟩ := hl
 refine hP_ ?_
 clear hP_ P_
 refine wpAny_bind (wpAny_callSpecial?_slot (name := Str.ofString "__next__") hit.typeIs slot_listiter_next (wpAny_call_entry slot_listiter_next hit.typeIs entry_listiter_next ?_ (args_listiter_next _)))
 refine wpAny_bind (wpAny_of_eq (a := (Value.ref it, [])) rfl ?_)
 refine wpAny_bind (wpAny_field ho hd (x := .ref l) rfl ?_)
 refine KFB.if_not rfl ?_
 refine wpAny_bind (wpAny_field ho hd (x := .int i 0) rfl ?_)
 refine wpAny_bind (wpAny_seqItems hol hdl ?_)
 simp only [Int.toNat_natCast, hx]
 refine wpAny_bind (wpAny_setField ho hd (by simp) (wpAny_pure ⟨x, rfl, wpAny_pure ⟨x, rfl, hQ _ ?_ (Heap.SameBut.update ..)⟩⟩))
 refine ⟨_, Heap.get?_update_self _ ho (Obj.isFreed_of_fields (Obj.data_mapFields hd _)), (Obj.cls_mapFields ..).trans hc, ?_⟩
 rw [Obj.data_mapFields hd]; simp [rawInt]
end
theorem lam8_call {c : Cx} {k : Nat} {hb₀ : Heap} {lam c' : Addr} {q : Str} {pm ctv : Value} (hr : Room c.A (k + 1)) (nl : hb₀.NoLimit) (hlam : hb₀.get? lam = some (kla_obj "<lambda>" q (lamP 8) (lamB 8) (lamS 8) [] pm c' ctv)) (hcd : hb₀.CodeRec (.ref c') q) {xs ys : List D} (hsz : xs.length + ys.length ≤ sizeLine) (hh : c.hb = hb₀ := by rfl) :
  CallP c (.ref lam) [.list xs, .list ys] (.list (xs ++ ys)) := fun s E vs o hv => by
 subst hh
 obtain ⟨v, _, rfl, h1, u, _, rfl, h2, rfl⟩ := hv
 exact call_lam (bd := [("one", .list xs), ("row", .list ys)]) (cap := []) (binds := [("one", v), ("row", u)]) hr nl (o.base _ _ hlam) (hcd.keeps o.base) o rfl rfl ⟨v, _, rfl, h1, u, _, rfl, h2, rfl⟩
  (fun L => ev_cat (ev_var rfl) .val (ev_var rfl) .val hsz) (by exact (by decide : (["one", "row"] : List Str).Nodup)) (by simp only [List.forall_mem_cons]; exact ⟨rfl, rfl, fun o_ h => (nomatch h)⟩) (fun o_ o_ h => (nomatch h)) (fun o_ h => (nomatch h)) (by decide) rfl rfl rfl
noncomputable def ReduceAt (hb : Heap) : Prop := ∃ dV kV, FnAt hb 30 (fName 3) (fArgs 3) (fBody 3) (fScope 3) dV kV (.ref (30 - 1)) ∧
 ∀ (s : Shared) (v u : Value) name doc pm an ct, hb.StaysIn s.heap → BindsTo s (fnX name (fName 3) (fArgs 3) (fBody 3) (fScope 3) [] dV kV doc pm an (.ref (30 - 1)) ct) ⟨[v, u], []⟩ [("function", v), ("sequence", u), ("initial", .ref 22)]
end Mine
end
section
open PySem PySem.W PyProof.Rows PySem.W.X
namespace Mine
open PySem.Calls
theorem Sx.itAt {c : Cx} {s₀ s : Shared} {O : List Addr} {I : Addr} (S : Sx c s₀ O s) (h : s.heap.get? I = none) : ItAt c s₀ O I := by
 obtain ⟨h1, h2, h3, h4, h5, h6⟩ := S.freshAddr h
 exact ⟨h1, h2, h3, h4, h5, h6, fun a ha => (S.hx a ha).1, S.offs.x⟩
noncomputable def catTo (ls : List (List D)) (i : Nat) : List D := (ls.take i).flatten
theorem catTo_succ {ls : List (List D)} {i : Nat} (h : i < ls.length) : catTo ls (i + 1) = catTo ls i ++ ls.getD i [] := by
 unfold catTo
 rw [List.take_add_one, List.flatten_append]
 simp [List.getD, h]
theorem catTo_le {ls : List (List D)} (i : Nat) {n : Nat} (h : (ls.map List.length).sum ≤ n) : (catTo ls i).length ≤ n := by
 unfold catTo
 rw [List.length_flatten]
 refine Nat.le_trans ?_ h
 conv => rhs; rw [← List.take_append_drop i ls, List.map_append, List.sum_append]
 exact Nat.le_add_right _ _
noncomputable abbrev rdEnv (L : Addr) : Env := fnEnv (fName 3) (fScope 3) L 30 (.ref (30 - 1))
noncomputable abbrev rdC (c : Cx) (L lam : Addr) (ls : List (List D)) : Cx := { prog := c.prog, w := c.w, A := c.A.deeper (rdEnv L), hb := c.hb, env := rdEnv L, X := homes (rdEnv L) ++ c.X, vars := [("function", .val (.ref lam)), ("sequence", .list (ls.map .list)), ("initial", .val (.ref 22))], own := [] }
theorem reduce_call {c : Cx} {k : Nat} (hr : Room c.A (k + 2)) {hb₀ : Heap} (G : Gl hb₀) (R : ReduceAt hb₀) (nl : hb₀.NoLimit) {lam c' : Addr} {q : Str} {pm ctv : Value} (hlam : hb₀.get? lam = some (kla_obj "<lambda>" q (lamP 8) (lamB 8) (lamS 8) [] pm c' ctv)) (hcd : hb₀.CodeRec (.ref c') q) {l0 : List D} {ls : List (List D)} (hsz : ((l0 :: ls).map List.length).sum ≤ 100) (hls : ls.length ≤ 100) (hh : c.hb = hb₀ := by rfl) :
  CallP c (.ref 30) [.val (.ref lam), .list ((l0 :: ls).map .list)] (.list (catTo (l0 :: ls) (ls.length + 1))) := by
 subst hh
 obtain ⟨dV, kV, F, hB⟩ := R
 refine callP_fn F (bd := [("function", .val (.ref lam)), ("sequence", .list ((l0 :: ls).map .list)), ("initial", .val (.ref 22))]) hr ?_ ?_ (by exact (by decide : (["function", "sequence", "initial"] : List Str).Nodup)) (fun n => by rfl) (by exact List.nodup_nil) rfl rfl rfl
 ·rintro s vs o ⟨v, _, rfl, h1, u, _, rfl, h2, rfl⟩
  exact ⟨[("function", v), ("sequence", u), ("initial", .ref 22)], fun name doc pm an ct => hB s v u name doc pm an ct o.base, rfl, ⟨v, _, rfl, h1, u, _, rfl, h2, _, _, rfl, rfl, rfl⟩⟩
 ·intro L s s₁ o S
  dsimp only [fnCx] at S
  have hr' := hr.deeper (fnEnv (fName 3) (fScope 3) L 30 (.ref 29))
  obtain ⟨fl, hfl, _⟩ := o.frames
  refine ex_cons ?_
  -- it = iter(sequence)
  refine wpAny_Assign_Name (Call_Name rfl (wpAny_mono ((ev_bi G rfl : Ev (rdC c L lam (l0 :: ls)) (.Name "iter" _) (.val (.builtin "iter"))) s₁ _ S.ok) (fun f' s₂ h₂ => ?_) fun o_ o_ e => e)) rfl
  obtain ⟨k₂, rfl⟩ := h₂
  have S₂ := S.step k₂
  refine callWith_data S₂.ok kpr_builtin (evs_cons (ev_var (d := .list ((l0 :: ls).map .list)) rfl) evs_nil) (fun s₃ vs k₃ hvs => ?_) rfl rfl
  obtain ⟨v, _, rfl, hv, rfl⟩ := hvs
  have S₃ := S₂.step k₃
  refine call_iter (pyIter_data (c := rdC c L lam (l0 :: ls)) hr' hv fun I a us s₄ k₄ hI hex hul Wk hst => ?_)
  have R₃ := S₃.rebase
  have T := R₃.itAt hI
  have R₄ := R₃.hide k₄ hI hex
  obtain hIm : I ∉ mine (rdC c L lam (l0 :: ls)) := fun hm => (List.mem_append.mp hm).elim T.h T.o
  obtain hfpM : ∀ q ∈ [I, a], q ∉ mine (rdC c L lam (l0 :: ls)) := fun q hq hm => by
   by_cases e : q = I
   ·exact hIm (e ▸ hm)
   ·exact Wk.apart q hq e (mine_sub S₃ q hm)
  have stx : ∀ {i : Nat} {sa sb : Shared}, liSt I a us i sa.heap → Kp c.hb (mine (rdC c L lam (l0 :: ls))) sa sb → liSt I a us i sb.heap := fun {i sa sb} hst kk => Wk.W.frame _ _ _ hst fun q hqf ob e => kk.get e (by
   obtain ⟨o', e', h'⟩ := Wk.nf _ _ hst q hqf; obtain rfl := Option.some.inj (e.symm.trans e'); exact h') (hfpM q hqf)
  refine st_name (c := { rdC c L lam (l0 :: ls) with X := I :: (rdC c L lam (l0 :: ls)).X }) R₄.rebase rfl (.inl rfl) (d := .val (.ref I)) rfl fun s₅ Q₅ => ?_
  obtain st₅ := stx hst Q₅.kp
  have R₅ := R₄.back Q₅ rfl
  -- if initial is _initial_missing
  refine ex_cons ?_
  refine ex_if (c := { rdC c L lam (l0 :: ls) with X := I :: (rdC c L lam (l0 :: ls)).X, vars := ("it", .val (.ref I)) :: (rdC c L lam (l0 :: ls)).vars }) (b := true) R₅.rebase (et_cmp (ev_var rfl) (ev_gl G rfl) cmp_is_self) (fun o_ s₆ Q₆ => ?_) (fun h => by cases h)
  obtain st₆ := stx st₅ Q₆.kp
  have R₆ := R₅.back Q₆ rfl
  -- value = next(it)
  refine ex_cons ?_
  refine wpAny_Try_except ?_
  refine cutQ fun Q₂ E₂ hQ₂ hE₂ => ?_
  refine ex_cons ?_
  refine wpAny_Assign_Name (Call_Name rfl (wpAny_mono ((ev_bi G rfl : Ev { rdC c L lam (l0 :: ls) with X := I :: (rdC c L lam (l0 :: ls)).X, vars := ("it", .val (.ref I)) :: (rdC c L lam (l0 :: ls)).vars } (.Name "next" _) (.val (.builtin "next"))) s₆ _ R₆.ok) (fun f' s₇ h₇ => ?_) fun o_ o_ e => e)) rfl
  obtain ⟨k₇, rfl⟩ := h₇
  obtain st₇ := stx st₆ (k₇.weaken fun o_ h => (nomatch h))
  have R₇ := R₆.step k₇
  refine callWith_data R₇.ok kpr_builtin (evs_cons (ev_var (d := .val (.ref I)) rfl) evs_nil) (fun s₈ vs k₈ hvs => ?_) rfl rfl
  obtain ⟨v, _, rfl, rfl, rfl⟩ := hvs
  have st₈ := stx st₇ (k₈.weaken fun o_ h => (nomatch h))
  obtain R₈ := R₇.step k₈
  have hx0 : us.toArray[0]? = some (us.getD 0 .none) := by
   cases us with
   | nil => simp at hul
   | cons u us => rfl
  refine call_next st₈.1 st₈.2 hx0 fun h₉ hit₉ hs₉ => ?_
  obtain kI : Kp c.hb [I] s₈ { s₈ with heap := h₉ } := sameBut_kp hs₉ s₈.toks
  have R₉ := R₈.stepIt T kI (by obtain ⟨ob, e, _⟩ := hit₉; exact ⟨ob, e⟩)
  obtain hIa : a ≠ I := fun e => by
   have := Wk.W
   obtain ⟨ob, e1, e2, n, e3⟩ := st₈.2
   obtain ⟨ob', f1, f2, f3⟩ := st₈.1
   rw [e, f1] at e1; cases e1; cases f3.symm.trans e3
  obtain st₉ : liSt I a us 1 h₉ := by
   obtain ⟨ob, e1, e2⟩ := st₈.2
   exact ⟨hit₉, ob, (hs₉.2 _ hIa).trans e1, e2⟩
  obtain r9 : Rep (I :: (rdC c L lam (l0 :: ls)).X) h₉ (.list l0) (us.getD 0 .none) := by
   refine (Wk.items 0 _ (.list l0) rfl hx0).mono fun b ob hb e hnf => ⟨hb, R₉.kp.get (s := s₃) e hnf fun hm => hb (.tail _ ?_)⟩
   rcases List.mem_append.mp hm with y | y
   ·exact T.hx b y
   ·exact T.ox b y
  refine st_name (c := { rdC c L lam (l0 :: ls) with X := I :: (rdC c L lam (l0 :: ls)).X, vars := ("it", .val (.ref I)) :: (rdC c L lam (l0 :: ls)).vars }) R₉.rebase rfl (.inl rfl) r9 fun s₁₀ Q₁₀ => ?_
  obtain st₁₀ := stx (sa := { s₈ with heap := h₉ }) st₉ Q₁₀.kp
  obtain R₁₀ := R₉.back Q₁₀ rfl
  refine ex_nil ?_
  refine hQ₂ _ _ ?_
  refine ex_nil ?_
  refine ex_nil ?_
  -- the loop
  refine ex_cons ?_
  refine ex_forIt (c := rdC c L lam (l0 :: ls)) (V := fun i => [("value", .list (catTo (l0 :: ls) i)), ("it", .val (.ref I)), ("function", .val (.ref lam))]) (j₀ := 1) T Wk (mine_sub S₃) (R₁₀.vars ?_) st₁₀ (by simp) (ev_var rfl) ?_ ?_ rfl rfl
  ·obtain e : catTo (l0 :: ls) 1 = l0 := by simp [catTo]
   rw [e]
   dsimp only [rdC]
   exact lk_keep (lk_keep (lk_keep lk_nil))
  ·intro i d s₁₁ s₁₂ hd S₁₂
   obtain ⟨hi, rfl⟩ := at_map (z := ([] : List D)) hd
   have hstep := catTo_succ hi
   obtain hle := catTo_le (ls := l0 :: ls) (i + 1) hsz
   rw [hstep, List.length_append] at hle
   refine ex_cons ?_
   refine ex_assign S₁₂ (ev_call (ev_var (d := .val (.ref lam)) rfl) (evs_cons (ev_var rfl) (evs_cons (ev_var rfl) evs_nil)) (by exact kpr_fn hlam rfl) (by exact lam8_call hr' nl hlam hcd (xs := catTo (l0 :: ls) i) (ys := (l0 :: ls).getD i []) (by unfold sizeLine; omega))) (fun s₁₃ S₁₃ => ?_) rfl rfl rfl
   refine ex_nil ⟨rfl, ?_⟩
   rw [hstep]
   exact S₁₃.vars (lk_keep (lk_skip (lk_skip lk_id)))
  ·intro s₁₁ S₁₁
   refine ex_nil ?_
   rw [List.length_map] at S₁₁
   refine ex_cons ?_
   refine ex_return S₁₁ (d := .list (catTo (l0 :: ls) (ls.length + 1))) (ev_var rfl) ?_
   intro s₁₂ v S₁₂ r
   exact ⟨v, rfl, (S₃.back S₁₂ rfl).kp, r.sub fun b hb => List.mem_append_right _ hb⟩
end Mine
end
section
open PySem PySem.W PyProof.Rows PySem.W.X
namespace Mine
section
variable {α : Type} {prog : Program} {w : World} {A : Around} {E : Value → Shared → Prop} {Q : α → Shared → Prop} {h₀ h : Heap} {g : Array GenState} {d : Drawn} {tk : Nat} {os : OsState} {chg news : List (Addr × Obj)} {c : Code}
theorem m_rule {t : String} {s : Shared} {k : Unit → Sem α} (x : wpOwn (model prog w) A c (k ()) Q E s) : wpOwn (model prog w) A c (.rule t k) Q E s := x
theorem m_point {l : List Value} {s : Shared} {k : Unit → Sem α} (x : wpOwn (model prog w) A c (k ()) Q E s) : wpOwn (model prog w) A c (.point l k) Q E s := x
theorem m_ask {s : Shared} {k : Setting → Sem α} (x : wpOwn (model prog w) A c (k ⟨prog, w.params⟩) Q E s) : wpOwn (model prog w) A c (.ask k) Q E s := x
theorem m_fresh {k : Tok → Sem α} (x : wpOwn (model prog w) A c (k tk) Q E ⟨h, g, d, tk + 1, os⟩) : wpOwn (model prog w) A c (.fresh k) Q E ⟨h, g, d, tk, os⟩ := by apply y_fresh; exact x
theorem m_old {a : Addr} {q : Option Value} {k : Obj → Sem α} {o : Obj} (D : Mem h₀ h chg news) (ho : h₀.get? a = some o) (ha : (hasCls o || away chg a) = true) (x : wpOwn (model prog w) A c (k o) Q E ⟨h, g, d, tk, os⟩) : wpOwn (model prog w) A c (.load a q k) Q E ⟨h, g, d, tk, os⟩ := by apply y_load (ho := D.keep a o ho ha); exact x
theorem m_new {a : Addr} {q : Option Value} {k : Obj → Sem α} {o : Obj} (D : Mem h₀ h chg news) (i : Nat) (hi : news[i]? = some (a, o)) (x : wpOwn (model prog w) A c (k o) Q E ⟨h, g, d, tk, os⟩) : wpOwn (model prog w) A c (.load a q k) Q E ⟨h, g, d, tk, os⟩ := by apply y_load (ho := D.at i a o hi); exact x
theorem m_alloc {o : Obj} {k : Addr → Sem α} (D : Mem h₀ h chg news) (hf : o.isFreed = false) (x : ∀ a h', Mem h₀ h' chg ((a, o) :: news) → wpOwn (model prog w) A c (k a) Q E ⟨h', g, d, tk, os⟩) : wpOwn (model prog w) A c (.alloc o k) Q E ⟨h, g, d, tk, os⟩ := by apply y_alloc (D := D) (hf := hf); exact x
theorem m_update {a : Addr} {q : Option Value} {f : Obj → Obj} {k : Unit → Sem α} {o : Obj} (D : Mem h₀ h chg news) (i : Nat) (hi : news[i]? = some (a, o)) (hf : (f o).isFreed = false) (x : ∀ h', Mem h₀ h' chg (news.set i (a, f o)) → wpOwn (model prog w) A c (k ()) Q E ⟨h', g, d, tk, os⟩) : wpOwn (model prog w) A c (.update a q f k) Q E ⟨h, g, d, tk, os⟩ :=
 by apply y_update (D := D) (hi := hi) (hf := hf); exact x
theorem m_callE {s : Shared} {c' c'' : Code} {hd : Option Value} {gd : Bool} {l : List Value} {k : Result → Sem α} (e : c' = c'') (x : wpAny (model prog w) (A.under c) (.call c'' hd gd l Sem.pure) (fun r s' => wpOwn (model prog w) A c (k r) Q E s') E s) : wpOwn (model prog w) A c (.call c' hd gd l k) Q E s := by
 subst e
 intro Γ p hc hΓ
 obtain ⟨r, s', hr, hw⟩ := x Γ p (hc ▸ hΓ.in)
 exact ⟨r, s', hr, hw Γ p hc hΓ⟩
theorem m_bind {β : Type} {s : Shared} {m : Sem β} {f : β → Sem α} (x : wpOwn (model prog w) A c m (fun a s' => wpOwn (model prog w) A c (f a) Q E s') E s) : wpOwn (model prog w) A c (m.bind f) Q E s := wpOwn_bind x
theorem m_pure {s : Shared} {a : α} (x : Q a s) : wpOwn (model prog w) A c (.pure a) Q E s := fun o_ o_ o_ o_ => x
theorem m_call {s : Shared} {c' : Code} {hd : Option Value} {gd : Bool} {l : List Value} {k : Result → Sem α} (x : wpAny (model prog w) (A.under c) (.call c' hd gd l Sem.pure) (fun r s' => wpOwn (model prog w) A c (k r) Q E s') E s) : wpOwn (model prog w) A c (.call c' hd gd l k) Q E s := by
 intro Γ p hc hΓ
 obtain ⟨r, s', hr, hw⟩ := x Γ p (hc ▸ hΓ.in)
 exact ⟨r, s', hr, hw Γ p hc hΓ⟩
end
theorem slots_re {h₀ h : Heap} {chg rest : List (Addr × Obj)} {a : Addr} {c : Value} {d : Option Addr} {dt : Data} {sl sl' : Array (Option Value)} (D : Mem h₀ h chg ((a, ⟨c, d, dt, sl⟩) :: rest)) (e : sl = sl') : Mem h₀ h chg ((a, ⟨c, d, dt, sl'⟩) :: rest) := e ▸ D
section
variable {prog : Program} {w : World} {A : Around} {E : Value → Shared → Prop} {s : Shared}
noncomputable abbrev dnx (c : Code) : Sem PySem.Fin := XFast.xw11892475500146522536 XFast.tableX c
theorem dnx_eq (c : Code) : denote table c = dnx c := by rw [XFast.xe11892475500146522536, XFast.tableX_eq]
theorem m_enter {hd : Option Value} {g : Bool} {l : List Value} {c' : Code} {Q : Result → Shared → Prop} (hnb : hd ≠ some byPass) (x : wpOwn (model prog w) (A.mark hd) c' (dnx c') (postC prog w (A.mark hd) (postA prog w A Q E Sem.pure)) (postE (postA prog w A Q E Sem.pure)) s) : wpAny (model prog w) A (.call c' hd g l Sem.pure) Q E s := by
 rw [← dnx_eq] at x
 apply y_start
 ·exact hnb
 ·apply y_code; exact x
theorem m_again {R : Result → Shared → Prop} {c' : Code} (hq : c'.quiet = true) (x : wpOwn (model prog w) A c' (dnx c') (postC prog w A R) (postE R) s) : postC prog w A R (.again c') s := by
 rw [← dnx_eq] at x
 exact ⟨hq, by apply y_code; exact x⟩
theorem m_done {A' : Around} {Q : Result → Shared → Prop} {f : Flow} (x : Q (.ok f) s) : postC prog w A' (postA prog w A Q E Sem.pure) (.done f) s := fun o_ o_ o_ => x
end
theorem loop_eq {β : Type} (F : Value → β → Sem (ForInStep β)) (as : List Value) : ∀ (as' : List Value) (b : β) (h : ∃ bs, bs ++ as' = as), List.forIn'.loop as (fun a o_ b => F a b) as' b h = forIn as' b F
 | [], b, h => by rw [List.forIn_nil]; rfl
 | x :: xs, b, h => by
  rw [List.forIn_cons]
  show (F x b >>= _) = _
  congr 1
  funext r
  cases r with
  | done b => rfl
  | yield b => exact loop_eq F as xs b _
theorem m_loop {β : Type} {prog : Program} {w : World} {A : Around} {c : Code} {E : Value → Shared → Prop} {s : Shared} {Q : β → Shared → Prop} {F : Value → β → Sem (ForInStep β)} {as as' : List Value} {b : β} {h : ∃ bs, bs ++ as' = as} (l : List Value) (e : as' = l) (x : wpOwn (model prog w) A c (forIn l b F) Q E s) : wpOwn (model prog w) A c (List.forIn'.loop as (fun a o_ b => F a b) as' b h) Q E s := by
 subst e; rw [loop_eq]; exact x
theorem dropw {dec : DecidableEq Value} (a : Addr) : List.drop 1 (List.dropWhile (fun x => @bne Value (@instBEqOfDecidableEq Value dec) x (.ref a)) [.ref a, .type "object"]) = [.type "object"] := by
 have h1 : (@bne Value (@instBEqOfDecidableEq Value dec) (.ref a) (.ref a)) = false := by simp
 have h2 : (@bne Value (@instBEqOfDecidableEq Value dec) (.type "object") (.ref a)) = true := by simp
 rw [List.dropWhile_cons, h1]
 rfl
theorem cond_self {dec : DecidableEq Value} {v w : Value} (a : Addr) : condFn Value (@BEq.beq Value (@instBEqOfDecidableEq Value dec) (.ref a) (.ref a)) v w = v := by
 have h1 : (@BEq.beq Value (@instBEqOfDecidableEq Value dec) (.ref a) (.ref a)) = true := by simp
 rw [h1]; rfl
theorem mem_all {h₀ h : Heap} {news : List (Addr × Obj)} (D : Mem h₀ h [] news) {b : Addr} {o : Obj} (e : h₀.get? b = some o) : h.get? b = some o := D.keep b o e (Bool.or_true _)
noncomputable def Grow (h h' : Heap) (l : List (Addr × Obj)) : Prop := (∀ b o, h.get? b = some o → h'.get? b = some o) ∧ ∀ p ∈ l, h'.get? p.1 = some p.2 ∧ h.get? p.1 = none
theorem Grow.of_mem {h₀ h : Heap} {news : List (Addr × Obj)} (D : Mem h₀ h [] news) : Grow h₀ h news := ⟨fun o_ o_ e => mem_all D e, D.nw⟩
theorem Grow.trans {h₀ h₁ h₂ : Heap} {l l' : List (Addr × Obj)} (D : Grow h₀ h₁ l) (D' : Grow h₁ h₂ l') : Grow h₀ h₂ (l' ++ l) := ⟨fun b o e => D'.1 b o (D.1 b o e), fun p hp => by
 rcases List.mem_append.mp hp with hp | hp
 ·refine ⟨(D'.2 p hp).1, ?_⟩
  cases e : h₀.get? p.1 with
  | none => rfl
  | some o => exact absurd (D'.2 p hp).2 (by rw [D.1 _ _ e]; simp)
 ·exact ⟨D'.1 _ _ (D.2 p hp).1, (D.2 p hp).2⟩⟩
theorem Grow.sub {h h' : Heap} {l l' : List (Addr × Obj)} (D : Grow h h' l) (q : ∀ p ∈ l', p ∈ l) : Grow h h' l' := ⟨D.1, fun p hp => D.2 p (q p hp)⟩
theorem news3 {h₀ h : Heap} {chg rest : List (Addr × Obj)} {a0 a1 a2 : Addr} {o0 o1 o2 o0' o1' o2' : Obj} (D : Mem h₀ h chg ((a0, o0) :: (a1, o1) :: (a2, o2) :: rest)) (e0 : o0 = o0') (e1 : o1 = o1') (e2 : o2 = o2') : Mem h₀ h chg ((a0, o0') :: (a1, o1') :: (a2, o2') :: rest) := e0 ▸ e1 ▸ e2 ▸ D
theorem filt {dec : DecidableEq Value} (a : Addr) : @List.filter Value (fun x => @bne Value (@instBEqOfDecidableEq Value dec) x (.ref a)) [.ref a, .type "object"] = [.type "object"] := by
 have h1 : (@bne Value (@instBEqOfDecidableEq Value dec) (.ref a) (.ref a)) = false := by simp
 have h2 : (@bne Value (@instBEqOfDecidableEq Value dec) (.type "object") (.ref a)) = true := by simp
 rw [List.filter_cons_of_neg (by rw [h1]; simp), List.filter_cons_of_pos (by exact h2), List.filter_nil]
end Mine
end
section
open PySem PySem.W PyProof.Rows PySem.W.X
namespace Mine
noncomputable abbrev tK (l : List Nat) : Str := ⟨⟨l⟩⟩
noncomputable abbrev qnK : Str := tK [99, 109, 112, 95, 116, 111, 95, 107, 101, 121, 46, 60, 108, 111, 99, 97, 108, 115, 62, 46, 75]
noncomputable abbrev A0 (e0 e1 : Env) (x : Args) : Around := ((((callerA.deeper e0).mark none).under (.func (fBody 1) e1)).under (.builtin "type.__call__" x)).mark none
noncomputable abbrev oList (qs : Tok) (n : Nat) : Obj := ⟨.type "list", none, .seq ⟨[.str (tK [111, 98, 106]) qs]⟩ n, #[]⟩
noncomputable def hx (w : World) (l : List Nat) : Int := condFn Int (Array.isEmpty (Array.mk l)) 0 (XFast.xw12210062019545310541 (w.params.strHash (Array.mk l)))
noncomputable abbrev descO (C : Addr) (t : Tok) : Obj := ⟨.type "member_descriptor", none, .fields ⟨[.str (tK [111, 98, 106]) t, .ref C, .builtin "proto.slot", .builtin "proto.slot#set", rawInt 0]⟩, #[]⟩
noncomputable abbrev clsO (C nd bT : Addr) (t : Tok) (qn : Str) (q2 : Tok) : Obj := ⟨.type "type", none, .cls { name := tK [75], bases := [.type "object"], mro := [.ref C, .type "object"], ns := nd, qualname := qn, hasDict := false, slotNames := [tK [111, 98, 106]] }, ⟨[some (.ref bT), none, some (.str (tK [75]) t), some (.str qn q2), some (.builtin "object.__new__"), some (.bool false)]⟩⟩
noncomputable def NewOne (s : Shared) (ob : Obj) (r : Result) (s' : Shared) : Prop := ∃ a h', r = .ok (.ret (.ref a)) ∧ s' = ⟨h', s.gens, s.drawn, s.toks, s.os⟩ ∧ Mem s.heap h' [] [(a, ob)]
theorem E4.x_fin {s₀ s : Shared} {ob : Obj} {Q : Result → Shared → Prop} {r : Result} {h' : Heap} {a : Addr} (h : ∀ r s', NewOne s₀ ob r s' → Q r s') (D : Mem s₀.heap h' [] [(a, ob)]) (e1 : r = .ok (.ret (.ref a))) (e2 : s = ⟨h', s₀.gens, s₀.drawn, s₀.toks, s₀.os⟩) (_ : (0 : Nat) = 0) : Q r s := h r s ⟨a, h', e1, e2, D⟩
theorem E6.x_fin {s₀ s : Shared} {ob o : Obj} {Q : Result → Shared → Prop} {r : Result} {h' : Heap} {a : Addr} (h : ∀ r s', NewOne s₀ ob r s' → Q r s') (D : Mem s₀.heap h' [] [(a, o)]) (e1 : r = .ok (.ret (.ref a))) (e2 : s = ⟨h', s₀.gens, s₀.drawn, s₀.toks, s₀.os⟩) (e : o = ob) : Q r s := h r s ⟨a, h', e1, e2, e ▸ D⟩
section
open E4
set_option maxRecDepth 100000 in
set_option maxHeartbeats 8000000 in
theorem col {prog : Program} {w : World} {e0 e1 : Env} {x y : Args} {s : Shared} {Q : Result → Shared → Prop} {E : Value → Shared → Prop} {sl : Addr} {qs es l} (hl : s.heap.get? sl = some (oList qs es))
  (hQ : ∀ r s', NewOne s (oList qs 1) r s' → Q r s') :
  wpAny (model prog w) ((A0 e0 e1 x).under (.builtin "type.__new__" y)) (.call (.builtin "proto.collect" ⟨[.ref sl], []⟩) none false l Sem.pure) Q E s := by
 have hl' : s.heap.get? sl = some ⟨.type "list", none, .seq ⟨[.str (tK [111, 98, 106]) qs]⟩ es, #[]⟩ := hl
 clear hl
 x_run
set_option maxRecDepth 100000 in
set_option maxHeartbeats 8000000 in
theorem supc {prog : Program} {w : World} {e0 e1 : Env} {x y : Args} {s : Shared} {Q : Result → Shared → Prop} {E : Value → Shared → Prop} {C nd bT : Addr} {t q2 : Tok} {l gd} (hl : s.heap.get? C = some (clsO C nd bT t qnK q2))
  (hQ : ∀ r s', NewOne s ⟨.type "super", none, .fields ⟨[.ref C, .ref C, .ref C]⟩, #[]⟩ r s' → Q r s') :
  wpAny (model prog w) ((A0 e0 e1 x).under (.builtin "type.__new__" y)) (.call (.call (.type "super") ⟨[.ref C, .ref C], []⟩) none gd l Sem.pure) Q E s := by
 have hl' : s.heap.get? C = some ⟨.type "type", none, .cls { name := tK [75], bases := [.type "object"], mro := [.ref C, .type "object"], ns := nd, qualname := qnK, hasDict := false, slotNames := [tK [111, 98, 106]] }, ⟨[some (.ref bT), none, some (.str (tK [75]) t), some (.str qnK q2), some (.builtin "object.__new__"), some (.bool false)]⟩⟩ := hl
 clear hl
 x_run
set_option maxRecDepth 100000 in
set_option maxHeartbeats 8000000 in
theorem cmget {prog : Program} {w : World} {e0 e1 : Env} {x y z : Args} {s : Shared} {Q : Result → Shared → Prop} {E : Value → Shared → Prop} {C nd bT : Addr} {t q2 : Tok} {l gd} (hl : s.heap.get? C = some (clsO C nd bT t qnK q2))
  (hQ : ∀ r s', NewOne s ⟨.type "builtin_function_or_method", none, .fields ⟨[.builtin "object.__init_subclass__", .ref C]⟩, #[]⟩ r s' → Q r s') :
  wpAny (model prog w) ((((A0 e0 e1 x).under (.builtin "type.__new__" y)).mark none).under (.builtin "super.__getattribute__" z)) (.call (.call (.builtin "classmethod_descriptor.__get__") ⟨[.builtin "object.__init_subclass__", .none, .ref C], []⟩) none gd l Sem.pure) Q E s := by
 have hl' : s.heap.get? C = some ⟨.type "type", none, .cls { name := tK [75], bases := [.type "object"], mro := [.ref C, .type "object"], ns := nd, qualname := qnK, hasDict := false, slotNames := [tK [111, 98, 106]] }, ⟨[some (.ref bT), none, some (.str (tK [75]) t), some (.str qnK q2), some (.builtin "object.__new__"), some (.bool false)]⟩⟩ := hl
 clear hl
 x_run
end
noncomputable def NoneOne (s : Shared) (r : Result) (s' : Shared) : Prop := ∃ h', r = .ok (.ret .none) ∧ s' = ⟨h', s.gens, s.drawn, s.toks, s.os⟩ ∧ Mem s.heap h' [] []
theorem E5.x_fin {s₀ s : Shared} {Q : Result → Shared → Prop} {r : Result} (h : ∀ r s', NoneOne s₀ r s' → Q r s') (_ : ∀ r s', NoneOne s₀ r s' → Q r s') (e1 : r = .ok (.ret .none)) (e2 : s = s₀) (_ : (0 : Nat) = 0) : Q r s := h r s ⟨s₀.heap, e1, e2, Mem.start _⟩
section
open E5
set_option maxRecDepth 100000 in
set_option maxHeartbeats 8000000 in
theorem initsub {prog : Program} {w : World} {e0 e1 : Env} {x y : Args} {s : Shared} {Q : Result → Shared → Prop} {E : Value → Shared → Prop} {C nd bT m : Addr} {t q2 : Tok} {l gd} (hl : s.heap.get? C = some (clsO C nd bT t qnK q2))
  (hm : s.heap.get? m = some ⟨.type "builtin_function_or_method", none, .fields ⟨[.builtin "object.__init_subclass__", .ref C]⟩, #[]⟩)
  (hQ : ∀ r s', NoneOne s r s' → Q r s') :
  wpAny (model prog w) ((A0 e0 e1 x).under (.builtin "type.__new__" y)) (.call (.call (.ref m) ⟨[], []⟩) none gd l Sem.pure) Q E s := by
 have hl' : s.heap.get? C = some ⟨.type "type", none, .cls { name := tK [75], bases := [.type "object"], mro := [.ref C, .type "object"], ns := nd, qualname := qnK, hasDict := false, slotNames := [tK [111, 98, 106]] }, ⟨[some (.ref bT), none, some (.str (tK [75]) t), some (.str qnK q2), some (.builtin "object.__new__"), some (.bool false)]⟩⟩ := hl
 clear hl
 x_run
end
set_option maxRecDepth 100000 in
set_option maxHeartbeats 8000000 in
theorem supget {prog : Program} {w : World} {h : Heap} {g : Array GenState} {d : Drawn} {tk : Nat} {os : OsState} {e0 e1 : Env} {x y : Args} {Q : Result → Shared → Prop} {E : Value → Shared → Prop} {sup C nd bT sl st dd f1 f2 f3 f4 f5 f6 : Addr} {t q1 q2 q3 qs t' tk0 : Tok} {mn : Str} {h1 h2 h3 h4 h5 h6 h7 h8 h9 h10 h11 h12 : Int} {k1 k2 k3 k4 k5 k6 k7 k8 k9 k10 k11 k12 : Tok} {n : Nat} {gd l}
 (hcs : h.get? cStatics = some ⟨.none, none, .dict ⟨[]⟩ 0, #[]⟩)
 (hsup : h.get? sup = some ⟨.type "super", none, .fields ⟨[.ref C, .ref C, .ref C]⟩, #[]⟩)
 (hC : h.get? C = some (clsO C nd bT t qnK q2))
 (hnd : h.get? nd = some ⟨.type "dict", none, .dict ⟨[⟨h1, .str (tK [95, 95, 109, 111, 100, 117, 108, 101, 95, 95]) k1, .str mn q1⟩, ⟨h3, .str (tK [95, 95, 102, 105, 114, 115, 116, 108, 105, 110, 101, 110, 111, 95, 95]) k3, .int 4 q3⟩, ⟨h4, .str (tK [95, 95, 115, 108, 111, 116, 115, 95, 95]) k4, .ref sl⟩, ⟨h5, .str (tK [95, 95, 105, 110, 105, 116, 95, 95]) k5, .ref f1⟩, ⟨h6, .str (tK [95, 95, 108, 116, 95, 95]) k6, .ref f2⟩, ⟨h7, .str (tK [95, 95, 103, 116, 95, 95]) k7, .ref f3⟩, ⟨h8, .str (tK [95, 95, 101, 113, 95, 95]) k8, .ref f4⟩, ⟨h9, .str (tK [95, 95, 108, 101, 95, 95]) k9, .ref f5⟩, ⟨h10, .str (tK [95, 95, 103, 101, 95, 95]) k10, .ref f6⟩, ⟨h11, .str (tK [95, 95, 104, 97, 115, 104, 95, 95]) k11, .none⟩, ⟨h12, .str (tK [95, 95, 115, 116, 97, 116, 105, 99, 95, 97, 116, 116, 114, 105, 98, 117, 116, 101, 115, 95, 95]) k12, .ref st⟩, ⟨hx w [111, 98, 106], .str (tK [111, 98, 106]) (tk0 + 1), .ref dd⟩, ⟨hx w [95, 95, 100, 111, 99, 95, 95], .str (tK [95, 95, 100, 111, 99, 95, 95]) (tk0 + 1 + 1), .none⟩]⟩ n, #[]⟩)
 (hQ : ∀ r s', NewOne ⟨h, g, d, tk, os⟩ ⟨.type "builtin_function_or_method", none, .fields ⟨[.builtin "object.__init_subclass__", .ref C]⟩, #[]⟩ r s' → Q r s') :
  wpAny (model prog w) ((A0 e0 e1 x).under (.builtin "type.__new__" y)) (.call (.call (.builtin "super.__getattribute__") ⟨[.ref sup, .str (tK [95, 95, 105, 110, 105, 116, 95, 115, 117, 98, 99, 108, 97, 115, 115, 95, 95]) t'], []⟩) none gd l Sem.pure) Q E ⟨h, g, d, tk, os⟩ := by
 have D := Mem.start h
 refine m_enter (by simp [byPass]) ?_
 refine m_old D (by assumption) (by with_unfolding_all rfl) ?_
 refine m_pure ?_
 refine m_again (by kernel_rfl) ?_
 refine m_old D (by assumption) (by with_unfolding_all rfl) ?_
 refine m_old D (by assumption) (by with_unfolding_all rfl) ?_
 refine m_old D (by assumption) (by with_unfolding_all rfl) ?_
 refine m_old D (by assumption) (by with_unfolding_all rfl) ?_
 refine m_old D (by assumption) (by with_unfolding_all rfl) ?_
 conv => arg 4; whnf
 with_reducible refine m_bind ?_
 refine m_loop [.type "object"] (dropw _) ?_
 skip
 refine m_callE ((congrArg (fun v => Code.call (.builtin _) ⟨[_, v, _], []⟩) (cond_self C)).trans (by kernel_rfl : _ = Code.call (.builtin "classmethod_descriptor.__get__") ⟨[.builtin "object.__init_subclass__", .none, .ref C], []⟩)) ?_
 refine cmget hC ?_
 clear D
 rintro _ _ ⟨m, h2, rfl, rfl, D⟩
 (refine m_pure ?_); show wpOwn _ _ _ _ _ _ _
 conv => arg 4; whnf
 exact m_pure (m_done (hQ _ _ ⟨_, _, rfl, rfl, D⟩))
set_option tactic.hygienic true in
set_option maxRecDepth 100000 in
set_option maxHeartbeats 8000000 in
theorem type_new {prog : Program} {w : World} {h : Heap} {g : Array GenState} {d : Drawn} {tk : Nat} {os : OsState} {e0 e1 : Env} {x : Args} {Q : PySem.Fin → Shared → Prop} {E : Value → Shared → Prop} {bT ns sl st f1 f2 f3 f4 f5 f6 : Addr} {t q1 q2 q3 qs : Tok} {mn : Str} {h1 h2 h3 h4 h5 h6 h7 h8 h9 h10 h11 h12 : Int} {k1 k2 k3 k4 k5 k6 k7 k8 k9 k10 k11 k12 : Tok} {ep eb es : Nat} {d1 d2 d3 d4 d5 d6 : FuncData} {stA : Array Value}
 (hb : h.get? bT = some ⟨.type "tuple", none, .seq ⟨[.type "object"]⟩ eb, #[]⟩)
 (hl : h.get? sl = some (oList qs es))
 (hst : h.get? st = some ⟨.type "tuple", none, .seq stA 0, #[]⟩)
 (hf1 : h.get? f1 = some ⟨.type "function", none, .func d1, #[]⟩) (hf2 : h.get? f2 = some ⟨.type "function", none, .func d2, #[]⟩) (hf3 : h.get? f3 = some ⟨.type "function", none, .func d3, #[]⟩)
 (hf4 : h.get? f4 = some ⟨.type "function", none, .func d4, #[]⟩) (hf5 : h.get? f5 = some ⟨.type "function", none, .func d5, #[]⟩) (hf6 : h.get? f6 = some ⟨.type "function", none, .func d6, #[]⟩)
 (hn : h.get? ns = some ⟨.type "dict", none, .dict ⟨[⟨h1, .str (tK [95, 95, 109, 111, 100, 117, 108, 101, 95, 95]) k1, .str mn q1⟩, ⟨h2, .str (tK [95, 95, 113, 117, 97, 108, 110, 97, 109, 101, 95, 95]) k2, .str qnK q2⟩, ⟨h3, .str (tK [95, 95, 102, 105, 114, 115, 116, 108, 105, 110, 101, 110, 111, 95, 95]) k3, .int 4 q3⟩, ⟨h4, .str (tK [95, 95, 115, 108, 111, 116, 115, 95, 95]) k4, .ref sl⟩, ⟨h5, .str (tK [95, 95, 105, 110, 105, 116, 95, 95]) k5, .ref f1⟩, ⟨h6, .str (tK [95, 95, 108, 116, 95, 95]) k6, .ref f2⟩, ⟨h7, .str (tK [95, 95, 103, 116, 95, 95]) k7, .ref f3⟩, ⟨h8, .str (tK [95, 95, 101, 113, 95, 95]) k8, .ref f4⟩, ⟨h9, .str (tK [95, 95, 108, 101, 95, 95]) k9, .ref f5⟩, ⟨h10, .str (tK [95, 95, 103, 101, 95, 95]) k10, .ref f6⟩, ⟨h11, .str (tK [95, 95, 104, 97, 115, 104, 95, 95]) k11, .none⟩, ⟨h12, .str (tK [95, 95, 115, 116, 97, 116, 105, 99, 95, 97, 116, 116, 114, 105, 98, 117, 116, 101, 115, 95, 95]) k12, .ref st⟩]⟩ ep, #[]⟩) (hne : ¬ ns = sysModules)
 (hcs : h.get? cStatics = some ⟨.none, none, .dict ⟨[]⟩ 0, #[]⟩)
 (hQ : ∀ dd C nd h' tk', Grow h h' [(dd, descO C tk), (C, clsO C nd bT t qnK q2), (nd, ⟨.type "dict", none, .dict ⟨[⟨h1, .str (tK [95, 95, 109, 111, 100, 117, 108, 101, 95, 95]) k1, .str mn q1⟩, ⟨h3, .str (tK [95, 95, 102, 105, 114, 115, 116, 108, 105, 110, 101, 110, 111, 95, 95]) k3, .int 4 q3⟩, ⟨h4, .str (tK [95, 95, 115, 108, 111, 116, 115, 95, 95]) k4, .ref sl⟩, ⟨h5, .str (tK [95, 95, 105, 110, 105, 116, 95, 95]) k5, .ref f1⟩, ⟨h6, .str (tK [95, 95, 108, 116, 95, 95]) k6, .ref f2⟩, ⟨h7, .str (tK [95, 95, 103, 116, 95, 95]) k7, .ref f3⟩, ⟨h8, .str (tK [95, 95, 101, 113, 95, 95]) k8, .ref f4⟩, ⟨h9, .str (tK [95, 95, 108, 101, 95, 95]) k9, .ref f5⟩, ⟨h10, .str (tK [95, 95, 103, 101, 95, 95]) k10, .ref f6⟩, ⟨h11, .str (tK [95, 95, 104, 97, 115, 104, 95, 95]) k11, .none⟩, ⟨h12, .str (tK [95, 95, 115, 116, 97, 116, 105, 99, 95, 97, 116, 116, 114, 105, 98, 117, 116, 101, 115, 95, 95]) k12, .ref st⟩, ⟨hx w [111, 98, 106], .str (tK [111, 98, 106]) (tk + 1), .ref dd⟩, ⟨hx w [95, 95, 100, 111, 99, 95, 95], .str (tK [95, 95, 100, 111, 99, 95, 95]) (tk + 1 + 1), .none⟩]⟩ 3, #[]⟩)] → Q (.done (.ret (.ref C))) ⟨h', g, d, tk', os⟩) :
  wpOwn (model prog w) (A0 e0 e1 x) (.builtin "type.__new__" ⟨[.type "type", .str (tK [75]) t, .ref bT, .ref ns], []⟩) (Builtin.«type.__new__» ⟨[.type "type", .str (tK [75]) t, .ref bT, .ref ns], []⟩) Q E ⟨h, g, d, tk, os⟩ := by
 obtain D := Mem.start h
 rw [PySem.W.XFast.xe4202317264376624991]
 refine m_old D (by assumption) (by with_unfolding_all rfl) ?_
 refine m_old D (by assumption) (by with_unfolding_all rfl) ?_
 refine m_old D (by assumption) (by with_unfolding_all rfl) ?_
 conv => arg 4; whnf
 rw [show (ns == sysModules) = false from beq_eq_false_iff_ne.mpr hne]
 refine m_old D (by assumption) (by with_unfolding_all rfl) ?_
 refine m_old D (by assumption) (by with_unfolding_all rfl) ?_
 refine m_rule ?_
 refine m_old D (by assumption) (by with_unfolding_all rfl) ?_
 refine m_call ?_
 refine col hl ?_
 clear D
 rintro _ _ ⟨x1, _, rfl, rfl, D⟩
 refine m_new D 0 (by with_unfolding_all rfl) ?_
 conv => arg 4; whnf
 with_reducible refine m_bind ?_
 conv => arg 4; whnf
 with_reducible refine m_bind ?_
 conv => arg 4; whnf
 with_reducible refine m_bind ?_
 conv => arg 4; whnf
 rw [show XFast.xw10133417225327028743 (tK [111, 98, 106]) = some true from by kernel_rfl]
 (refine m_pure ?_); show wpOwn _ _ _ _ _ _ _
 (refine m_pure ?_); show wpOwn _ _ _ _ _ _ _
 conv => arg 4; whnf
 with_reducible refine m_bind ?_
 conv => arg 4; whnf
 with_reducible refine m_bind ?_
 conv => arg 4; whnf
 conv => arg 4; arg 3; tactic => (show _ = false; kernel_rfl)
 (refine m_pure ?_); show wpOwn _ _ _ _ _ _ _
 (refine m_pure ?_); show wpOwn _ _ _ _ _ _ _
 (refine m_pure ?_); show wpOwn _ _ _ _ _ _ _
 (refine m_alloc D (by with_unfolding_all rfl) ?_); clear D; intro _ _ D
 conv => arg 4; whnf
 conv => arg 4; arg 3; tactic => (show _ = false; kernel_rfl)
 conv => arg 4; whnf
 with_reducible refine m_bind ?_
 conv => arg 4; whnf
 conv => arg 4; arg 3; tactic => (show _ = false; kernel_rfl)
 (refine m_pure ?_); show wpOwn _ _ _ _ _ _ _
 conv => arg 4; whnf
 conv => arg 4; arg 3; tactic => (show _ = false; kernel_rfl)
 refine m_new D 0 (by with_unfolding_all rfl) ?_
 refine m_new D 0 (by with_unfolding_all rfl) ?_
 refine m_new D 0 (by with_unfolding_all rfl) ?_
 (refine m_alloc D (by with_unfolding_all rfl) ?_); clear D; intro _ _ D
 (refine m_update D 0 (by with_unfolding_all rfl) (by with_unfolding_all rfl) ?_); clear D; intro _ D; dsimp only [List.set] at D
 (refine m_update D 0 (by with_unfolding_all rfl) (by with_unfolding_all rfl) ?_); clear D; intro _ D; dsimp only [List.set] at D
 (refine m_update D 0 (by with_unfolding_all rfl) (by with_unfolding_all rfl) ?_); clear D; intro _ D; dsimp only [List.set] at D
 refine m_new D 1 (by with_unfolding_all rfl) ?_
 (refine m_update D 1 (by with_unfolding_all rfl) (by with_unfolding_all rfl) ?_); clear D; intro _ D; dsimp only [List.set] at D
 refine m_new D 1 (by with_unfolding_all rfl) ?_
 refine m_new D 1 (by with_unfolding_all rfl) ?_
 refine m_new D 1 (by with_unfolding_all rfl) ?_
 refine m_new D 1 (by with_unfolding_all rfl) ?_
 refine m_new D 1 (by with_unfolding_all rfl) ?_
 conv => arg 4; whnf
 with_reducible refine m_bind ?_
 conv => arg 4; arg 2; tactic => exact filt _
 (refine m_pure ?_); show wpOwn _ _ _ _ _ _ _
 refine m_new D 0 (by with_unfolding_all rfl) ?_
 (refine m_update D 0 (by with_unfolding_all rfl) (by with_unfolding_all rfl) ?_); clear D; intro _ D; dsimp only [List.set] at D
 refine m_new D 0 (by with_unfolding_all rfl) ?_
 conv => arg 4; whnf
 with_reducible refine m_bind ?_
 conv => arg 4; whnf
 with_reducible refine m_bind ?_
 conv => arg 4; whnf
 with_reducible refine m_bind ?_
 replace D := slots_re (sl' := ⟨[some (.ref bT), none, some (.str (tK [75]) t), some (.str qnK q2)]⟩) D (by kernel_rfl)
 conv => arg 4; whnf
 conv => arg 4; arg 3; tactic => (show _ = false; kernel_rfl)
 (conv => arg 4; whnf); (first
 | (with_reducible refine m_bind ?_)
 | ((with_reducible refine m_pure ?_); show wpOwn _ _ _ _ _ _ _)
 | (with_reducible refine m_rule ?_)
 | (with_reducible refine m_point ?_)
 | (with_reducible refine m_ask ?_)
 | (with_reducible refine m_fresh ?_)
 | (with_reducible refine m_old D (by assumption) (by with_unfolding_all rfl) ?_)
 | (with_reducible refine m_new D 0 (by with_unfolding_all rfl) ?_)
 | (with_reducible refine m_new D 1 (by with_unfolding_all rfl) ?_)
 | (with_reducible refine m_new D 2 (by with_unfolding_all rfl) ?_)
 | (with_reducible refine m_new D 3 (by with_unfolding_all rfl) ?_)
 | (with_reducible refine m_new D 4 (by with_unfolding_all rfl) ?_)
 | (with_reducible refine m_new D 5 (by with_unfolding_all rfl) ?_)
 | ((with_reducible refine m_alloc D (by with_unfolding_all rfl) ?_); clear D; intro _ _ D)
 | ((with_reducible refine m_update D 0 (by with_unfolding_all rfl) (by with_unfolding_all rfl) ?_); clear D; intro _ D; dsimp only [List.set] at D)
 | ((with_reducible refine m_update D 1 (by with_unfolding_all rfl) (by with_unfolding_all rfl) ?_); clear D; intro _ D; dsimp only [List.set] at D)
 | ((with_reducible refine m_update D 2 (by with_unfolding_all rfl) (by with_unfolding_all rfl) ?_); clear D; intro _ D; dsimp only [List.set] at D)
 | ((with_reducible refine m_update D 3 (by with_unfolding_all rfl) (by with_unfolding_all rfl) ?_); clear D; intro _ D; dsimp only [List.set] at D)
 | ((with_reducible refine m_update D 4 (by with_unfolding_all rfl) (by with_unfolding_all rfl) ?_); clear D; intro _ D; dsimp only [List.set] at D)
 | ((with_reducible refine m_update D 5 (by with_unfolding_all rfl) (by with_unfolding_all rfl) ?_); clear D; intro _ D; dsimp only [List.set] at D))
 (conv => arg 4; whnf); (first
 | (with_reducible refine m_bind ?_)
 | ((with_reducible refine m_pure ?_); show wpOwn _ _ _ _ _ _ _)
 | (with_reducible refine m_rule ?_)
 | (with_reducible refine m_point ?_)
 | (with_reducible refine m_ask ?_)
 | (with_reducible refine m_fresh ?_)
 | (with_reducible refine m_old D (by assumption) (by with_unfolding_all rfl) ?_)
 | (with_reducible refine m_new D 0 (by with_unfolding_all rfl) ?_)
 | (with_reducible refine m_new D 1 (by with_unfolding_all rfl) ?_)
 | (with_reducible refine m_new D 2 (by with_unfolding_all rfl) ?_)
 | (with_reducible refine m_new D 3 (by with_unfolding_all rfl) ?_)
 | (with_reducible refine m_new D 4 (by with_unfolding_all rfl) ?_)
 | (with_reducible refine m_new D 5 (by with_unfolding_all rfl) ?_)
 | ((with_reducible refine m_alloc D (by with_unfolding_all rfl) ?_); clear D; intro _ _ D)
 | ((with_reducible refine m_update D 0 (by with_unfolding_all rfl) (by with_unfolding_all rfl) ?_); clear D; intro _ D; dsimp only [List.set] at D)
 | ((with_reducible refine m_update D 1 (by with_unfolding_all rfl) (by with_unfolding_all rfl) ?_); clear D; intro _ D; dsimp only [List.set] at D)
 | ((with_reducible refine m_update D 2 (by with_unfolding_all rfl) (by with_unfolding_all rfl) ?_); clear D; intro _ D; dsimp only [List.set] at D)
 | ((with_reducible refine m_update D 3 (by with_unfolding_all rfl) (by with_unfolding_all rfl) ?_); clear D; intro _ D; dsimp only [List.set] at D)
 | ((with_reducible refine m_update D 4 (by with_unfolding_all rfl) (by with_unfolding_all rfl) ?_); clear D; intro _ D; dsimp only [List.set] at D)
 | ((with_reducible refine m_update D 5 (by with_unfolding_all rfl) (by with_unfolding_all rfl) ?_); clear D; intro _ D; dsimp only [List.set] at D))
 (conv => arg 4; whnf); (first
 | (with_reducible refine m_bind ?_)
 | ((with_reducible refine m_pure ?_); show wpOwn _ _ _ _ _ _ _)
 | (with_reducible refine m_rule ?_)
 | (with_reducible refine m_point ?_)
 | (with_reducible refine m_ask ?_)
 | (with_reducible refine m_fresh ?_)
 | (with_reducible refine m_old D (by assumption) (by with_unfolding_all rfl) ?_)
 | (with_reducible refine m_new D 0 (by with_unfolding_all rfl) ?_)
 | (with_reducible refine m_new D 1 (by with_unfolding_all rfl) ?_)
 | (with_reducible refine m_new D 2 (by with_unfolding_all rfl) ?_)
 | (with_reducible refine m_new D 3 (by with_unfolding_all rfl) ?_)
 | (with_reducible refine m_new D 4 (by with_unfolding_all rfl) ?_)
 | (with_reducible refine m_new D 5 (by with_unfolding_all rfl) ?_)
 | ((with_reducible refine m_alloc D (by with_unfolding_all rfl) ?_); clear D; intro _ _ D)
 | ((with_reducible refine m_update D 0 (by with_unfolding_all rfl) (by with_unfolding_all rfl) ?_); clear D; intro _ D; dsimp only [List.set] at D)
 | ((with_reducible refine m_update D 1 (by with_unfolding_all rfl) (by with_unfolding_all rfl) ?_); clear D; intro _ D; dsimp only [List.set] at D)
 | ((with_reducible refine m_update D 2 (by with_unfolding_all rfl) (by with_unfolding_all rfl) ?_); clear D; intro _ D; dsimp only [List.set] at D)
 | ((with_reducible refine m_update D 3 (by with_unfolding_all rfl) (by with_unfolding_all rfl) ?_); clear D; intro _ D; dsimp only [List.set] at D)
 | ((with_reducible refine m_update D 4 (by with_unfolding_all rfl) (by with_unfolding_all rfl) ?_); clear D; intro _ D; dsimp only [List.set] at D)
 | ((with_reducible refine m_update D 5 (by with_unfolding_all rfl) (by with_unfolding_all rfl) ?_); clear D; intro _ D; dsimp only [List.set] at D))
 (conv => arg 4; whnf); (first
 | (with_reducible refine m_bind ?_)
 | ((with_reducible refine m_pure ?_); show wpOwn _ _ _ _ _ _ _)
 | (with_reducible refine m_rule ?_)
 | (with_reducible refine m_point ?_)
 | (with_reducible refine m_ask ?_)
 | (with_reducible refine m_fresh ?_)
 | (with_reducible refine m_old D (by assumption) (by with_unfolding_all rfl) ?_)
 | (with_reducible refine m_new D 0 (by with_unfolding_all rfl) ?_)
 | (with_reducible refine m_new D 1 (by with_unfolding_all rfl) ?_)
 | (with_reducible refine m_new D 2 (by with_unfolding_all rfl) ?_)
 | (with_reducible refine m_new D 3 (by with_unfolding_all rfl) ?_)
 | (with_reducible refine m_new D 4 (by with_unfolding_all rfl) ?_)
 | (with_reducible refine m_new D 5 (by with_unfolding_all rfl) ?_)
 | ((with_reducible refine m_alloc D (by with_unfolding_all rfl) ?_); clear D; intro _ _ D)
 | ((with_reducible refine m_update D 0 (by with_unfolding_all rfl) (by with_unfolding_all rfl) ?_); clear D; intro _ D; dsimp only [List.set] at D)
 | ((with_reducible refine m_update D 1 (by with_unfolding_all rfl) (by with_unfolding_all rfl) ?_); clear D; intro _ D; dsimp only [List.set] at D)
 | ((with_reducible refine m_update D 2 (by with_unfolding_all rfl) (by with_unfolding_all rfl) ?_); clear D; intro _ D; dsimp only [List.set] at D)
 | ((with_reducible refine m_update D 3 (by with_unfolding_all rfl) (by with_unfolding_all rfl) ?_); clear D; intro _ D; dsimp only [List.set] at D)
 | ((with_reducible refine m_update D 4 (by with_unfolding_all rfl) (by with_unfolding_all rfl) ?_); clear D; intro _ D; dsimp only [List.set] at D)
 | ((with_reducible refine m_update D 5 (by with_unfolding_all rfl) (by with_unfolding_all rfl) ?_); clear D; intro _ D; dsimp only [List.set] at D))
 replace D := slots_re (sl' := ⟨[some (.ref bT), none, some (.str (tK [75]) t), some (.str qnK q2), some (.builtin "object.__new__")]⟩) D (by kernel_rfl)
 refine m_new D 0 (by with_unfolding_all rfl) ?_
 refine m_new D 0 (by with_unfolding_all rfl) ?_
 refine m_new D 0 (by with_unfolding_all rfl) ?_
 refine m_new D 1 (by with_unfolding_all rfl) ?_
 conv => arg 4; whnf
 with_reducible refine m_bind ?_
 conv => arg 4; whnf
 conv => arg 4; arg 3; tactic => (show _ = false; kernel_rfl)
 (refine m_pure ?_); show wpOwn _ _ _ _ _ _ _
 refine m_new D 1 (by with_unfolding_all rfl) ?_
 refine m_fresh ?_
 (refine m_alloc D (by with_unfolding_all rfl) ?_); clear D; intro _ _ D
 refine m_new D 2 (by with_unfolding_all rfl) ?_
 refine m_ask ?_
 refine m_fresh ?_
 refine m_new D 2 (by with_unfolding_all rfl) ?_
 (refine m_update D 2 (by with_unfolding_all rfl) (by with_unfolding_all rfl) ?_); clear D; intro _ D; dsimp only [List.set] at D
 refine m_new D 1 (by with_unfolding_all rfl) ?_
 (refine m_update D 1 (by with_unfolding_all rfl) (by with_unfolding_all rfl) ?_); clear D; intro _ D; dsimp only [List.set] at D
 refine m_new D 1 (by with_unfolding_all rfl) ?_
 (refine m_update D 1 (by with_unfolding_all rfl) (by with_unfolding_all rfl) ?_); clear D; intro _ D; dsimp only [List.set] at D
 refine m_new D 2 (by with_unfolding_all rfl) ?_
 refine m_ask ?_
 refine m_fresh ?_
 refine m_new D 2 (by with_unfolding_all rfl) ?_
 (refine m_update D 2 (by with_unfolding_all rfl) (by with_unfolding_all rfl) ?_); clear D; intro _ D; dsimp only [List.set] at D
 refine m_new D 2 (by with_unfolding_all rfl) ?_
 refine m_new D 2 (by with_unfolding_all rfl) ?_
 refine m_new D 2 (by with_unfolding_all rfl) ?_
 refine m_new D 2 (by with_unfolding_all rfl) ?_
 refine m_old D (by assumption) (by with_unfolding_all rfl) ?_
 refine m_old D (by assumption) (by with_unfolding_all rfl) ?_
 refine m_old D (by assumption) (by with_unfolding_all rfl) ?_
 refine m_old D (by assumption) (by with_unfolding_all rfl) ?_
 refine m_old D (by assumption) (by with_unfolding_all rfl) ?_
 refine m_old D (by assumption) (by with_unfolding_all rfl) ?_
 refine m_old D (by assumption) (by with_unfolding_all rfl) ?_
 refine m_old D (by assumption) (by with_unfolding_all rfl) ?_
 refine m_new D 0 (by with_unfolding_all rfl) ?_
 rename_i nd _ C _ _ _ _ _ _ _ dd _ _ _ _ hF
 replace D : Mem h hF [] [(dd, descO C tk), (C, clsO C nd bT t qnK q2), (nd, ⟨.type "dict", none, .dict ⟨[⟨h1, .str (tK [95, 95, 109, 111, 100, 117, 108, 101, 95, 95]) k1, .str mn q1⟩, ⟨h3, .str (tK [95, 95, 102, 105, 114, 115, 116, 108, 105, 110, 101, 110, 111, 95, 95]) k3, .int 4 q3⟩, ⟨h4, .str (tK [95, 95, 115, 108, 111, 116, 115, 95, 95]) k4, .ref sl⟩, ⟨h5, .str (tK [95, 95, 105, 110, 105, 116, 95, 95]) k5, .ref f1⟩, ⟨h6, .str (tK [95, 95, 108, 116, 95, 95]) k6, .ref f2⟩, ⟨h7, .str (tK [95, 95, 103, 116, 95, 95]) k7, .ref f3⟩, ⟨h8, .str (tK [95, 95, 101, 113, 95, 95]) k8, .ref f4⟩, ⟨h9, .str (tK [95, 95, 108, 101, 95, 95]) k9, .ref f5⟩, ⟨h10, .str (tK [95, 95, 103, 101, 95, 95]) k10, .ref f6⟩, ⟨h11, .str (tK [95, 95, 104, 97, 115, 104, 95, 95]) k11, .none⟩, ⟨h12, .str (tK [95, 95, 115, 116, 97, 116, 105, 99, 95, 97, 116, 116, 114, 105, 98, 117, 116, 101, 115, 95, 95]) k12, .ref st⟩, ⟨hx w [111, 98, 106], .str (tK [111, 98, 106]) (tk + 1), .ref dd⟩, ⟨hx w [95, 95, 100, 111, 99, 95, 95], .str (tK [95, 95, 100, 111, 99, 95, 95]) (tk + 1 + 1), .none⟩]⟩ 3, #[]⟩), (x1, oList qs 1)] := news3 D (by kernel_rfl) (by kernel_rfl) (by kernel_rfl)
 refine m_call ?_
 refine supc (D.at 1 _ _ rfl) ?_
 rintro _ _ ⟨sup, h2, rfl, rfl, D2⟩
 obtain hC2 := D2.keep C _ (D.at 1 _ _ rfl) rfl
 obtain hnd2 := D2.keep nd _ (D.at 2 _ _ rfl) rfl
 obtain hsup := D2.at 0 _ _ rfl
 have D1 := D
 clear D
 have D := Mem.start h2
 refine m_fresh ?_
 refine m_old D (by assumption) (by with_unfolding_all rfl) ?_
 refine m_callE (by kernel_rfl : _ = Code.call (.builtin "super.__getattribute__") ⟨[.ref sup, .str (tK [95, 95, 105, 110, 105, 116, 95, 115, 117, 98, 99, 108, 97, 115, 115, 95, 95]) (tk + 1 + 1 + 1)], []⟩) ?_
 refine supget (h2 := 0) (k2 := 0) (qs := 0) (mem_all D2 (mem_all D1 hcs)) hsup hC2 hnd2 ?_
 rintro _ _ ⟨m, h3, rfl, rfl, D3⟩
 obtain hC3 := mem_all D3 hC2
 obtain hm := D3.at 0 _ _ rfl
 clear D
 obtain D := Mem.start h3
 skip
 refine m_callE (by kernel_rfl : _ = Code.call (.ref m) ⟨[], []⟩) ?_
 refine initsub hC3 hm ?_
 rintro _ _ ⟨h4, rfl, rfl, D4⟩
 clear D
 obtain D := Mem.start h4
 skip
 refine m_pure (hQ dd C nd _ _ ((((Grow.of_mem D1).trans (Grow.of_mem D2)).trans (Grow.of_mem D3)).trans (Grow.of_mem D4) |>.sub ?_))
 exact all_cons (List.mem_of_getElem? (i := 2) rfl) (all_cons (List.mem_of_getElem? (i := 3) rfl) (all_cons (List.mem_of_getElem? (i := 4) rfl) all_nil))
end Mine
end
section
open PySem PySem.W PyProof.Rows PySem.W.X
namespace Mine
theorem entry_new : entryFor table "type.__new__" = some Builtin.«type.__new__» := entryFor_of_tree (by kernel_rfl)
theorem den_builtin {id : String} {args : Args} {b : Builtin} (hb : entryFor table id = some b) : dnx (.builtin id args) = b args := by
 rw [← dnx_eq]
 show (match entryFor table id with | some b => b args | none => _) = _
 rw [hb]
theorem den_new (args : Args) : dnx (.builtin "type.__new__" args) = Builtin.«type.__new__» args := den_builtin entry_new
section
open E5
set_option maxRecDepth 100000 in
set_option maxHeartbeats 8000000 in
theorem typeinit {prog : Program} {w : World} {e0 e1 : Env} {z : Args} {s : Shared} {Q : Result → Shared → Prop} {E : Value → Shared → Prop} {C nd bT ns : Addr} {t q2 : Tok} {l gd} (hl : s.heap.get? C = some (clsO C nd bT t qnK q2))
  (hQ : ∀ r s', NoneOne s r s' → Q r s') :
  wpAny (model prog w) (((((callerA.deeper e0).mark none).under (.func (fBody 1) e1)).mark none).under (.builtin "type.__call__" z)) (.call (.call (.builtin "type.__init__") ⟨[.ref C, .str (tK [75]) t, .ref bT, .ref ns], []⟩) none gd l Sem.pure) Q E s := by
 have hl' : s.heap.get? C = some ⟨.type "type", none, .cls { name := tK [75], bases := [.type "object"], mro := [.ref C, .type "object"], ns := nd, qualname := qnK, hasDict := false, slotNames := [tK [111, 98, 106]] }, ⟨[some (.ref bT), none, some (.str (tK [75]) t), some (.str qnK q2), some (.builtin "object.__new__"), some (.bool false)]⟩⟩ := hl
 clear hl
 x_run
end
set_option maxRecDepth 100000 in
set_option maxHeartbeats 8000000 in
theorem type_call {prog : Program} {w : World} {h : Heap} {g : Array GenState} {d : Drawn} {tk : Nat} {os : OsState} {e0 e1 : Env} {Q : Result → Shared → Prop} {E : Value → Shared → Prop} {bT ns sl st f1 f2 f3 f4 f5 f6 : Addr} {t q1 q2 q3 qs : Tok} {mn : Str} {h1 h2 h3 h4 h5 h6 h7 h8 h9 h10 h11 h12 : Int} {k1 k2 k3 k4 k5 k6 k7 k8 k9 k10 k11 k12 : Tok} {ep eb es : Nat} {d1 d2 d3 d4 d5 d6 : FuncData} {stA : Array Value} {gd l}
 (hb : h.get? bT = some ⟨.type "tuple", none, .seq ⟨[.type "object"]⟩ eb, #[]⟩)
 (hl : h.get? sl = some (oList qs es))
 (hst : h.get? st = some ⟨.type "tuple", none, .seq stA 0, #[]⟩)
 (hf1 : h.get? f1 = some ⟨.type "function", none, .func d1, #[]⟩) (hf2 : h.get? f2 = some ⟨.type "function", none, .func d2, #[]⟩) (hf3 : h.get? f3 = some ⟨.type "function", none, .func d3, #[]⟩)
 (hf4 : h.get? f4 = some ⟨.type "function", none, .func d4, #[]⟩) (hf5 : h.get? f5 = some ⟨.type "function", none, .func d5, #[]⟩) (hf6 : h.get? f6 = some ⟨.type "function", none, .func d6, #[]⟩)
 (hn : h.get? ns = some ⟨.type "dict", none, .dict ⟨[⟨h1, .str (tK [95, 95, 109, 111, 100, 117, 108, 101, 95, 95]) k1, .str mn q1⟩, ⟨h2, .str (tK [95, 95, 113, 117, 97, 108, 110, 97, 109, 101, 95, 95]) k2, .str qnK q2⟩, ⟨h3, .str (tK [95, 95, 102, 105, 114, 115, 116, 108, 105, 110, 101, 110, 111, 95, 95]) k3, .int 4 q3⟩, ⟨h4, .str (tK [95, 95, 115, 108, 111, 116, 115, 95, 95]) k4, .ref sl⟩, ⟨h5, .str (tK [95, 95, 105, 110, 105, 116, 95, 95]) k5, .ref f1⟩, ⟨h6, .str (tK [95, 95, 108, 116, 95, 95]) k6, .ref f2⟩, ⟨h7, .str (tK [95, 95, 103, 116, 95, 95]) k7, .ref f3⟩, ⟨h8, .str (tK [95, 95, 101, 113, 95, 95]) k8, .ref f4⟩, ⟨h9, .str (tK [95, 95, 108, 101, 95, 95]) k9, .ref f5⟩, ⟨h10, .str (tK [95, 95, 103, 101, 95, 95]) k10, .ref f6⟩, ⟨h11, .str (tK [95, 95, 104, 97, 115, 104, 95, 95]) k11, .none⟩, ⟨h12, .str (tK [95, 95, 115, 116, 97, 116, 105, 99, 95, 97, 116, 116, 114, 105, 98, 117, 116, 101, 115, 95, 95]) k12, .ref st⟩]⟩ ep, #[]⟩) (hne : ¬ ns = sysModules)
 (hcs : h.get? cStatics = some ⟨.none, none, .dict ⟨[]⟩ 0, #[]⟩)
 (hQ : ∀ dd C nd h' tk', Grow h h' [(dd, descO C tk), (C, clsO C nd bT t qnK q2), (nd, ⟨.type "dict", none, .dict ⟨[⟨h1, .str (tK [95, 95, 109, 111, 100, 117, 108, 101, 95, 95]) k1, .str mn q1⟩, ⟨h3, .str (tK [95, 95, 102, 105, 114, 115, 116, 108, 105, 110, 101, 110, 111, 95, 95]) k3, .int 4 q3⟩, ⟨h4, .str (tK [95, 95, 115, 108, 111, 116, 115, 95, 95]) k4, .ref sl⟩, ⟨h5, .str (tK [95, 95, 105, 110, 105, 116, 95, 95]) k5, .ref f1⟩, ⟨h6, .str (tK [95, 95, 108, 116, 95, 95]) k6, .ref f2⟩, ⟨h7, .str (tK [95, 95, 103, 116, 95, 95]) k7, .ref f3⟩, ⟨h8, .str (tK [95, 95, 101, 113, 95, 95]) k8, .ref f4⟩, ⟨h9, .str (tK [95, 95, 108, 101, 95, 95]) k9, .ref f5⟩, ⟨h10, .str (tK [95, 95, 103, 101, 95, 95]) k10, .ref f6⟩, ⟨h11, .str (tK [95, 95, 104, 97, 115, 104, 95, 95]) k11, .none⟩, ⟨h12, .str (tK [95, 95, 115, 116, 97, 116, 105, 99, 95, 97, 116, 116, 114, 105, 98, 117, 116, 101, 115, 95, 95]) k12, .ref st⟩, ⟨hx w [111, 98, 106], .str (tK [111, 98, 106]) (tk + 1), .ref dd⟩, ⟨hx w [95, 95, 100, 111, 99, 95, 95], .str (tK [95, 95, 100, 111, 99, 95, 95]) (tk + 1 + 1), .none⟩]⟩ 3, #[]⟩)] → Q (.ok (.ret (.ref C))) ⟨h', g, d, tk', os⟩) :
  wpAny (model prog w) (((callerA.deeper e0).mark none).under (.func (fBody 1) e1)) (.call (.call (.type "type") ⟨[.str (tK [75]) t, .ref bT, .ref ns], []⟩) none gd l Sem.pure) Q E ⟨h, g, d, tk, os⟩ := by
 obtain D := Mem.start h
 refine m_enter (by simp [byPass]) ?_
 skip
 conv => arg 4; whnf
 refine m_pure ?_
 refine m_again (by kernel_rfl) ?_
 conv => arg 4; whnf
 with_reducible refine m_bind ?_
 conv => arg 4; whnf
 with_reducible refine m_bind ?_
 conv => arg 4; whnf
 with_reducible refine m_bind ?_
 conv => arg 4; whnf
 conv => arg 4; arg 3; tactic => (show _ = false; kernel_rfl)
 (refine m_pure ?_); show wpOwn _ _ _ _ _ _ _
 (refine m_pure ?_); show wpOwn _ _ _ _ _ _ _
 (refine m_pure ?_); show wpOwn _ _ _ _ _ _ _
 conv => arg 4; whnf
 refine m_callE (by kernel_rfl : _ = Code.call (.builtin "type.__new__") ⟨[.type "type", .str (tK [75]) t, .ref bT, .ref ns], []⟩) ?_
 refine m_enter (by simp [byPass]) ?_
 conv => arg 4; whnf
 with_reducible refine m_bind ?_
 conv => arg 4; whnf
 with_reducible refine m_bind ?_
 conv => arg 4; whnf
 with_reducible refine m_bind ?_
 conv => arg 4; whnf
 with_reducible refine m_bind ?_
 conv => arg 4; whnf
 with_reducible refine m_bind ?_
 conv => arg 4; whnf
 with_reducible refine m_bind ?_
 conv => arg 4; whnf
 with_reducible refine m_bind ?_
 conv => arg 4; whnf
 conv => arg 4; arg 3; tactic => (show _ = false; kernel_rfl)
 (refine m_pure ?_); show wpOwn _ _ _ _ _ _ _
 (refine m_pure ?_); show wpOwn _ _ _ _ _ _ _
 (refine m_pure ?_); show wpOwn _ _ _ _ _ _ _
 (refine m_pure ?_); show wpOwn _ _ _ _ _ _ _
 (refine m_pure ?_); show wpOwn _ _ _ _ _ _ _
 (refine m_pure ?_); show wpOwn _ _ _ _ _ _ _
 conv => arg 4; whnf
 with_reducible refine m_bind ?_
 conv => arg 4; whnf
 with_reducible refine m_bind ?_
 conv => arg 4; whnf
 with_reducible refine m_bind ?_
 conv => arg 4; whnf
 conv => arg 4; arg 3; tactic => (show _ = false; kernel_rfl)
 (refine m_pure ?_); show wpOwn _ _ _ _ _ _ _
 (refine m_pure ?_); show wpOwn _ _ _ _ _ _ _
 (refine m_pure ?_); show wpOwn _ _ _ _ _ _ _
 (refine m_pure ?_); show wpOwn _ _ _ _ _ _ _
 conv => arg 4; whnf
 refine m_pure ?_
 refine m_again (by kernel_rfl) ?_
 rw [den_new]
 refine type_new hb hl hst hf1 hf2 hf3 hf4 hf5 hf6 hn hne hcs ?_
 intro dd C nd h' tk' G
 refine m_done ?_
 obtain hC := (G.2 _ (List.mem_of_getElem? (i := 1) rfl)).1
 dsimp only at hC
 obtain hG := G
 clear D
 obtain D := Mem.start h'
 refine m_old D (by assumption) (by with_unfolding_all rfl) ?_
 refine m_old D (by assumption) (by with_unfolding_all rfl) ?_
 conv => arg 4; whnf
 refine m_callE (by kernel_rfl : _ = Code.call (.builtin "type.__init__") ⟨[.ref C, .str (tK [75]) t, .ref bT, .ref ns], []⟩) ?_
 refine typeinit hC ?_
 rintro _ _ ⟨h3, rfl, rfl, D3⟩
 clear D
 obtain D := Mem.start h3
 skip
 conv => arg 4; whnf
 refine m_pure (m_done (hQ dd C nd _ _ ((G.trans (Grow.of_mem D3)).sub (fun p hp => hp))))
end Mine
end
section
open PySem PySem.W PyProof.Rows PySem.W.X
namespace Mine
open PySem.Calls
section
variable {M : Model} {A : Around} {E : Value → Shared → Prop} {s : Shared} {name qual : Str} {params : Arguments} {body : List Stmt} {scope : Scope} {env : Env} {c P : Addr} {ps : Array Value} {pos : Pos} {firstLine : Nat} {mg : Str → Option Value} {clos : List (Str × Addr)}
noncomputable def fnTree (name qual : Str) (params : Arguments) (body : List Stmt) (scope : Scope) (env : Env) (pos : Pos) (firstLine : Nat) (clos : List (Str × Addr)) (ctv : Value) : Sem Value := do
 let cd ← functionCode env pos firstLine name qual params scope (.stmts body)
 let bi ← builtinsFor mainGlobals env.builtins
 let pm ← nsGet mainGlobals "__name__"
 newObj (.type "function") (.func { name, qualname := qual, params, body := .stmts body, scope, globals := mainGlobals, closure := clos, closureTuple := ctv, code := cd, builtins := bi, defaults := .none, kwdefaults := .none, annotations := none, pyModule := pm.getD .none, doc := .none })
theorem fn_tree {s₁ : Shared} {ctv : Value} {Q : Value → Shared → Prop} (hk : ∀ b o, s.heap.get? b = some o → s₁.heap.get? b = some o) (hz : s.heap.objs.size ≤ s₁.heap.objs.size) (hs : ∃ h tk, s₁ = { s with heap := h, toks := tk }) (hg : s.heap.Ns mainGlobals mg) (hcode : env.code = .ref c) (C : CodeHd s.heap c P) (hP : s.heap.get? P = some (tabObj ps)) (ht : TriplesOk ps.toList)
  (hnf : codeAmong pos ps.toList = none) (hgP : mainGlobals ≠ P) (hb : s.heap.BuiltinsAt mg P)
  (h : ∀ c' oc vs tq P' h' tk, Heap.ExtBut P s.heap h' → s.heap.objs.size ≤ c' → c' < h'.objs.size → h'.get? c' = some oc → oc.cls = .type "code" → oc.data = .fields vs → vs[1]? = some (.str qual tq) → vs[11]? = some (.ref P') → h'.get? P = some (tabObj (ps ++ #[rawInt pos.line, rawInt pos.col, .ref c'])) →
   Q (.ref h'.objs.size) { s with heap := h'.push (fnMade name qual params body scope clos .none ((mg "__name__").getD .none) c' ctv), toks := tk }) :
  wpAny M A (fnTree name qual params body scope env pos firstLine clos ctv) Q E s₁ := by
 obtain ⟨h₁, tk₁, rfl⟩ := hs
 obtain ⟨bm, ob, hbm, hne0, _, hneP, hbo, hcls, hdict, hdata⟩ := hb
 have C₁ := C.keeps hk
 have hP₁ := hk _ _ hP
 unfold fnTree
 refine wpAny_bind (wpAny_functionCodeX hcode (C₁.code hP₁ ht) (C₁.tab hP₁) hnf fun c' h' tk hx hge hlt o_ hrec htb hnew => ?_)
 obtain ⟨P', _, _, ⟨⟨o₁, vs₁, e₁, e₂, e₃, e₄⟩, _⟩⟩ := hnew
 obtain ⟨c₂, oc, vs, tq, q1, q2, q3, q4⟩ := hrec
 cases q1
 rw [e₁] at q2; cases q2
 rw [e₃] at q3; cases q3
 have hg' := (hg.keeps hk).extBut hx hgP
 refine wpAny_bind (wpAny_builtinsFor hg' hbm hne0 (hx _ _ hneP (hk _ _ hbo)) hcls hdict hdata ?_)
 refine wpAny_bind (wpAny_nsGet hg' ?_)
 exact wpAny_newObj_type (h c' _ _ _ P' h' tk (fun b o hb e => hx b o hb (hk b o e)) (Nat.le_trans hz hge) hlt e₁ e₂ e₃ q4 e₄ htb.2) (by size_fits)
theorem mkFn {Q : Value → Shared → Prop} (hcl : closureFor scope env = pure clos) (hge0 : env.globals = mainGlobals) (hdoc : docOf body = none) (hg : s.heap.Ns mainGlobals mg) (hcode : env.code = .ref c) (C : CodeHd s.heap c P) (hP : s.heap.get? P = some (tabObj ps)) (ht : TriplesOk ps.toList)
  (hnf : codeAmong pos ps.toList = none) (hgP : mainGlobals ≠ P) (hb : s.heap.BuiltinsAt mg P)
  (h : ∀ c' oc vs tq P' ctv h' tk, Heap.ExtBut P s.heap h' → s.heap.objs.size ≤ c' → c' < h'.objs.size → h'.get? c' = some oc → oc.cls = .type "code" → oc.data = .fields vs → vs[1]? = some (.str qual tq) → vs[11]? = some (.ref P') → h'.get? P = some (tabObj (ps ++ #[rawInt pos.line, rawInt pos.col, .ref c'])) →
   Q (.ref h'.objs.size) { s with heap := h'.push (fnMade name qual params body scope clos .none ((mg "__name__").getD .none) c' ctv), toks := tk }) :
  wpAny M A (makeFunction name qual params (.stmts body) scope env [] [] [] pos firstLine) Q E s := by
 rw [makeFunction_eq]
 simp only [List.zip_nil_right, List.filterMap_nil, List.isEmpty_nil, if_true, pure_bind]
 unfold makeTail
 rw [hcl, hge0]
 simp only [hdoc]
 refine wpAny_bind (wpAny_pure ?_)
 cases clos with
 | nil => exact wpAny_bind (wpAny_pure (fn_tree (ctv := .none) (fun o_ o_ e => e) (Nat.le_refl _) ⟨_, _, rfl⟩ hg hcode C hP ht hnf hgP hb fun c' oc vs tq P' h' tk a1 a2 a3 a4 a5 a6 a7 a8 a9 => h c' oc vs tq P' _ h' tk a1 a2 a3 a4 a5 a6 a7 a8 a9))
 | cons q r =>
  refine wpAny_bind (wpAny_newTextTuple ?_)
  exact fn_tree (s := s) (fun b o e => Heap.get?_push_of_some _ e) (by rw [Heap.size_push]; omega) ⟨_, _, rfl⟩ hg hcode C hP ht hnf hgP hb fun c' oc vs tq P' h' tk a1 a2 a3 a4 a5 a6 a7 a8 a9 => h c' oc vs tq P' _ h' tk a1 a2 a3 a4 a5 a6 a7 a8 a9
end
noncomputable abbrev dicO (es : List DictEntry) (n : Nat) : Obj := ⟨.type "dict", none, .dict ⟨es⟩ n, #[]⟩
section
variable {M : Model} {A : Around} {E : Value → Shared → Prop} {s : Shared}
theorem nsSet_at {a : Addr} {es : List DictEntry} {es' : Int → Tok → List DictEntry} {n n' : Nat} {x : Str} {v : Value} {Q : Unit → Shared → Prop}
  (ho : s.heap.get? a = some (dicO es n)) (hr : aRefKeyMayBeTheName x ⟨es⟩ = false) (hput : ∀ hh t, Obj.putName x hh (.str x t) v (dicO es n) = dicO (es' hh t) n')
  (h : ∀ hh t h', Heap.SameBut a s.heap h' → h'.get? a = some (dicO (es' hh t) n') → Q () { s with heap := h', toks := s.toks + 1 }) : wpAny M A (nsSet a x v) Q E s := by
 unfold nsSet strHash
 refine wpAny_bind (wpAny_bind (wpAny_askSetting (wpAny_pure ?_)))
 refine wpAny_bind (wpAny_mkText (wpAny_bind (wpAny_loadPart ho ?_)))
 dsimp only
 rw [if_neg (show ¬ aRefKeyMayBeTheName x ⟨es⟩ = true by rw [hr]; exact Bool.false_ne_true)]
 refine wpAny_updatePart ho ?_
 exact h _ _ _ (Heap.SameBut.update ..) ((Heap.get?_update_self _ ho (by rw [hput]; rfl)).trans (congrArg some (hput _ _)))
theorem storeName_cls {env : Env} {x : Str} {v : Value} {es : List DictEntry} {es' : Int → Tok → List DictEntry} {n n' : Nat} {Q : Unit → Shared → Prop} (hc : env.scope.kind = .class) (hk : env.kindOf x = some .local)
  (ho : s.heap.get? env.locals = some (dicO es n)) (hr : aRefKeyMayBeTheName x ⟨es⟩ = false) (hput : ∀ hh t, Obj.putName x hh (.str x t) v (dicO es n) = dicO (es' hh t) n')
  (h : ∀ hh t h', Heap.SameBut env.locals s.heap h' → h'.get? env.locals = some (dicO (es' hh t) n') → Q () { s with heap := h', toks := s.toks + 1 }) : wpAny M A (storeName env x v) Q E s := by
 have e : storeName env x v = localSet env x v := by
  unfold storeName
  rw [hk]
  dsimp only
  rw [hc]
  rfl
 rw [e]
 unfold localSet
 refine wpAny_bind (wpAny_load ho ?_)
 exact nsSet_at ho hr hput h
end
structure KB (ns P : Addr) (s₀ : Shared) (es : List DictEntry) (n : Nat) (ps : Array Value) (l : List (Addr × Obj)) (s : Shared) : Prop where
 st : ∃ h tk, s = { s₀ with heap := h, toks := tk }
 keep : ∀ b o, b ≠ ns → b ≠ P → s₀.heap.get? b = some o → s.heap.get? b = some o
 dic : s.heap.get? ns = some (dicO es n)
 tab : s.heap.get? P = some (tabObj ps)
 made : ∀ p ∈ l, s.heap.get? p.1 = some p.2 ∧ s₀.heap.get? p.1 = none ∧ p.1 ≠ ns ∧ p.1 ≠ P
noncomputable def CodeO (q : Str) (o : Obj) : Prop := ∃ k2 v0 t rest k4, o = ⟨.type "code", k2, .fields ⟨v0 :: .str q t :: rest⟩, k4⟩
theorem CodeO.of {q : Str} {o : Obj} {vs : Array Value} {t : Tok} (h1 : o.cls = .type "code") (h2 : o.data = .fields vs) (h3 : vs[1]? = some (.str q t)) : CodeO q o := by
 obtain ⟨c, d, dt, sl⟩ := o
 dsimp only at h1 h2
 subst h1 h2
 obtain ⟨l⟩ := vs
 match l, h3 with
 | [], h3 => simp at h3
 | [_], h3 => simp at h3
 | v0 :: v1 :: rest, h3 =>
  simp only [List.getElem?_toArray, List.getElem?_cons_succ, List.getElem?_cons_zero, Option.some.injEq] at h3
  exact ⟨d, v0, t, rest, sl, by rw [h3]⟩
section
variable {prog : Program} {w : World} {A : Around} {E : Value → Shared → Prop} {s₀ s : Shared} {ns P cc mc fr : Addr} {es : List DictEntry} {n : Nat} {ps : Array Value} {l : List (Addr × Obj)}
theorem KB.old (K : KB ns P s₀ es n ps l s) (hns : s₀.heap.get? ns ≠ none) (hP : s₀.heap.get? P ≠ none) {a : Addr} (h : s.heap.get? a = none) : s₀.heap.get? a = none ∧ a ≠ ns ∧ a ≠ P := by
 have h1 : a ≠ ns := fun e => by rw [e, K.dic] at h; cases h
 have h2 : a ≠ P := fun e => by rw [e, K.tab] at h; cases h
 refine ⟨?_, h1, h2⟩
 cases q : s₀.heap.get? a with
 | none => rfl
 | some o => rw [K.keep a o h1 h2 q] at h; cases h
theorem KB.step (K : KB ns P s₀ es n ps l s) (hns : s₀.heap.get? ns ≠ none) (hP : s₀.heap.get? P ≠ none) {h' : Heap} {tk : Nat} {es' : List DictEntry} {n' : Nat} {ps' : Array Value} {new : List (Addr × Obj)}
  (k : ∀ b o, b ≠ ns → b ≠ P → s.heap.get? b = some o → h'.get? b = some o) (h1 : h'.get? ns = some (dicO es' n')) (h2 : h'.get? P = some (tabObj ps')) (h3 : ∀ p ∈ new, h'.get? p.1 = some p.2 ∧ s.heap.get? p.1 = none) :
  KB ns P s₀ es' n' ps' (new ++ l) { s with heap := h', toks := tk } := by
 obtain ⟨h, t, e⟩ := K.st
 refine ⟨⟨h', tk, by rw [e]⟩, fun b o hb hb' eo => k b o hb hb' (K.keep b o hb hb' eo), h1, h2, fun p hp => ?_⟩
 rcases List.mem_append.mp hp with z | z
 ·obtain ⟨q1, q2⟩ := h3 p z
  exact ⟨q1, K.old hns hP q2⟩
 ·obtain ⟨q1, q2, q3, q4⟩ := K.made p z
  exact ⟨k _ _ q3 q4 q1, q2, q3, q4⟩
noncomputable def kCls : Stmt := (fBody 1).getD 0 (.Pass ⟨0, 0, 0, 0⟩)
noncomputable def kBody : List Stmt := match kCls with | .ClassDef _ _ _ b _ _ _ _ _ _ _ => b | _ => []
noncomputable def kScope : Scope := match kCls with | .ClassDef _ _ _ _ _ _ s _ _ _ _ => s | _ => { kind := .module, names := [] , isGenerator := false, isCoroutine := false }
noncomputable abbrev kEnv (ns cc fr mc : Addr) : Env := { scope := kScope, locals := ns, globals := mainGlobals, cells := [("mycmp", mc)], qual := "cmp_to_key.<locals>.K.", code := .ref cc, frame := some fr }
noncomputable def kFn (i : Nat) : Stmt := kBody.getD i (.Pass ⟨0, 0, 0, 0⟩)
noncomputable def kName (i : Nat) : Str := match kFn i with | .FunctionDef n _ _ _ _ _ _ _ _ _ => n | _ => ""
noncomputable def kArgs (i : Nat) : Arguments := match kFn i with | .FunctionDef _ a _ _ _ _ _ _ _ _ => a | _ => ⟨[], [], none, [], [], none, []⟩
noncomputable def kFnB (i : Nat) : List Stmt := match kFn i with | .FunctionDef _ _ b _ _ _ _ _ _ _ => b | _ => []
noncomputable def kFnS (i : Nat) : Scope := match kFn i with | .FunctionDef _ _ _ _ _ _ s _ _ _ => s | _ => { kind := .module, names := [] , isGenerator := false, isCoroutine := false }
noncomputable def kPos (i : Nat) : Pos := match kFn i with | .FunctionDef _ _ _ _ _ _ _ _ _ p => p | _ => ⟨0, 0, 0, 0⟩
noncomputable abbrev kFnO (i : Nat) (mc : Addr) (doc pm : Value) (c' : Addr) (ctv : Value) : Obj := fnMade (kName i) ("cmp_to_key.<locals>.K." ++ kName i) (kArgs i) (kFnB i) (kFnS i) (clOf (kFnS i) (kEnv 0 0 0 mc)) doc pm c' ctv
theorem kFn_is : ∀ i ∈ [2, 3, 4, 5, 6, 7], kFn i = .FunctionDef (kName i) (kArgs i) (kFnB i) [] none [] (kFnS i) none (kName i) (kPos i) :=
 all_cons rfl (all_cons rfl (all_cons rfl (all_cons rfl (all_cons rfl (all_cons rfl all_nil)))))
theorem kArgs_none : ∀ i ∈ [2, 3, 4, 5, 6, 7], (kArgs i).defaults = [] ∧ (kArgs i).kw_defaults = [] ∧ annTrees (kArgs i) none (kEnv ns cc fr mc) = [] :=
 all_cons ⟨rfl, rfl, rfl⟩ (all_cons ⟨rfl, rfl, rfl⟩ (all_cons ⟨rfl, rfl, rfl⟩ (all_cons ⟨rfl, rfl, rfl⟩ (all_cons ⟨rfl, rfl, rfl⟩ (all_cons ⟨rfl, rfl, rfl⟩ all_nil)))))
theorem kArgs_doc : ∀ i ∈ [2, 3, 4, 5, 6, 7], docOf (kFnB i) = none :=
 all_cons rfl (all_cons rfl (all_cons rfl (all_cons rfl (all_cons rfl (all_cons rfl all_nil)))))
theorem kArgs_bind : ∀ i ∈ [2, 3, 4, 5, 6, 7], (kEnv ns cc fr mc).kindOf (kName i) = some .local :=
 all_cons rfl (all_cons rfl (all_cons rfl (all_cons rfl (all_cons rfl (all_cons rfl all_nil)))))
theorem kArgs_q : ∀ i ∈ [2, 3, 4, 5, 6, 7], qualnameIn (kEnv ns cc fr mc) (kName i) (kName i) = "cmp_to_key.<locals>.K." ++ kName i ∧ clOf (kFnS i) (kEnv ns cc fr mc) = clOf (kFnS i) (kEnv 0 0 0 mc) :=
 all_cons ⟨rfl, rfl⟩ (all_cons ⟨rfl, rfl⟩ (all_cons ⟨rfl, rfl⟩ (all_cons ⟨rfl, rfl⟩ (all_cons ⟨rfl, rfl⟩ (all_cons ⟨rfl, rfl⟩ all_nil)))))
theorem kArgs_fr : ∀ i ∈ [2, 3, 4, 5, 6, 7], ∀ x ∈ (kFnS i).names, x.2 = .free → ((kEnv ns cc fr mc).cells.lookup x.1).isSome = true := by
 intro i hi x hx hf
 have : (kFnS i).names.all (fun x => x.2 != .free || x.1 == ("mycmp" : Str)) = true := (all_cons (by decide +kernel) (all_cons (by decide +kernel) (all_cons (by decide +kernel) (all_cons (by decide +kernel) (all_cons (by decide +kernel) (all_cons (by decide +kernel) all_nil))))) : ∀ i ∈ [2, 3, 4, 5, 6, 7], (kFnS i).names.all (fun x => x.2 != .free || x.1 == ("mycmp" : Str)) = true) i hi
 have h2 := List.all_eq_true.mp this x hx
 rw [hf] at h2
 have h3 : x.1 = ("mycmp" : Str) := by simpa using h2
 show (List.lookup x.1 [(("mycmp" : Str), mc)]).isSome = true
 rw [h3, List.lookup_cons, beq_self_eq_true]; rfl
theorem kb_def {i : Nat} (hi : i ∈ [2, 3, 4, 5, 6, 7]) {mg : Str → Option Value} (K : KB ns P s₀ es n ps l s) (hns : s₀.heap.get? ns ≠ none) (hP : s₀.heap.get? P ≠ none) (hg : s₀.heap.Ns mainGlobals mg) (hgn : mainGlobals ≠ ns) (hC : CodeHd s₀.heap cc P) (hcn : cc ≠ ns) (hnsP : ns ≠ P) (hPn : ∀ o, s₀.heap.get? P = some o → ∃ vs, o.data = .fields vs)
  (hb : s₀.heap.BuiltinsAt mg P) (hbn : ∀ bm, mg "__builtins__" = some (.ref bm) → bm ≠ ns) (ht : TriplesOk ps.toList) (hnf : codeAmong (kPos i) ps.toList = none)
  (hr : aRefKeyMayBeTheName (kName i) ⟨es⟩ = false) (hput : ∀ f hh t, Obj.putName (kName i) hh (.str (kName i) t) (.ref f) (dicO es n) = dicO (es ++ [⟨hh, .str (kName i) t, .ref f⟩]) (n + 1))
  {Q : Flow → Shared → Prop} (h : ∀ f c' oc doc ctv hh t s', CodeO ("cmp_to_key.<locals>.K." ++ kName i) oc →
   KB ns P s₀ (es ++ [⟨hh, .str (kName i) t, .ref f⟩]) (n + 1) (ps ++ #[rawInt (kPos i).line, rawInt (kPos i).col, .ref c']) ((f, kFnO i mc doc ((mg "__name__").getD .none) c' ctv) :: (c', oc) :: l) s' → Q .next s') :
  wpAny (model prog w) A (exec (kFn i) (kEnv ns cc fr mc)) Q E s := by
 obtain ⟨bm, ob, b1, b2, b3, b4, b5, b6⟩ := hb
 have hPt := K.tab
 have hcP : cc ≠ P := by obtain ⟨_, _, _, _, _, _, _, _, _, _, _, _, _, _, _, _, _, _, z⟩ := hC; exact z
 have hgP : mainGlobals ≠ P := fun e => by
  obtain ⟨o, es1, ep, e1, e2, _⟩ := hg
  obtain ⟨vs, e3⟩ := hPn o (e ▸ e1)
  rw [e3] at e2; cases e2
 have hg' : s.heap.Ns mainGlobals mg := by
  obtain ⟨o, r⟩ := hg
  exact ⟨o, r.choose, r.choose_spec.choose, K.keep _ _ hgn hgP r.choose_spec.choose_spec.1, r.choose_spec.choose_spec.2⟩
 have hC' : CodeHd s.heap cc P := by
  obtain ⟨o, vs, file, tf, flags, tg, inF, text, tt, e, r⟩ := hC
  exact ⟨o, vs, file, tf, flags, tg, inF, text, tt, K.keep _ _ hcn hcP e, r⟩
 rw [kFn_is i hi]
 have ka := kArgs_none (ns := ns) (cc := cc) (mc := mc) (fr := fr) i hi
 have kq := kArgs_q (ns := ns) (cc := cc) (mc := mc) (fr := fr) i hi
 refine nestDef_K ka.1 ka.2.1 ka.2.2 ?_
 rw [kq.1]
 refine mkFn (clos := clOf (kFnS i) (kEnv 0 0 0 mc)) (kq.2 ▸ closureFor_is (kArgs_fr i hi)) rfl (kArgs_doc i hi) hg' rfl hC' hPt ht hnf hgP ⟨bm, ob, b1, b2, b3, b4, K.keep _ _ (hbn bm b1) b4 b5, b6⟩ fun c' oc vs tq P' ctv h' tk hx hge hlt e3 e0 e4 e5 o_ htb => ?_
 have hns' : h'.get? ns = some (dicO es n) := hx _ _ hnsP K.dic
 refine storeName_cls (env := kEnv ns cc fr mc) rfl (kArgs_bind (ns := ns) (cc := cc) (mc := mc) (fr := fr) i hi) (Heap.get?_push_of_some _ hns') hr (hput _) fun hh t h2 hsb hn2 => ?_
 have hlt' : ns < h'.objs.size := Heap.lt_size hns'
 have hnc : s.heap.get? c' = none := Heap.get?_none_of_le hge
 have hcns : c' ≠ ns := fun e => by rw [e, K.dic] at hnc; cases hnc
 have up : ∀ b o, b ≠ ns → h'.get? b = some o → h2.get? b = some o := fun b o hb e => (hsb.2 b hb).trans (Heap.get?_push_of_some _ e)
 refine h h'.objs.size c' oc .none ctv hh t _ (CodeO.of e0 e4 e5) (K.step (new := [_, _]) hns hP (fun b o hb hb' e => up b o hb (hx b o hb' e)) hn2 (up _ _ (Ne.symm hnsP) htb) fun p hp => ?_)
 rcases List.mem_cons.mp hp with rfl | hp
 ·exact ⟨(hsb.2 _ (Nat.ne_of_gt hlt')).trans (Heap.get?_push_size _ rfl), Heap.get?_none_of_le (Nat.le_trans hge (Nat.le_of_lt hlt))⟩
 ·rw [List.mem_singleton.mp hp]
  exact ⟨up _ _ hcns e3, hnc⟩
noncomputable def nMod : Str := "__module__"
noncomputable def nQual : Str := "__qualname__"
noncomputable def nLine : Str := "__firstlineno__"
noncomputable def nSlots : Str := "__slots__"
noncomputable def nHash : Str := "__hash__"
noncomputable def kMod : Str := "cpy313.functools"
noncomputable abbrev kEs (h1 h2 h3 : Int) (k1 k2 k3 : Tok) (v1 v2 v3 : Value) : List DictEntry := [⟨h1, .str nMod k1, v1⟩, ⟨h2, .str nQual k2, v2⟩, ⟨h3, .str nLine k3, v3⟩]
noncomputable abbrev lstO (qs : Tok) : Obj := { cls := .type "list", data := .seq #[.str "obj" qs] 0 }
set_option maxRecDepth 100000 in
set_option maxHeartbeats 4000000 in
theorem kb_body {mg : Str → Option Value} {h1 h2 h3 : Int} {k1 k2 k3 : Tok} {v1 v2 v3 : Value} (hd : s.heap.get? ns = some (dicO (kEs h1 h2 h3 k1 k2 k3 v1 v2 v3) 3)) (htab : s.heap.get? P = some (tabObj #[])) (hg : s.heap.Ns mainGlobals mg) (hgn : mainGlobals ≠ ns) (hC : CodeHd s.heap cc P) (hcn : cc ≠ ns)
  (hb : s.heap.BuiltinsAt mg P) (hbn : ∀ bm, mg "__builtins__" = some (.ref bm) → bm ≠ ns) {Q : Flow → Shared → Prop}
  (h : ∀ q1 qs sl f1 f2 f3 f4 f5 f6 c1 c2 c3 c4 c5 c6 o1 o2 o3 o4 o5 o6 d1 d2 d3 d4 d5 d6 t1 t2 t3 t4 t5 t6 a1 a2 a3 a4 a5 a6 a7 a8 b1 b2 b3 b4 b5 b6 b7 b8 ps s', CodeO ("cmp_to_key.<locals>.K." ++ kName 2) o1 → CodeO ("cmp_to_key.<locals>.K." ++ kName 3) o2 →
   KB ns P s [⟨h1, .str nMod k1, .str kMod q1⟩, ⟨h2, .str nQual k2, v2⟩, ⟨h3, .str nLine k3, v3⟩, ⟨a1, .str nSlots b1, .ref sl⟩, ⟨a2, .str (kName 2) b2, .ref f1⟩, ⟨a3, .str (kName 3) b3, .ref f2⟩, ⟨a4, .str (kName 4) b4, .ref f3⟩, ⟨a5, .str (kName 5) b5, .ref f4⟩, ⟨a6, .str (kName 6) b6, .ref f5⟩, ⟨a7, .str (kName 7) b7, .ref f6⟩, ⟨a8, .str nHash b8, .none⟩] 11 ps
    [(f6, kFnO 7 mc d6 ((mg "__name__").getD .none) c6 t6), (c6, o6), (f5, kFnO 6 mc d5 ((mg "__name__").getD .none) c5 t5), (c5, o5), (f4, kFnO 5 mc d4 ((mg "__name__").getD .none) c4 t4), (c4, o4), (f3, kFnO 4 mc d3 ((mg "__name__").getD .none) c3 t3), (c3, o3),
     (f2, kFnO 3 mc d2 ((mg "__name__").getD .none) c2 t2), (c2, o2), (f1, kFnO 2 mc d1 ((mg "__name__").getD .none) c1 t1), (c1, o1), (sl, lstO qs)] s' → Q .next s') :
  wpAny (model prog w) A (execs kBody (kEnv ns cc fr mc)) Q E s := by
 have hns : s.heap.get? ns ≠ none := by rw [hd]; exact fun z => nomatch z
 have hP : s.heap.get? P ≠ none := by rw [htab]; exact fun z => nomatch z
 have hnsP : ns ≠ P := fun e => by rw [e, htab] at hd; cases hd
 have hPn : ∀ o, s.heap.get? P = some o → ∃ vs, o.data = .fields vs := fun o e => by rw [htab] at e; cases e; exact ⟨_, rfl⟩
 have K : KB ns P s (kEs h1 h2 h3 k1 k2 k3 v1 v2 v3) 3 #[] [] s := ⟨⟨_, _, rfl⟩, fun o_ o_ o_ o_ e => e, hd, htab, fun o_ h => (nomatch h)⟩
 refine ex_cons ?_
 refine wpAny_Assign_Name (show wpAny _ _ (mkText kMod) _ _ s from wpAny_mkText ?_) rfl
 refine storeName_cls (env := kEnv ns cc fr mc) (es' := fun o_ o_ => [⟨h1, .str nMod k1, .str kMod s.toks⟩, ⟨h2, .str nQual k2, v2⟩, ⟨h3, .str nLine k3, v3⟩]) (n' := 3) rfl rfl hd (by kernel_rfl) (fun o_ o_ => by kernel_rfl) fun o_ o_ hp2 hs e2 => ?_
 have K := K.step (new := []) (ps' := #[]) (tk := s.toks + 1 + 1) hns hP (fun b o hb o_ e => (hs.2 b hb).trans e) e2 ((hs.2 _ (Ne.symm hnsP)).trans htab) fun o_ h => (nomatch h)
 generalize ({ s with heap := hp2, toks := s.toks + 1 + 1 } : Shared) = s2 at K ⊢
 refine ex_cons ?_
 refine wpAny_Assign_Name (List_ (spliced_more (show wpAny _ _ (mkText "obj") _ _ s2 from wpAny_mkText (spliced_none (wpAny_newObj_type ?_ (by size_fits)))) rfl)) rfl
 have hlt : ns < s2.heap.objs.size := Heap.lt_size K.dic
 refine storeName_cls (env := kEnv ns cc fr mc) (es' := fun a b => [⟨h1, .str nMod k1, .str kMod s.toks⟩, ⟨h2, .str nQual k2, v2⟩, ⟨h3, .str nLine k3, v3⟩, ⟨a, .str nSlots b, .ref s2.heap.objs.size⟩]) (n' := 4) rfl rfl (Heap.get?_push_of_some _ K.dic) (by kernel_rfl) (fun o_ o_ => by kernel_rfl) fun a1 b1 h3' hs3 e3 => ?_
 have K := K.step (new := [(s2.heap.objs.size, lstO s2.toks)]) (ps' := #[]) (tk := s2.toks + 1 + 1) hns hP (fun b o hb o_ e => (hs3.2 b hb).trans (Heap.get?_push_of_some _ e)) e3 ((hs3.2 _ (Ne.symm hnsP)).trans (Heap.get?_push_of_some _ K.tab)) fun p hp => by
  rw [List.mem_singleton.mp hp]
  exact ⟨(hs3.2 _ (Nat.ne_of_gt hlt)).trans (Heap.get?_push_size _ rfl), Heap.get?_none_of_le (Nat.le_refl _)⟩
 generalize s2.heap.objs.size = sl at K
 generalize ({ heap := h3', gens := s2.gens, drawn := s2.drawn, toks := s2.toks + 1 + 1, os := s2.os } : Shared) = s4 at K ⊢
 generalize s2.toks = qs at K
 generalize s.toks = q1 at K
 refine ex_cons ?_
 refine kb_def (i := 2) (by decide) K hns hP hg hgn hC hcn hnsP hPn hb hbn trivial (by kernel_rfl) (by kernel_rfl) (fun o_ o_ o_ => by kernel_rfl) fun f1 c1 o1 d1 t1 a2 b2 s5 ho1 K => ?_
 refine ex_cons ?_
 refine kb_def (i := 3) (by decide) K hns hP hg hgn hC hcn hnsP hPn hb hbn trivial (by kernel_rfl) (by kernel_rfl) (fun o_ o_ o_ => by kernel_rfl) fun f2 c2 o2 d2 t2 a3 b3 s6 ho2 K => ?_
 refine ex_cons ?_
 refine kb_def (i := 4) (by decide) K hns hP hg hgn hC hcn hnsP hPn hb hbn trivial (by kernel_rfl) (by kernel_rfl) (fun o_ o_ o_ => by kernel_rfl) fun f3 c3 o3 d3 t3 a4 b4 s7 ho3 K => ?_
 refine ex_cons ?_
 refine kb_def (i := 5) (by decide) K hns hP hg hgn hC hcn hnsP hPn hb hbn trivial (by kernel_rfl) (by kernel_rfl) (fun o_ o_ o_ => by kernel_rfl) fun f4 c4 o4 d4 t4 a5 b5 s8 ho4 K => ?_
 refine ex_cons ?_
 refine kb_def (i := 6) (by decide) K hns hP hg hgn hC hcn hnsP hPn hb hbn trivial (by kernel_rfl) (by kernel_rfl) (fun o_ o_ o_ => by kernel_rfl) fun f5 c5 o5 d5 t5 a6 b6 s9 ho5 K => ?_
 refine ex_cons ?_
 refine kb_def (i := 7) (by decide) K hns hP hg hgn hC hcn hnsP hPn hb hbn trivial (by kernel_rfl) (by kernel_rfl) (fun o_ o_ o_ => by kernel_rfl) fun f6 c6 o6 d6 t6 a7 b7 s10 ho6 K => ?_
 refine ex_cons ?_
 refine wpAny_Assign_Name (Constant_none ?_) rfl
 refine storeName_cls (env := kEnv ns cc fr mc) (es' := fun a b => [⟨h1, .str nMod k1, .str kMod q1⟩, ⟨h2, .str nQual k2, v2⟩, ⟨h3, .str nLine k3, v3⟩, ⟨a1, .str nSlots b1, .ref sl⟩, ⟨a2, .str (kName 2) b2, .ref f1⟩, ⟨a3, .str (kName 3) b3, .ref f2⟩, ⟨a4, .str (kName 4) b4, .ref f3⟩, ⟨a5, .str (kName 5) b5, .ref f4⟩, ⟨a6, .str (kName 6) b6, .ref f5⟩, ⟨a7, .str (kName 7) b7, .ref f6⟩, ⟨a, .str nHash b, .none⟩]) (n' := 11) rfl rfl K.dic (by kernel_rfl) (fun o_ o_ => by kernel_rfl) fun a8 b8 h9 hs9 e9 => ?_
 have K := K.step (new := []) (tk := s10.toks + 1) hns hP (fun b o hb o_ e => (hs9.2 b hb).trans e) e9 ((hs9.2 _ (Ne.symm hnsP)).trans K.tab) fun o_ h => (nomatch h)
 exact ex_nil (h q1 qs sl f1 f2 f3 f4 f5 f6 c1 c2 c3 c4 c5 c6 o1 o2 o3 o4 o5 o6 d1 d2 d3 d4 d5 d6 t1 t2 t3 t4 t5 t6 a1 a2 a3 a4 a5 a6 a7 a8 b1 b2 b3 b4 b5 b6 b7 b8 _ _ ho1 ho2 K)
end
end Mine
end
section
open PySem PySem.W PyProof.Rows PySem.W.X
namespace Mine
section
variable {α : Type} {prog : Program} {w : World} {A : Around} {E : Value → Shared → Prop} {Q : α → Shared → Prop} {h₀ h : Heap} {g : Array GenState} {d : Drawn} {tk : Nat} {os : OsState} {chg news : List (Addr × Obj)} {c : Code}
theorem m_at {s : Shared} {q : Pos} {k : Unit → Sem α} (x : wpOwn (model prog w) A c (k ()) Q E s) : wpOwn (model prog w) A c (.at q k) Q E s := fun Γ o_ hc hΓ => x Γ q hc hΓ
theorem m_grow {a : Addr} {q : Option Value} {f : Obj → Obj} {k : Unit → Sem α} {c₀ : Addr} {ps : Array Value} (more : Array Value) (D : Mem h₀ h chg news) (ht : h₀.TableAt c₀ a ps) (hw : away chg a = true) (hn : f (tableObj ps) = tableObj (ps ++ more)) (x : ∀ h', Mem h₀ h' ((a, tableObj (ps ++ more)) :: chg) news → wpOwn (model prog w) A c (k ()) Q E ⟨h', g, d, tk, os⟩) : wpOwn (model prog w) A c (.update a q f k) Q E ⟨h, g, d, tk, os⟩ := by
 refine y_grow α prog w A c Q E h₀ chg news h g d tk os a q f k c₀ ps more D ht hw hn x
theorem m_stack {s : Shared} {k : List (Code × Pos) → Sem α} (hd : (A.under c).depth < recursionLimit) (x : ∀ (p : Pos) (below : List (Code × Pos)), (∀ own, X.nearF ((c, p) :: below) own recursionLimit = false) → (∀ own, X.overF ((c, p) :: below) own recursionLimit = false) → (∀ own, X.warmF ((c, p) :: below) own recursionLimit = false) → wpOwn (model prog w) A c (k ((c, p) :: below)) Q E s) : wpOwn (model prog w) A c (.stack k) Q E s := by
 apply y_stack
 intro p below l
 exact x p below (fun own => l.near' hd own) (fun own => l.over hd own) (fun own => l.warm hd own)
end
theorem m_againE {prog : Program} {w : World} {A : Around} {s : Shared} {R : Result → Shared → Prop} {c' : Code} (c'' : Code) (e : c' = c'') (hq : c''.quiet = true) (x : wpOwn (model prog w) A c'' (dnx c'') (postC prog w A R) (postE R) s) : postC prog w A R (.again c') s := by subst e; exact m_again hq x
theorem ge2 {a : Nat} (h0 : ¬ a = 0) (h1 : ¬ a = 1) : ∃ n, a = n + 2 := ⟨a - 2, by grind⟩
section
open E6
set_option maxRecDepth 100000 in
set_option maxHeartbeats 8000000 in
theorem getprep {prog : Program} {w : World} {e0 : Env} {b : List Stmt} {env : Env} {s : Shared} {Q : Result → Shared → Prop} {E : Value → Shared → Prop} {t : Tok} {l gd}
  (hQ : ∀ r s', NewOne s ⟨.type "builtin_function_or_method", none, .fields ⟨[.builtin "type.__prepare__", .type "type"]⟩, #[]⟩ r s' → Q r s') :
  wpAny (model prog w) (((callerA.deeper e0).mark none).under (.func b env)) (.call (.call (.builtin "type.__getattribute__") ⟨[.type "type", .str (tK [95, 95, 112, 114, 101, 112, 97, 114, 101, 95, 95]) t], []⟩) none gd l Sem.pure) Q E s := by
 x_run
set_option maxRecDepth 100000 in
set_option maxHeartbeats 8000000 in
theorem doprep {prog : Program} {w : World} {e0 : Env} {b : List Stmt} {env : Env} {s : Shared} {Q : Result → Shared → Prop} {E : Value → Shared → Prop} {t : Tok} {l gd} {m bT : Addr}
  (hm : s.heap.get? m = some ⟨.type "builtin_function_or_method", none, .fields ⟨[.builtin "type.__prepare__", .type "type"]⟩, #[]⟩)
  (hQ : ∀ r s', NewOne s ⟨.type "dict", none, .dict ⟨[]⟩ 0, #[]⟩ r s' → Q r s') :
  wpAny (model prog w) (((callerA.deeper e0).mark none).under (.func b env)) (.call (.call (.ref m) ⟨[.str (tK [75]) t, .ref bT], []⟩) none gd l Sem.pure) Q E s := by
 x_run
end
section
variable {α : Type} {prog : Program} {w : World} {A : Around} {E : Value → Shared → Prop} {Q : α → Shared → Prop} {h₀ h : Heap} {g : Array GenState} {d : Drawn} {tk : Nat} {os : OsState} {chg news : List (Addr × Obj)} {c : Code}
theorem m_oldE {a a' : Addr} {q : Option Value} {k : Obj → Sem α} {o : Obj} (D : Mem h₀ h chg news) (ho : h₀.get? a' = some o) (e : a = a') (ha : away chg a' = true) (x : wpOwn (model prog w) A c (k o) Q E ⟨h, g, d, tk, os⟩) : wpOwn (model prog w) A c (.load a q k) Q E ⟨h, g, d, tk, os⟩ := by
 subst e
 exact m_old D ho (by rw [ha, Bool.or_true]) x
theorem m_chg {a : Addr} {q : Option Value} {k : Obj → Sem α} {o : Obj} (D : Mem h₀ h chg news) (i : Nat) (hi : chg[i]? = some (a, o)) (x : wpOwn (model prog w) A c (k o) Q E ⟨h, g, d, tk, os⟩) : wpOwn (model prog w) A c (.load a q k) Q E ⟨h, g, d, tk, os⟩ := by apply y_load (ho := D.atC i a o hi); exact x
theorem m_onRaise {s : Shared} {m : Sem α} {k : Value → Sem Unit} (x : wpOwn (model prog w) A c m Q (fun o_ o_ => False) s) : wpOwn (model prog w) A c (m.onRaise k) Q E s := fun Γ p hc hΓ => by
 rw [Sem.wp_onRaise]
 exact Sem.wp_mono _ Γ m (fun o_ o_ o_ h' => h') (fun e p' s' h' => h'.elim) p s (x Γ p hc hΓ)
theorem m_keep {s : Shared} {m : Sem α} {vs : List Value} (x : wpOwn (model prog w) A c m Q E s) : wpOwn (model prog w) A c (m.keep vs) Q E s := fun Γ p hc hΓ => by rw [Sem.wp_keep]; exact x Γ p hc hΓ
end
section
variable {α : Type} {prog : Program} {w : World} {A : Around} {E : Value → Shared → Prop} {Q : α → Shared → Prop} {h : Heap} {g : Array GenState} {d : Drawn} {tk : Nat} {os : OsState} {c : Code}
theorem m_put {a : Addr} {q : Option Value} {f : Obj → Obj} {k : Unit → Sem α} {o o' : Obj} (ho : h.get? a = some o) (e : f o = o') (hf : o'.isFreed = false) (x : ∀ h', Heap.SameBut a h h' → h'.get? a = some o' → wpOwn (model prog w) A c (k ()) Q E ⟨h', g, d, tk, os⟩) : wpOwn (model prog w) A c (.update a q f k) Q E ⟨h, g, d, tk, os⟩ := by
 subst e
 exact wpOwn_bind (m := updatePart a q f) (f := k) (wpOwn_of_wpAny (wpAny_updatePart ho (x _ (Heap.SameBut.update ..) (Heap.get?_update_self _ ho hf))))
end
end Mine
end
section
open PySem PySem.W PyProof.Rows PySem.W.X
namespace Mine
open PySem.Calls
theorem away_one {a b : Addr} {o : Obj} (h : b ≠ a) : away [(a, o)] b = true := by
 have : Nat.beq a b = false := Bool.eq_false_iff.mpr fun z => h (Nat.eq_of_beq_eq_true z).symm
 simp [away, this]
noncomputable abbrev LK (x : Str) (es : List DictEntry) (r : Option DictEntry) : Prop := XFast.xw3451499830137702736 x.cps.size x.cps.toList (Array.mk es).toList false = (r, false)
noncomputable abbrev o21 (pm : Value) : Obj := ⟨.type "function", none, .func { name := "cmp_to_key", qualname := "cmp_to_key", params := fArgs 1, body := .stmts (fBody 1), scope := fScope 1, globals := 3, closure := [], defaults := .none, kwdefaults := .none, pyModule := pm, code := .ref 20 }, #[]⟩
noncomputable abbrev o20 : Obj := ⟨.type "code", none, .fields #[.str "cmp_to_key" 189, .str "cmp_to_key" 190, .str "/claim/cut.py" 191, .int 2 0, .int 1 0, .int 0 0, .int 0 0, .int 3 0, .ref 15, .bool true, .int 181 0, .ref 16, .none, .ref 17, .ref 18, .ref 19, .int 195 0, .int 2 0, .str "/claim/cut.py" 196], #[]⟩
set_option genInjectivity false in
set_option genSizeOf false in
structure KV where
 (nd bT dd sl st f1 f2 f3 f4 f5 f6 mc c1 c2 : Addr)
 (u1 u2 : Obj)
 (d1 d2 t1 t2 : Value)
 x : Nat → Int
 (y z : Nat → Tok)
structure KF (h : Heap) (pm : Value) (lam C : Addr) (v : KV) : Prop where
 o1 : CodeO ("cmp_to_key.<locals>.K." ++ kName 2) v.u1
 o2 : CodeO ("cmp_to_key.<locals>.K." ++ kName 3) v.u2
 hC : h.get? C = some (clsO C v.nd v.bT (v.y 14) qnK (v.y 15))
 nd : h.get? v.nd = some ⟨.type "dict", none, .dict ⟨[⟨v.x 1, .str (tK [95, 95, 109, 111, 100, 117, 108, 101, 95, 95]) (v.y 1), .str kMod (v.z 1)⟩, ⟨v.x 2, .str (tK [95, 95, 102, 105, 114, 115, 116, 108, 105, 110, 101, 110, 111, 95, 95]) (v.y 2), .int 4 (v.z 2)⟩, ⟨v.x 3, .str (tK [95, 95, 115, 108, 111, 116, 115, 95, 95]) (v.y 3), .ref v.sl⟩, ⟨v.x 4, .str (tK [95, 95, 105, 110, 105, 116, 95, 95]) (v.y 4), .ref v.f1⟩, ⟨v.x 5, .str (tK [95, 95, 108, 116, 95, 95]) (v.y 5), .ref v.f2⟩, ⟨v.x 6, .str (tK [95, 95, 103, 116, 95, 95]) (v.y 6), .ref v.f3⟩, ⟨v.x 7, .str (tK [95, 95, 101, 113, 95, 95]) (v.y 7), .ref v.f4⟩, ⟨v.x 8, .str (tK [95, 95, 108, 101, 95, 95]) (v.y 8), .ref v.f5⟩, ⟨v.x 9, .str (tK [95, 95, 103, 101, 95, 95]) (v.y 9), .ref v.f6⟩, ⟨v.x 10, .str (tK [95, 95, 104, 97, 115, 104, 95, 95]) (v.y 10), .none⟩, ⟨v.x 11, .str (tK [95, 95, 115, 116, 97, 116, 105, 99, 95, 97, 116, 116, 114, 105, 98, 117, 116, 101, 115, 95, 95]) (v.y 11), .ref v.st⟩, ⟨v.x 12, .str (tK [111, 98, 106]) (v.y 12), .ref v.dd⟩, ⟨v.x 13, .str (tK [95, 95, 100, 111, 99, 95, 95]) (v.y 13), .none⟩]⟩ 3, #[]⟩
 dd : h.get? v.dd = some (descO C (v.y 16))
 mc : h.get? v.mc = some ⟨.type "cell", none, .cell (some (.ref lam)), #[]⟩
 f1 : h.get? v.f1 = some (kFnO 2 v.mc v.d1 pm v.c1 v.t1)
 f2 : h.get? v.f2 = some (kFnO 3 v.mc v.d2 pm v.c2 v.t2)
 c1 : h.get? v.c1 = some v.u1
 c2 : h.get? v.c2 = some v.u2
noncomputable def CtkOut (h h' : Heap) (pm : Value) (lam C : Addr) : Prop :=
 (∀ b o, b ≠ 16 → h.get? b = some o → h'.get? b = some o) ∧ (∃ cc, h'.get? 16 = some (tabObj #[rawInt 4, rawInt 4, .ref cc])) ∧ ∃ v : KV, (∀ a ∈ [C, v.nd, v.dd, v.f1, v.f2, v.mc, v.c1, v.c2], h.get? a = none) ∧ KF h' pm lam C v
theorem mkOut {h h' : Heap} {pm : Value} {lam C cc nd bT dd sl st f1 f2 f3 f4 f5 f6 mc c1 c2 : Addr} {u1 u2 : Obj} {d1 d2 t1 t2 : Value} {x1 x2 x3 x4 x5 x6 x7 x8 x9 x10 x11 x12 x13 : Int} {y1 y2 y3 y4 y5 y6 y7 y8 y9 y10 y11 y12 y13 y14 y15 y16 z1 z2 : Tok}
  (hk : ∀ b o, b ≠ 16 → h.get? b = some o → h'.get? b = some o) (h16 : h'.get? 16 = some (tabObj #[rawInt 4, rawInt 4, .ref cc])) (hn : ∀ a ∈ [C, nd, dd, f1, f2, mc, c1, c2], h.get? a = none) (o1 : CodeO ("cmp_to_key.<locals>.K." ++ kName 2) u1) (o2 : CodeO ("cmp_to_key.<locals>.K." ++ kName 3) u2)
  (hC : h'.get? C = some (clsO C nd bT y14 qnK y15)) (hnd : h'.get? nd = some ⟨.type "dict", none, .dict ⟨[⟨x1, .str (tK [95, 95, 109, 111, 100, 117, 108, 101, 95, 95]) y1, .str kMod z1⟩, ⟨x2, .str (tK [95, 95, 102, 105, 114, 115, 116, 108, 105, 110, 101, 110, 111, 95, 95]) y2, .int 4 z2⟩, ⟨x3, .str (tK [95, 95, 115, 108, 111, 116, 115, 95, 95]) y3, .ref sl⟩, ⟨x4, .str (tK [95, 95, 105, 110, 105, 116, 95, 95]) y4, .ref f1⟩, ⟨x5, .str (tK [95, 95, 108, 116, 95, 95]) y5, .ref f2⟩, ⟨x6, .str (tK [95, 95, 103, 116, 95, 95]) y6, .ref f3⟩, ⟨x7, .str (tK [95, 95, 101, 113, 95, 95]) y7, .ref f4⟩, ⟨x8, .str (tK [95, 95, 108, 101, 95, 95]) y8, .ref f5⟩, ⟨x9, .str (tK [95, 95, 103, 101, 95, 95]) y9, .ref f6⟩, ⟨x10, .str (tK [95, 95, 104, 97, 115, 104, 95, 95]) y10, .none⟩, ⟨x11, .str (tK [95, 95, 115, 116, 97, 116, 105, 99, 95, 97, 116, 116, 114, 105, 98, 117, 116, 101, 115, 95, 95]) y11, .ref st⟩, ⟨x12, .str (tK [111, 98, 106]) y12, .ref dd⟩, ⟨x13, .str (tK [95, 95, 100, 111, 99, 95, 95]) y13, .none⟩]⟩ 3, #[]⟩) (hdd : h'.get? dd = some (descO C y16)) (hmc : h'.get? mc = some ⟨.type "cell", none, .cell (some (.ref lam)), #[]⟩)
  (hf1 : h'.get? f1 = some (kFnO 2 mc d1 pm c1 t1)) (hf2 : h'.get? f2 = some (kFnO 3 mc d2 pm c2 t2)) (hc1 : h'.get? c1 = some u1) (hc2 : h'.get? c2 = some u2) : CtkOut h h' pm lam C :=
 ⟨hk, ⟨cc, h16⟩, ⟨nd, bT, dd, sl, st, f1, f2, f3, f4, f5, f6, mc, c1, c2, u1, u2, d1, d2, t1, t2, fun i => [0, x1, x2, x3, x4, x5, x6, x7, x8, x9, x10, x11, x12, x13].getD i 0, fun i => [0, y1, y2, y3, y4, y5, y6, y7, y8, y9, y10, y11, y12, y13, y14, y15, y16].getD i 0, fun i => [0, z1, z2].getD i 0⟩, hn, ⟨o1, o2, hC, hnd, hdd, hmc, hf1, hf2, hc1, hc2⟩⟩
set_option tactic.hygienic true in
set_option maxRecDepth 100000 in
set_option maxHeartbeats 8000000 in
theorem ctk {w : World} {h : Heap} {g : Array GenState} {d : Drawn} {tk : Nat} {os : OsState} {e0 : Env} {Q : Result → Shared → Prop} {E : Value → Shared → Prop} {lam : Addr} {lo o1 : Obj} {mg : Str → Option Value} {gd l}
 {a1 a2 a3 a4 : Int} {b1 b2 b3 b4 : Value} {mn : Str} {q1 : Tok} {pm : Value} {c0 c3 : Value} {d0 d3 : Option Addr} {es0 es3 : List DictEntry} {n0 n3 : Nat} {s0 s3 : Array (Option Value)}
 (h21 : h.get? 21 = some (o21 pm)) (h20 : h.get? 20 = some o20) (h16 : h.get? 16 = some ⟨.none, none, .fields #[], #[]⟩) (h2 : h.get? cStatics = some ⟨.none, none, .dict ⟨[]⟩ 0, #[]⟩)
 (h4 : h.get? 4 = some ⟨.type "module", some 0, .plain, #[]⟩) (h3 : h.get? mainGlobals = some ⟨c3, d3, .dict ⟨es3⟩ n3, s3⟩) (h0 : h.get? 0 = some ⟨c0, d0, .dict ⟨es0⟩ n0, s0⟩)
 (hq1 : LK (tK [95, 95, 98, 117, 105, 108, 100, 95, 99, 108, 97, 115, 115, 95, 95]) es0 (some ⟨a1, b1, .builtin "__build_class__"⟩)) (hq2 : LK "object" es3 none) (hq3 : LK "object" es0 (some ⟨a2, b2, .type "object"⟩)) (hq4 : LK (tK [95, 95, 98, 117, 105, 108, 116, 105, 110, 115, 95, 95]) es3 (some ⟨a3, b3, .ref 4⟩)) (hq5 : LK (tK [95, 95, 110, 97, 109, 101, 95, 95]) es3 (some ⟨a4, b4, .str mn q1⟩))
 (hmg : h.Ns mainGlobals mg) (hbt : h.BuiltinsAt mg 16) (h1 : h.get? sysModules = some o1) (hlam : h.get? lam = some lo) (hQ : ∀ C h' tk', CtkOut h h' ((mg "__name__").getD .none) lam C → Q (.ok (.ret (.ref C))) ⟨h', g, d, tk', os⟩) :
  wpAny (model Challenge.pw_op0050_01 w) (callerA.deeper e0) (.call (.call (.ref 21) ⟨[.ref lam], []⟩) none gd l Sem.pure) Q E ⟨h, g, d, tk, os⟩ := by
 have h16r := h16
 have D := Mem.start h
 refine m_enter (by simp [byPass]) ?_
 refine m_old D (by assumption) (by with_unfolding_all rfl) ?_
 refine m_old D (by assumption) (by with_unfolding_all rfl) ?_
 (refine m_alloc D (by with_unfolding_all rfl) ?_); clear D; intro _ _ D
 (refine m_alloc D (by with_unfolding_all rfl) ?_); clear D; intro _ _ D
 refine m_new D 0 (by with_unfolding_all rfl) ?_
 (refine m_update D 0 (by with_unfolding_all rfl) (by with_unfolding_all rfl) ?_); clear D; intro _ D; dsimp only [List.set] at D
 (refine m_stack (by with_unfolding_all exact Nat.le_of_ble_eq_true rfl) ?_); intro _ _ hN hO hW
 refine m_old D (by assumption) (by with_unfolding_all rfl) ?_
 try (conv => arg 4; whnf)
 with_reducible refine m_bind ?_
 try (conv => arg 4; whnf)
 rw [hN]
 try (conv => arg 4; whnf)
 rw [hO]
 try (conv => arg 4; whnf)
 rw [hW]
 (refine m_pure ?_); show wpOwn _ _ _ _ _ _ _
 conv => arg 4; whnf
 rename_i L _ mc _ _ _ _
 refine m_pure ?_
 refine m_againE (Code.func (fBody 1) (envX (fName 1) (fScope 1) L 21 (.ref 20) [("mycmp", mc)])) (by kernel_rfl) (by kernel_rfl) ?_
 refine m_point ?_
 refine m_at ?_
 refine m_oldE D h0 (by with_unfolding_all rfl) (by with_unfolding_all rfl) ?_
 try (conv => arg 4; whnf)
 with_reducible refine m_bind ?_
 try (conv => arg 4; whnf)
 with_reducible refine m_onRaise ?_
 try (conv => arg 4; whnf)
 with_reducible refine m_bind ?_
 try (conv => arg 4; whnf)
 with_reducible refine m_bind ?_
 try (conv => arg 4; whnf)
 with_reducible refine m_bind ?_
 try (conv => arg 4; whnf)
 rw [hq1]
 (refine m_pure ?_); show wpOwn _ _ _ _ _ _ _
 (refine m_pure ?_); show wpOwn _ _ _ _ _ _ _
 refine m_at ?_
 refine m_oldE D h3 (by with_unfolding_all rfl) (by with_unfolding_all rfl) ?_
 try (conv => arg 4; whnf)
 with_reducible refine m_bind ?_
 try (conv => arg 4; whnf)
 with_reducible refine m_bind ?_
 try (conv => arg 4; whnf)
 with_reducible refine m_bind ?_
 try (conv => arg 4; whnf)
 with_reducible refine m_bind ?_
 try (conv => arg 4; whnf)
 with_reducible refine m_bind ?_
 try (conv => arg 4; whnf)
 rw [hq2]
 (refine m_pure ?_); show wpOwn _ _ _ _ _ _ _
 refine m_oldE D h0 (by with_unfolding_all rfl) (by with_unfolding_all rfl) ?_
 try (conv => arg 4; whnf)
 with_reducible refine m_bind ?_
 try (conv => arg 4; whnf)
 rw [hq3]
 (refine m_pure ?_); show wpOwn _ _ _ _ _ _ _
 (refine m_pure ?_); show wpOwn _ _ _ _ _ _ _
 (refine m_pure ?_); show wpOwn _ _ _ _ _ _ _
 (refine m_pure ?_); show wpOwn _ _ _ _ _ _ _
 refine m_at ?_
 (refine m_alloc D (by with_unfolding_all rfl) ?_); clear D; intro _ _ D
 refine m_fresh ?_
 refine m_fresh ?_
 conv => arg 4; whnf
 rename_i bT _
 refine m_callE (by kernel_rfl : _ = Code.call (.builtin "type.__getattribute__") ⟨[.type "type", .str (tK [95, 95, 112, 114, 101, 112, 97, 114, 101, 95, 95]) (tk + 1)], []⟩) ?_
 refine getprep ?_
 rintro _ _ ⟨pr, hp2, rfl, rfl, D2⟩
 conv => arg 7; dsimp only
 dsimp only at D2
 have hpm := D2.at 0 _ _ rfl
 have up : ∀ b o, h.get? b = some o → hp2.get? b = some o := fun b o e => mem_all D2 (mem_all D e)
 have hL := mem_all D2 (D.at 2 L _ rfl)
 have hmc := mem_all D2 (D.at 1 mc _ rfl)
 have hbT := mem_all D2 (D.at 0 _ _ rfl)
 have nL : h.get? L = none := (D.nw _ (List.mem_of_getElem? (i := 2) rfl)).2
 have nbT : h.get? bT = none := (D.nw _ (List.mem_of_getElem? (i := 0) rfl)).2
 have nmc : h.get? mc = none := (D.nw _ (List.mem_of_getElem? (i := 1) rfl)).2
 have hLmc : L ≠ mc := fun e => by
  have z := D.ord
  simp only [List.map_cons, List.pairwise_cons] at z
  exact absurd (z.2.1 L (.head _)) (by rw [e]; exact Nat.lt_irrefl mc)
 replace h3 := up _ _ h3
 replace h0 := up _ _ h0
 replace h4 := up _ _ h4
 replace h20 := up _ _ h20
 replace h2 := up _ _ h2
 replace h16 := up _ _ h16
 clear h21
 clear D D2
 have D := Mem.start hp2
 skip
 refine m_callE (by kernel_rfl : _ = Code.call (.ref pr) ⟨[.str (tK [75]) tk, .ref bT], []⟩) ?_
 refine doprep hpm ?_
 rintro _ _ ⟨ns, hp3, rfl, rfl, D3⟩
 conv => arg 7; dsimp only
 dsimp only at D3
 have hns0 := (D3.nw _ (List.mem_of_getElem? (i := 0) rfl)).2
 have hne0 : ¬ ns = 0 := by
  rintro rfl
  rw [h0] at hns0
  cases hns0
 have hne1 : ¬ ns = 1 := by
  rintro rfl
  have z := up _ _ h1
  rw [show sysModules = 1 from rfl, hns0] at z
  cases z
 obtain ⟨n, rfl⟩ := ge2 (a := ns) hne0 hne1
 clear D
 have D := D3
 clear D3
 refine m_new D 0 (by with_unfolding_all rfl) ?_
 refine m_old D (by assumption) (by with_unfolding_all rfl) ?_
 refine m_old D (by assumption) (by with_unfolding_all rfl) ?_
 refine m_fresh ?_
 refine m_fresh ?_
 refine m_fresh ?_
 refine m_fresh ?_
 (refine m_alloc D (by with_unfolding_all rfl) ?_); clear D; intro _ _ D
 (refine m_alloc D (by with_unfolding_all rfl) ?_); clear D; intro _ _ D
 refine m_fresh ?_
 refine m_fresh ?_
 (refine m_alloc D (by with_unfolding_all rfl) ?_); clear D; intro _ _ D
 refine m_old D (by assumption) (by with_unfolding_all rfl) ?_
 try (conv => arg 4; whnf)
 rw [← XFast.xe7104952167334194321]
 conv => arg 4; whnf
 rename_i cc _
 refine m_grow #[rawInt 4, rawInt 4, .ref cc] D (table_at h20 rfl rfl h16 rfl) rfl (by kernel_rfl) ?_
 clear D
 intro _ D
 have h16o := h16
 clear h16
 try rw [← XFast.xe7104952167334194321]
 refine m_chg D 0 (by with_unfolding_all rfl) ?_
 refine m_oldE D h3 (by with_unfolding_all rfl) (by with_unfolding_all rfl) ?_
 try (conv => arg 4; whnf)
 with_reducible refine m_keep ?_
 try (conv => arg 4; whnf)
 with_reducible refine m_keep ?_
 try (conv => arg 4; whnf)
 with_reducible refine m_bind ?_
 try (conv => arg 4; whnf)
 with_reducible refine m_bind ?_
 try (conv => arg 4; whnf)
 rw [hq4]
 (refine m_pure ?_); show wpOwn _ _ _ _ _ _ _
 refine m_old D (by assumption) (by with_unfolding_all rfl) ?_
 (refine m_pure ?_); show wpOwn _ _ _ _ _ _ _
 refine m_oldE D h3 (by with_unfolding_all rfl) (by with_unfolding_all rfl) ?_
 try (conv => arg 4; whnf)
 with_reducible refine m_bind ?_
 try (conv => arg 4; whnf)
 with_reducible refine m_bind ?_
 try (conv => arg 4; whnf)
 rw [hq5]
 (refine m_pure ?_); show wpOwn _ _ _ _ _ _ _
 (refine m_alloc D (by with_unfolding_all rfl) ?_); clear D; intro _ _ D
 (refine m_pure ?_); show wpOwn _ _ _ _ _ _ _
 (refine m_stack (by with_unfolding_all exact Nat.le_of_ble_eq_true rfl) ?_); intro _ _ hN hO hW
 refine m_old D (by assumption) (by with_unfolding_all rfl) ?_
 try (conv => arg 4; whnf)
 with_reducible refine m_keep ?_
 try (conv => arg 4; whnf)
 with_reducible refine m_bind ?_
 try (conv => arg 4; whnf)
 rw [hN]
 try (conv => arg 4; whnf)
 rw [hO]
 try (conv => arg 4; whnf)
 rw [hW]
 (refine m_pure ?_); show wpOwn _ _ _ _ _ _ _
 refine m_new D 4 (by with_unfolding_all rfl) ?_
 refine m_new D 4 (by with_unfolding_all rfl) ?_
 refine m_oldE D h3 (by with_unfolding_all rfl) (by with_unfolding_all rfl) ?_
 try (conv => arg 4; whnf)
 with_reducible refine m_bind ?_
 try (conv => arg 4; whnf)
 with_reducible refine m_onRaise ?_
 try (conv => arg 4; whnf)
 with_reducible refine m_bind ?_
 try (conv => arg 4; whnf)
 with_reducible refine m_bind ?_
 try (conv => arg 4; whnf)
 rw [hq5]
 (refine m_pure ?_); show wpOwn _ _ _ _ _ _ _
 (refine m_pure ?_); show wpOwn _ _ _ _ _ _ _
 refine m_new D 4 (by with_unfolding_all rfl) ?_
 refine m_ask ?_
 refine m_fresh ?_
 refine m_new D 4 (by with_unfolding_all rfl) ?_
 (refine m_update D 4 (by with_unfolding_all rfl) (by with_unfolding_all rfl) ?_); clear D; intro _ D; dsimp only [List.set] at D
 refine m_fresh ?_
 refine m_new D 4 (by with_unfolding_all rfl) ?_
 refine m_ask ?_
 refine m_fresh ?_
 refine m_new D 4 (by with_unfolding_all rfl) ?_
 (refine m_update D 4 (by with_unfolding_all rfl) (by with_unfolding_all rfl) ?_); clear D; intro _ D; dsimp only [List.set] at D
 refine m_fresh ?_
 refine m_new D 4 (by with_unfolding_all rfl) ?_
 refine m_ask ?_
 refine m_fresh ?_
 refine m_new D 4 (by with_unfolding_all rfl) ?_
 (refine m_update D 4 (by with_unfolding_all rfl) (by with_unfolding_all rfl) ?_); clear D; intro _ D; dsimp only [List.set] at D
 (refine m_pure ?_); show wpOwn _ _ _ _ _ _ _
 conv => arg 4; whnf
 rename_i tup _ P _ _ _ fr _ _ _ _ _ hX
 have upX : ∀ b o, b ≠ 16 → hp2.get? b = some o → hX.get? b = some o := fun b o hb e => D.keep b o e (by rw [away_one hb]; exact Bool.or_true _)
 have nP : hp2.get? P = none := (D.nw _ (List.mem_of_getElem? (i := 2) rfl)).2
 have hord := D.ord
 simp only [List.map_cons, List.map_nil, List.pairwise_cons] at hord
 have hcP : cc ≠ P := Nat.ne_of_gt (hord.2.1 P (.head _))
 have hcn : cc ≠ n + 2 := Nat.ne_of_gt (hord.2.1 (n + 2) (.tail _ (.tail _ (.head _))))
 have hnP : n + 2 ≠ P := Nat.ne_of_lt (hord.2.2.1 (n + 2) (.tail _ (.head _)))
 have hot : ∀ b o, hp2.get? b = some o → b ≠ n + 2 ∧ b ≠ P := fun b o e => ⟨fun z => (by rw [z] at e; cases hns0.symm.trans e), fun z => (by rw [z, nP] at e; cases e)⟩
 have hd : hX.get? (n + 2) = some (dicO (kEs (hx w [95, 95, 109, 111, 100, 117, 108, 101, 95, 95]) (hx w [95, 95, 113, 117, 97, 108, 110, 97, 109, 101, 95, 95]) (hx w [95, 95, 102, 105, 114, 115, 116, 108, 105, 110, 101, 110, 111, 95, 95]) (tk + 8) (tk + 10) (tk + 12) (.str mn q1) (.str qnK (tk + 9)) (.int 4 (tk + 11))) 3) := (D.at 4 _ _ rfl).trans (congrArg some (by kernel_rfl))
 have htab : hX.get? P = some (tabObj #[]) := D.at 2 _ _ rfl
 have hC : CodeHd hX cc P := ⟨_, _, _, _, _, _, _, _, _, D.at 1 cc _ rfl, rfl, rfl, rfl, rfl, rfl, rfl, rfl, rfl, hcP⟩
 have h16 : hX.get? 16 = some (tabObj #[rawInt 4, rawInt 4, .ref cc]) := D.atC 0 16 _ rfl
 refine cutG fun P_ hP_ => ?_
 obtain ⟨og, esg, epg, eg, rg⟩ := hmg
 obtain ⟨bm, ob, z1, z2, z3, z4, z5, z6⟩ := hbt
 refine hP_ ?_
 clear hP_ P_
 have hg16 : mainGlobals ≠ 16 := by decide
 refine m_callE (by kernel_rfl : _ = Code.body kBody (kEnv (n + 2) cc fr mc)) ?_
 refine x_call (codeAny_body rfl rfl (kb_body (mg := mg) hd htab ⟨og, esg, epg, upX _ _ hg16 (up _ _ eg), rg⟩ (hot _ _ (up _ _ eg)).1 hC hcn ⟨bm, ob, z1, z2, z3, (hot _ _ (up _ _ z5)).2, upX _ _ z4 (up _ _ z5), z6⟩ (fun bm' z => by cases z1.symm.trans z; exact (hot _ _ (up _ _ z5)).1) ?_)) (by simp [byPass])
 intro qm qs sl f1 f2 f3 f4 f5 f6 c1 c2 c3 c4 c5 c6 u1 u2 u3 u4 u5 u6 d1 d2 d3 d4 d5 d6 t1 t2 t3 t4 t5 t6 e1 e2 e3 e4 e5 e6 e7 e8 j1 j2 j3 j4 j5 j6 j7 j8 ps4 s4 hu1 hu2 K
 refine cutG fun P_ hP_ => ?_
 obtain ⟨h4', tk4, rfl⟩ := K.st
 refine hP_ ?_
 clear hP_ P_
 refine wpAny_pure ?_
 conv => arg 7; dsimp only
 have mfn : ∀ p, p ∈ _ → _ := K.made
 have hkp : ∀ b o, hp2.get? b = some o → b ≠ 16 → h4'.get? b = some o := fun b o e hb => K.keep b o (hot b o e).1 (hot b o e).2 (upX b o hb e)
 have hdic := K.dic
 have g16 : h4'.get? 16 = some (tabObj #[rawInt 4, rawInt 4, .ref cc]) := K.keep _ _ (fun z => by rw [← z] at hns0; cases h16o.symm.trans hns0) (fun z => by rw [← z] at nP; cases h16o.symm.trans nP) h16
 have gL := hkp _ _ hL (fun z => by rw [z] at nL; cases h16r.symm.trans nL)
 have gmc := hkp _ _ hmc (fun z => by rw [z] at nmc; cases h16r.symm.trans nmc)
 have gbT := hkp _ _ hbT (fun z => by rw [z] at nbT; cases h16r.symm.trans nbT)
 have g2 := hkp _ _ h2 (by decide)
 clear D h20 h3 h0 h4
 have D := Mem.start h4'
 refine m_fresh ?_
 (refine m_alloc D (by with_unfolding_all rfl) ?_); clear D; intro _ _ D
 refine m_old D (by assumption) (by with_unfolding_all rfl) ?_
 refine m_ask ?_
 refine m_fresh ?_
 refine m_old D (by assumption) (by with_unfolding_all rfl) ?_
 conv => arg 4; whnf
 rename_i st h5
 have hdic5 := mem_all D hdic
 have up5 : ∀ b o, h4'.get? b = some o → h5.get? b = some o := fun b o e => mem_all D e
 refine m_put (o' := ⟨.type "dict", none, .dict ⟨[⟨hx w [95, 95, 109, 111, 100, 117, 108, 101, 95, 95], .str (tK [95, 95, 109, 111, 100, 117, 108, 101, 95, 95]) (tk + 8), .str kMod qm⟩, ⟨hx w [95, 95, 113, 117, 97, 108, 110, 97, 109, 101, 95, 95], .str (tK [95, 95, 113, 117, 97, 108, 110, 97, 109, 101, 95, 95]) (tk + 10), .str qnK (tk + 9)⟩, ⟨hx w [95, 95, 102, 105, 114, 115, 116, 108, 105, 110, 101, 110, 111, 95, 95], .str (tK [95, 95, 102, 105, 114, 115, 116, 108, 105, 110, 101, 110, 111, 95, 95]) (tk + 12), .int 4 (tk + 11)⟩, ⟨e1, .str (tK [95, 95, 115, 108, 111, 116, 115, 95, 95]) j1, .ref sl⟩, ⟨e2, .str (tK [95, 95, 105, 110, 105, 116, 95, 95]) j2, .ref f1⟩, ⟨e3, .str (tK [95, 95, 108, 116, 95, 95]) j3, .ref f2⟩, ⟨e4, .str (tK [95, 95, 103, 116, 95, 95]) j4, .ref f3⟩, ⟨e5, .str (tK [95, 95, 101, 113, 95, 95]) j5, .ref f4⟩, ⟨e6, .str (tK [95, 95, 108, 101, 95, 95]) j6, .ref f5⟩, ⟨e7, .str (tK [95, 95, 103, 101, 95, 95]) j7, .ref f6⟩, ⟨e8, .str (tK [95, 95, 104, 97, 115, 104, 95, 95]) j8, .none⟩, ⟨hx w [95, 95, 115, 116, 97, 116, 105, 99, 95, 97, 116, 116, 114, 105, 98, 117, 116, 101, 115, 95, 95], .str (tK [95, 95, 115, 116, 97, 116, 105, 99, 95, 97, 116, 116, 114, 105, 98, 117, 116, 101, 115, 95, 95]) (tk4 + 1), .ref st⟩]⟩ 12, #[]⟩) hdic5 (by kernel_rfl) rfl ?_
 intro h6 hs6 hdic6
 have up6 : ∀ b o, b ≠ n + 2 → h4'.get? b = some o → h6.get? b = some o := fun b o hb e => (hs6.2 b hb).trans (up5 b o e)
 have hst6 := (hs6.2 st (fun z => by have q := (D.nw _ (List.mem_of_getElem? (i := 0) rfl)).2; dsimp only at q; rw [z, hdic] at q; cases q)).trans (D.at 0 st _ rfl)
 have hmd := fun p hp => And.intro (up6 _ _ (K.made p hp).2.2.1 (K.made p hp).1) (K.made p hp).2.1
 have hf1 := (hmd (f1, _) (List.mem_of_getElem? (i := 10) rfl)).1
 have hf2 := (hmd (f2, _) (List.mem_of_getElem? (i := 8) rfl)).1
 have hf3 := (hmd (f3, _) (List.mem_of_getElem? (i := 6) rfl)).1
 have hf4 := (hmd (f4, _) (List.mem_of_getElem? (i := 4) rfl)).1
 have hf5 := (hmd (f5, _) (List.mem_of_getElem? (i := 2) rfl)).1
 have hf6 := (hmd (f6, _) (List.mem_of_getElem? (i := 0) rfl)).1
 have hsl6 : h6.get? sl = some (oList qs 0) := (hmd (sl, _) (List.mem_of_getElem? (i := 12) rfl)).1.trans (congrArg some (by kernel_rfl))
 have ng : ∀ b o, hp2.get? b = some o → b ≠ n + 2 := fun b o e => (hot b o e).1
 have gL6 := up6 _ _ (ng _ _ hL) gL
 have gmc6 := up6 _ _ (ng _ _ hmc) gmc
 have gbT6 : h6.get? bT = some ⟨.type "tuple", none, .seq ⟨[.type "object"]⟩ 0, #[]⟩ := (up6 _ _ (ng _ _ hbT) gbT).trans (congrArg some (by kernel_rfl))
 have g26 := up6 _ _ (ng _ _ h2) g2
 have g166 := up6 _ _ (fun z => by rw [← z] at hns0; cases h16o.symm.trans hns0) g16
 have hdc6 : h6.get? (n + 2) = some ⟨.type "dict", none, .dict ⟨[⟨hx w [95, 95, 109, 111, 100, 117, 108, 101, 95, 95], .str (tK [95, 95, 109, 111, 100, 117, 108, 101, 95, 95]) (tk + 8), .str kMod qm⟩, ⟨hx w [95, 95, 113, 117, 97, 108, 110, 97, 109, 101, 95, 95], .str (tK [95, 95, 113, 117, 97, 108, 110, 97, 109, 101, 95, 95]) (tk + 10), .str qnK (tk + 9)⟩, ⟨hx w [95, 95, 102, 105, 114, 115, 116, 108, 105, 110, 101, 110, 111, 95, 95], .str (tK [95, 95, 102, 105, 114, 115, 116, 108, 105, 110, 101, 110, 111, 95, 95]) (tk + 12), .int 4 (tk + 11)⟩, ⟨e1, .str (tK [95, 95, 115, 108, 111, 116, 115, 95, 95]) j1, .ref sl⟩, ⟨e2, .str (tK [95, 95, 105, 110, 105, 116, 95, 95]) j2, .ref f1⟩, ⟨e3, .str (tK [95, 95, 108, 116, 95, 95]) j3, .ref f2⟩, ⟨e4, .str (tK [95, 95, 103, 116, 95, 95]) j4, .ref f3⟩, ⟨e5, .str (tK [95, 95, 101, 113, 95, 95]) j5, .ref f4⟩, ⟨e6, .str (tK [95, 95, 108, 101, 95, 95]) j6, .ref f5⟩, ⟨e7, .str (tK [95, 95, 103, 101, 95, 95]) j7, .ref f6⟩, ⟨e8, .str (tK [95, 95, 104, 97, 115, 104, 95, 95]) j8, .none⟩, ⟨hx w [95, 95, 115, 116, 97, 116, 105, 99, 95, 97, 116, 116, 114, 105, 98, 117, 116, 101, 115, 95, 95], .str (tK [95, 95, 115, 116, 97, 116, 105, 99, 95, 97, 116, 116, 114, 105, 98, 117, 116, 101, 115, 95, 95]) (tk4 + 1), .ref st⟩]⟩ 12, #[]⟩ := hdic6
 clear D
 have D := Mem.start h6
 skip
 refine m_callE (by kernel_rfl : _ = Code.call (.type "type") ⟨[.str (tK [75]) tk, .ref bT, .ref (n + 2)], []⟩) ?_
 refine type_call gbT6 hsl6 hst6 hf1 hf2 hf3 hf4 hf5 hf6 hdc6 hne1 g26 ?_
 intro dd C nd h7 tk7 G
 clear D
 have D := Mem.start h7
 have gL7 := G.1 _ _ gL6
 (refine m_pure ?_); show wpOwn _ _ _ _ _ _ _
 refine m_at ?_
 refine m_point ?_
 refine m_ask ?_
 refine m_fresh ?_
 refine m_old D (by assumption) (by with_unfolding_all rfl) ?_
 refine m_put (o' := ⟨.type "frame", none, .dict ⟨[⟨hx w [75], .str (tK [75]) tk7, .ref C⟩]⟩ 1, #[]⟩) gL7 (by kernel_rfl) rfl ?_
 intro h8 hs8 hL8
 have gLL : h8.get? L = some ⟨.type "frame", none, .dict ⟨[⟨hx w [75], .str (tK [75]) tk7, .ref C⟩]⟩ 1, #[]⟩ := hL8
 clear D
 have D := Mem.start h8
 refine m_point ?_
 (refine m_pure ?_); show wpOwn _ _ _ _ _ _ _
 refine m_at ?_
 refine m_at ?_
 refine m_old D (by assumption) (by with_unfolding_all rfl) ?_
 (refine m_pure ?_); show wpOwn _ _ _ _ _ _ _
 refine m_pure (m_done (hQ C h8 _ ?_))
 have up8 : ∀ b o, b ≠ L → h7.get? b = some o → h8.get? b = some o := fun b o hb e => (hs8.2 b hb).trans e
 have nX : ∀ b, hX.get? b = none → h.get? b = none := fun b e => by
  cases q : h.get? b with
  | none => rfl
  | some o =>
   by_cases z : b = 16
   ·rw [z, h16] at e; cases e
   ·rw [upX b o z (up b o q)] at e; cases e
 have n6 : ∀ b, h6.get? b = none → h.get? b = none := fun b e => by
  cases q : h.get? b with
  | none => rfl
  | some o =>
   by_cases z : b = 16
   ·rw [z, g166] at e; cases e
   ·rw [up6 _ _ (ng _ _ (up b o q)) (hkp b o (up b o q) z)] at e; cases e
 have nL6 : ∀ b, h6.get? b = none → b ≠ L := fun b e z => by rw [z, gL6] at e; cases e
 have nLX : ∀ b, hX.get? b = none → b ≠ L := fun b e z => by rw [z, upX _ _ (fun z => by rw [z] at nL; cases h16r.symm.trans nL) hL] at e; cases e
 have old7 : ∀ b o, h6.get? b = some o → b ≠ L → h8.get? b = some o := fun b o e hb => up8 b o hb (G.1 b o e)
 have gC := G.2 _ (List.mem_of_getElem? (i := 1) rfl)
 have gnd := G.2 _ (List.mem_of_getElem? (i := 2) rfl)
 have gdd := G.2 _ (List.mem_of_getElem? (i := 0) rfl)
 dsimp only at gC gnd gdd
 have m1 := hmd (f1, _) (List.mem_of_getElem? (i := 10) rfl)
 have m2 := hmd (f2, _) (List.mem_of_getElem? (i := 8) rfl)
 have m3 := hmd (c1, _) (List.mem_of_getElem? (i := 11) rfl)
 have m4 := hmd (c2, _) (List.mem_of_getElem? (i := 9) rfl)
 refine mkOut (bT := bT) (sl := sl) (st := st) (f3 := f3) (f4 := f4) (f5 := f5) (f6 := f6) (fun b o hb e => old7 b o (up6 _ _ (ng _ _ (up b o e)) (hkp b o (up b o e) hb)) (fun z => by rw [z, nL] at e; cases e)) (old7 _ _ g166 (fun z => by rw [← z] at nL; cases h16r.symm.trans nL)) ?_ hu1 hu2 (up8 _ _ (nL6 _ gC.2) gC.1) (up8 _ _ (nL6 _ gnd.2) gnd.1) (up8 _ _ (nL6 _ gdd.2) gdd.1) (old7 _ _ gmc6 (Ne.symm hLmc)) (old7 _ _ m1.1 (nLX _ m1.2)) (old7 _ _ m2.1 (nLX _ m2.2)) (old7 _ _ m3.1 (nLX _ m3.2)) (old7 _ _ m4.1 (nLX _ m4.2))
 exact all_cons (n6 _ gC.2) (all_cons (n6 _ gnd.2) (all_cons (n6 _ gdd.2) (all_cons (nX _ m1.2) (all_cons (nX _ m2.2) (all_cons nmc (all_cons (nX _ m3.2) (all_cons (nX _ m4.2) all_nil)))))))
end Mine
end
section
open PySem PySem.W PyProof.Rows
namespace Mine
open PySem.Calls
theorem mem_of_lk {β : Type} {a : Addr} {o : β} : ∀ {l : List (Addr × β)}, l.lookup a = some o → (a, o) ∈ l
 | (b, o') :: r, h => by
  rw [List.lookup_cons] at h
  cases q : a == b with
  | true => rw [q] at h; cases h; rw [eq_of_beq q]; exact .head _
  | false => rw [q] at h; exact .tail _ (mem_of_lk h)
section
variable {l : Frag} {h : Heap} (H : ∀ p ∈ l, h.get? p.1 = some p.2)
include H
theorem frag_in : Frag.In l h := fun a o q => H (a, o) (mem_of_lk q)
theorem frag_lk {a : Addr} {o : Obj} (hm : (a, o) ∈ l) : l.lookup a = some o := by
 cases q : l.lookup a with
 | some o' =>
  exact (H (a, o') (mem_of_lk q)).symm.trans (H _ hm)
 | none =>
  have := List.lookup_eq_none_iff.mp q _ hm
  simp at this
theorem fi_own {C : Addr} {cls : Value} {d : Option Addr} {cd : ClassData} {sl : Array (Option Value)} {c2 : Value} {d2 : Option Addr} {es : Array DictEntry} {n : Nat} {s2 : Array (Option Value)} {name : Str} {rest : List Value} (hC : (C, ⟨cls, d, .cls cd, sl⟩) ∈ l) (hN : (cd.ns, ⟨c2, d2, .dict es n, s2⟩) ∈ l) (hm : cd.mro = .ref C :: rest) :
  findIn l (.ref C) name = match (match es.toList.find? (·.key.isStr name) with | some e => some (some e.val) | none => if es.toList.any (·.refKey) then none else some none) with
   | some (some v) => some (some v) | some none => alongIn l name rest | none => none := by
 obtain ho : ownIn l name (.ref C) = (match es.toList.find? (·.key.isStr name) with | some e => some (some e.val) | none => if es.toList.any (·.refKey) then none else some none) := by
  unfold ownIn
  dsimp only
  rw [frag_lk H hC]
  dsimp only
  unfold nsIn
  rw [frag_lk H hN]
  rfl
 unfold findIn
 dsimp only
 rw [frag_lk H hC]
 dsimp only
 rw [hm]
 show (match ownIn l name (.ref C) with | some (some v) => some (some v) | some none => alongIn l name rest | none => none) = _
 rw [ho]
theorem ti_of {a : Addr} {o : Obj} (hm : (a, o) ∈ l) : typeIn l (.ref a) = some o.cls := by
 unfold typeIn; dsimp only; rw [frag_lk H hm]; rfl
theorem clsK_makes {M : Model} {C nd bT : Addr} {t q2 : Tok} {qn : Str} (hC : (C, clsO C nd bT t qn q2) ∈ l) : Makes M h C := by
 refine makes_of (frag_in H) ?_
 obtain hl := frag_lk H hC
 have ht : typeIn l (.ref C) = some (.type "type") := by unfold typeIn; dsimp only; rw [hl]; rfl
 obtain e1 : specialIn l (.ref C) "__call__" = some (some (.builtin "type.__call__")) := by unfold specialIn; rw [ht]; show findIn l (.type "type") "__call__" = _; kernel_rfl
 obtain e2 : instIn l (.ref C) (.type "type") = some true := by unfold instIn; rw [ht]; show subIn l (.type "type") (.type "type") = _; kernel_rfl
 unfold makesIn
 rw [hl, e1, e2]
 simp
end
theorem frag4 {h : Heap} {a b c d : Addr} {oa ob oc od : Obj} (ha : h.get? a = some oa) (hb : h.get? b = some ob) (hc : h.get? c = some oc) (hd : h.get? d = some od) : ∃ l : Frag, (∀ p ∈ l, h.get? p.1 = some p.2) ∧ (a, oa) ∈ l ∧ (b, ob) ∈ l ∧ (c, oc) ∈ l ∧ (d, od) ∈ l := by
 refine ⟨[(a, oa), (b, ob), (c, oc), (d, od)], ?_, .head _, .tail _ (.head _), .tail _ (.tail _ (.head _)), .tail _ (.tail _ (.tail _ (.head _)))⟩
 simp only [List.forall_mem_cons]
 exact ⟨ha, hb, hc, hd, fun o_ h => nomatch h⟩
noncomputable abbrev kArg0 : Str := "self"
noncomputable abbrev kArg1 : Str := "obj"
noncomputable def InstPost (s : Shared) (C : Addr) (i : Int) (t : Tok) (v : Value) (s' : Shared) : Prop := ∃ x dx h tk, v = .ref x ∧ s' = { s with heap := h, toks := tk } ∧ (∀ b o, s.heap.get? b = some o → h.get? b = some o) ∧ s.heap.get? x = none ∧ h.get? x = some ⟨.ref C, some dx, .plain, #[some (.int i t)]⟩ ∧ h.get? dx = some emptyDict ∧ s.heap.get? dx = none
section
variable {l : Frag} {h : Heap} (H : ∀ p ∈ l, h.get? p.1 = some p.2) {C nd bT dd : Addr} {t q2 t3 : Tok} {qn : Str} (mC : (C, clsO C nd bT t qn q2) ∈ l) (mD : (dd, descO C t3) ∈ l)
include H
include mC in
theorem clsK_in : clsIn l C = some { name := tK [75], bases := [.type "object"], mro := [.ref C, .type "object"], ns := nd, qualname := qn, hasDict := false, slotNames := [tK [111, 98, 106]] } := by unfold clsIn; rw [frag_lk H mC]
include mC in
theorem clsK_plain : plainOver l C = true := by unfold plainOver; rw [clsK_in H mC]; rfl
include mD in
theorem descK_takes : takesIn l (.ref dd) = some true := by
 obtain e : findIn l (.type "member_descriptor") "__set__" = some (some (.builtin "member_descriptor.__set__")) := by kernel_rfl
 unfold takesIn specialIn
 rw [ti_of H mD]
 show (match findIn l (.type "member_descriptor") "__set__" with | some (some _) => some true | some none => Option.map (fun x : Option Value => x.isSome) (findIn l (.type "member_descriptor") "__delete__") | none => none) = _
 rw [e]
include mC mD in
theorem descK_slot : slotIn l dd C = some 0 := by
 unfold slotIn recIn
 rw [frag_lk H mD, clsK_in H mC]
 simp [rawInt]
end
theorem kInit {prog : Program} {w : World} {A : Around} {E : Value → Shared → Prop} {Q : Flow → Shared → Prop} {env : Env} {h h₂ : Heap} {g : Array GenState} {d : Drawn} {tk : Nat} {os : OsState} {m : Str → Option Value} {l : Frag} {C nd bT dd x dx : Addr} {t q2 t3 ti : Tok} {i : Int}
  (H : ∀ p ∈ l, h₂.get? p.1 = some p.2) (mC : (C, clsO C nd bT t qnK q2) ∈ l) (mD : (dd, descO C t3) ∈ l)
  (hs : findIn l (.ref C) "__setattr__" = some (some (.builtin "object.__setattr__"))) (ho : findIn l (.ref C) "obj" = some (some (.ref dd)))
  (hk : env.scope.kind = .function) (l0 : env.kindOf kArg0 = some .local) (l1 : env.kindOf kArg1 = some .local) (F : Fr h env.locals h₂ m) (m0 : m kArg0 = some (.ref x)) (m1 : m kArg1 = some (.int i ti)) (hx : h₂.get? x = some (instObj C dx)) (hdx : h₂.get? dx = some emptyDict) (hxL : x ≠ env.locals) (nx : h.get? x = none) (hdL : dx ≠ env.locals) (nd' : h.get? dx = none)
  (hQ : ∀ h₃ tk', (∀ b o, h.get? b = some o → h₃.get? b = some o) → h₃.get? x = some ⟨.ref C, some dx, .plain, #[some (.int i ti)]⟩ → h₃.get? dx = some emptyDict → Q .next ⟨h₃, g, d, tk', os⟩) :
  wpAny (model prog w) A (execs (kFnB 2) env) Q E ⟨h₂, g, d, tk, os⟩ := by
 have I : W.InstAt h₂ x (instObj C dx) C (some emptyDict) := ⟨hx, rfl, rfl, hdx⟩
 have N : News h env.locals h₂ ([(dx, emptyDict)] ++ (x, instObj C dx) :: []) := fun p hp => by
  rcases List.mem_cons.mp hp with rfl | hp
  ·exact ⟨hdx, hdL, nd'⟩
  ·rw [List.mem_singleton.mp hp]; exact ⟨hx, hxL, nx⟩
 have ht : takerIn l C "obj" = some (some (.ref dd)) := by unfold takerIn; rw [ho]; show Option.map _ (takesIn l (.ref dd)) = _; rw [descK_takes H mD]; rfl
 refine ex_cons (plainObj_wpAny_Assign_Attribute (wpAny_Name (wpAny_loadName_local hk l1 F.ns m1 (wpAny_Name (wpAny_loadName_local hk l0 F.ns m0 ?_) (by decide))) (by decide)))
 refine set_plain (frag_in H) I hs (osa_descr PySem.W.KF.slot_mset (frag_in H) I (clsK_plain H mC) ht (ti_of H mD) (slot_set F N (frag_in H) I (descK_slot H mC mD) (by decide) (all_one fun z => by cases z; cases hx.symm.trans hdx) (fun o_ h => nomatch h) rfl rfl fun h₃ F' N' => ?_))
 exact ex_nil (hQ h₃ _ F'.keep (N' _ (.tail _ (.head _))).1 (N' _ (.head _)).1)
theorem newK {prog : Program} {w : World} {e0 : Env} {E : Value → Shared → Prop} {Q : Value → Shared → Prop} {s : Shared} {C lam : Addr} {pm : Value} {kv : KV} {i : Int} {t : Tok} (K1 : KF s.heap pm lam C kv) (nl : s.heap.NoLimit) (hQ : ∀ v s', InstPost s C i t v s' → Q v s') :
  wpAny (model prog w) (callerA.deeper e0).in1.in1 (call (.ref C) [.int i t]) Q E s := by
 refine cutG fun P_ hP_ => ?_
 obtain ⟨h, g, d, tk, os⟩ := s
 obtain ⟨l, H, m1, m2, m3, m4⟩ := frag4 K1.hC K1.nd K1.dd K1.f1
 refine hP_ ?_
 clear hP_ P_
 obtain hi := (fi_own (name := "__init__") H m1 m2 rfl).trans (by rfl : _ = some (some (Value.ref kv.f1)))
 refine wpAny_call (make_core (clsK_makes H m1) (looks_findIn (frag_in H) hi) (fun self => bind_fn (frag_in H) self (ti_of H m4)) (.inl rfl) ?_)
 have k : ∀ b o, h.get? b = some o → ((h.push emptyDict).push (instObj C h.objs.size)).get? b = some o := fun b o e => Heap.get?_push_of_some _ (Heap.get?_push_of_some _ e)
 have hx : ((h.push emptyDict).push (instObj C h.objs.size)).get? (h.objs.size + 1) = some (instObj C h.objs.size) := by heap_get
 have hdx : ((h.push emptyDict).push (instObj C h.objs.size)).get? h.objs.size = some emptyDict := by heap_get
 obtain nx : h.get? (h.objs.size + 1) = none := Heap.get?_none_of_le (Nat.le_succ _)
 obtain nd : h.get? h.objs.size = none := Heap.get?_none_of_le (Nat.le_refl _)
 have hle : h.objs.size ≤ ((h.push emptyDict).push (instObj C h.objs.size)).objs.size := by simp only [Heap.size_push]; grind
 generalize (h.push emptyDict).push (instObj C h.objs.size) = h₁ at k hx hdx hle ⊢
 generalize h.objs.size + 1 = x at hx nx ⊢
 refine codeAny_call_function (by with_unfolding_all exact Nat.le_of_ble_eq_true rfl) (k _ _ K1.f1) rfl rfl rfl rfl ?_ ?_
 ·refine cutG fun P_ hP_ => ?_
  obtain ⟨k2, v0, t', rest, k4, e⟩ := K1.o1
  refine hP_ ?_
  clear hP_ P_
  exact ⟨kv.c1, _, _, t', rfl, (k _ _ K1.c1).trans (congrArg some e), rfl, rfl⟩
 rw [show bindArgs _ _ = pure [(kArg0, .ref x), (kArg1, .int i t)] from by rfl]
 refine wpAny_pure (wpAny_newFunctionEnv (show ∀ y ∈ (kFnS 2).names, y.2 ≠ .cell from by decide +kernel) (by simp only [List.forall_mem_cons]; exact ⟨rfl, rfl, fun o_ h => (nomatch h)⟩) (fun h₂ hns hsb => ⟨(nl.keeps k).fresh _ hsb, codeAny_func ?_⟩) rfl)
 have k₂ : ∀ b o, h₁.get? b = some o → h₂.get? b = some o := fun b o e => hsb.extBut b o (Nat.ne_of_lt (Heap.lt_size e)) (Heap.get?_push_of_some _ e)
 exact kInit (fun p hp => k₂ _ _ (k _ _ (H p hp))) m1 m3 ((fi_own (name := "__setattr__") H m1 m2 rfl).trans (by kernel_rfl)) ((fi_own (name := "obj") H m1 m2 rfl).trans (by rfl)) rfl rfl rfl ⟨hns, fun b o e => k₂ _ _ (k _ _ e), hle⟩ rfl rfl (k₂ _ _ hx) (k₂ _ _ hdx) (Nat.ne_of_lt (Heap.lt_size hx)) nx (Nat.ne_of_lt (Heap.lt_size hdx)) nd
  fun h₃ tk' k₃ hx₃ hd₃ => ⟨rfl, hQ _ _ ⟨x, h.objs.size, h₃, tk', rfl, rfl, k₃, nx, hx₃, hd₃, nd⟩⟩
theorem get_obj {prog : Program} {w : World} {A : Around} {ex : Bool} {E : Value → Shared → Prop} {Q : Value → Shared → Prop} {s : Shared} {C lam x dx : Addr} {od : Obj} {pm : Value} {kv : KV} {i : Int} {t : Tok} (K1 : KF s.heap pm lam C kv)
  (hx : s.heap.get? x = some ⟨.ref C, some dx, .plain, #[some (.int i t)]⟩) (hdx : s.heap.get? dx = some od) (hQ : ∀ tk, Q (.int i t) { s with toks := tk }) : wpAny (model prog w) A (getAttr (.ref x) "obj" ex) Q E s := by
 refine cutG fun P_ hP_ => ?_
 obtain ⟨l, H, m1, m2, m3, m4⟩ := frag4 K1.hC K1.nd K1.dd K1.f1
 refine hP_ ?_
 clear hP_ P_
 obtain I : W.InstAt s.heap x ⟨.ref C, some dx, .plain, #[some (.int i t)]⟩ C (some od) := ⟨hx, rfl, rfl, hdx⟩
 obtain hf : findObj l C (some od) "obj" = some (.bind (.builtin "member_descriptor.__get__") (.ref kv.dd)) := by
  obtain e1 : specialIn l (.ref kv.dd) "__get__" = some (some (.builtin "member_descriptor.__get__")) := by unfold specialIn; rw [ti_of H m3]; show findIn l (.type "member_descriptor") "__get__" = _; kernel_rfl
  unfold findObj
  rw [clsK_in H m1]
  dsimp only [Option.bind_some]
  rw [(fi_own (name := "obj") H m1 m2 rfl).trans (by rfl : _ = some (some (Value.ref kv.dd)))]
  dsimp only [Option.bind_some]
  rw [e1]
  dsimp only [Option.bind_some]
  rw [descK_takes H m3]
  rfl
 refine get_bind (frag_in H) I ((fi_own (name := "__getattribute__") H m1 m2 rfl).trans (by kernel_rfl)) hf ((fi_own (name := "__getattr__") H m1 m2 rfl).trans (by kernel_rfl)) ?_
 refine wpAny_call (slot_get (s := { s with toks := s.toks + 1 }) (frag_in H) I (descK_slot H m1 m3) rfl ?_)
 show wpAny _ _ (handedOut (.int i t)) _ _ _
 rw [handedOut_of (v := .int i t) rfl]
 exact wpAny_pure (hQ _)
end Mine
end
section
open PySem PySem.W PyProof.Rows PySem.W.X
namespace Mine
open PySem.Calls
section
variable {α : Type} {prog : Program} {w : World} {A : Around} {E : Value → Shared → Prop} {Q : α → Shared → Prop} {s : Shared}
theorem a_load {a : Addr} {q : Option Value} {k : Obj → Sem α} {o : Obj} (ho : s.heap.get? a = some o) (x : wpAny (model prog w) A (k o) Q E s) : wpAny (model prog w) A (.load a q k) Q E s := wpAny_bind (m := loadPart a q) (f := k) (wpAny_loadPart ho x)
theorem a_pure {v : α} (x : Q v s) : wpAny (model prog w) A (.pure v) Q E s := wpAny_pure x
theorem a_ask {k : Setting → Sem α} (x : wpAny (model prog w) A (k ⟨prog, w.params⟩) Q E s) : wpAny (model prog w) A (.ask k) Q E s := fun Γ p h => x Γ p h
theorem a_bind {β : Type} {m : Sem β} {f : β → Sem α} (x : wpAny (model prog w) A m (fun a s' => wpAny (model prog w) A (f a) Q E s') E s) : wpAny (model prog w) A (m.bind f) Q E s := wpAny_bind x
theorem a_keep {m : Sem α} {vs : List Value} (x : wpAny (model prog w) A m Q E s) : wpAny (model prog w) A (m.keep vs) Q E s := wpAny_keep x
theorem a_dec {p : Prop} {d : Decidable p} {f1 : ¬p → Sem α} {f2 : p → Sem α} (h1 : ∀ h, wpAny (model prog w) A (f1 h) Q E s) (h2 : ∀ h, wpAny (model prog w) A (f2 h) Q E s) : wpAny (model prog w) A (@Decidable.rec p (fun o_ => Sem α) f1 f2 d) Q E s := by
 cases d with
 | isFalse h => exact h1 h
 | isTrue h => exact h2 h
theorem a_fresh {k : Tok → Sem α} (x : wpAny (model prog w) A (k s.toks) Q E { s with toks := s.toks + 1 }) : wpAny (model prog w) A (.fresh k) Q E s := fun Γ p h => x Γ p h
end
noncomputable abbrev clsK (C nd bT : Addr) (y14 y15 : Tok) : Obj := ⟨.type "type", none, .cls { name := tK [75], bases := [.type "object"], mro := [.ref C, .type "object"], ns := nd, qualname := qnK, hasDict := false, slotNames := [tK [111, 98, 106]] }, ⟨[some (.ref bT), none, some (.str (tK [75]) y14), some (.str qnK y15), some (.builtin "object.__new__"), some (.bool false)]⟩⟩
set_option maxRecDepth 100000 in
set_option maxHeartbeats 4000000 in
theorem key_lt {prog : Program} {w : World} {A : Around} {E : Value → Shared → Prop} {Q P : Bool → Shared → Prop} {s : Shared} {C nd bT dd sl st f1 f2 f3 f4 f5 f6 x : Addr} {y1 y2 y3 y4 y5 y6 y7 y8 y9 y10 y11 y12 y13 y14 y15 z1 z2 : Tok} {x1 x2 x3 x4 x5 x6 x7 x8 x9 x10 x11 x12 x13 : Int} {dx : Option Addr} {slx slf : Array (Option Value)} {b : Value} {fd : FuncData}
  (hu : A.units < cLine)
  (hC : s.heap.get? C = some (clsK C nd bT y14 y15))
  (hnd : s.heap.get? nd = some ⟨.type "dict", none, .dict ⟨[⟨x1, .str (tK [95, 95, 109, 111, 100, 117, 108, 101, 95, 95]) y1, .str kMod z1⟩, ⟨x2, .str (tK [95, 95, 102, 105, 114, 115, 116, 108, 105, 110, 101, 110, 111, 95, 95]) y2, .int 4 z2⟩, ⟨x3, .str (tK [95, 95, 115, 108, 111, 116, 115, 95, 95]) y3, .ref sl⟩, ⟨x4, .str (tK [95, 95, 105, 110, 105, 116, 95, 95]) y4, .ref f1⟩, ⟨x5, .str (tK [95, 95, 108, 116, 95, 95]) y5, .ref f2⟩, ⟨x6, .str (tK [95, 95, 103, 116, 95, 95]) y6, .ref f3⟩, ⟨x7, .str (tK [95, 95, 101, 113, 95, 95]) y7, .ref f4⟩, ⟨x8, .str (tK [95, 95, 108, 101, 95, 95]) y8, .ref f5⟩, ⟨x9, .str (tK [95, 95, 103, 101, 95, 95]) y9, .ref f6⟩, ⟨x10, .str (tK [95, 95, 104, 97, 115, 104, 95, 95]) y10, .none⟩, ⟨x11, .str (tK [95, 95, 115, 116, 97, 116, 105, 99, 95, 97, 116, 116, 114, 105, 98, 117, 116, 101, 115, 95, 95]) y11, .ref st⟩, ⟨x12, .str (tK [111, 98, 106]) y12, .ref dd⟩, ⟨x13, .str (tK [95, 95, 100, 111, 99, 95, 95]) y13, .none⟩]⟩ 3, #[]⟩)
  (hf2 : s.heap.get? f2 = some ⟨.type "function", none, .func fd, slf⟩)
  (hx : s.heap.get? x = some ⟨.ref C, dx, .plain, slx⟩)
  (h : ∀ R : Result → Shared → Prop, (∀ bb s', P bb s' → R (.ok (.ret (.bool bb))) s') → codeAny (model prog w) (A.mark none) (.call (.ref f2) ⟨[.ref x, b], []⟩) R s) (hQ : ∀ bb s', P bb s' → Q bb s') :
  wpAny (model prog w) A (keyLt' oneType' (.ref x) b) Q E s := by
 rw [keyLt'_oneType, oneLt'_eq]
 dsimp only [if_true]
 refine wpAny_bind (wpAny_cRoomFor hu ?_)
 repeat ((try (conv => arg 3; whnf)); (first
 | (with_reducible refine a_bind ?_)
 | ((with_reducible refine a_pure ?_); show wpAny _ _ _ _ _ _)
 | (with_reducible refine a_rule ?_)
 | (with_reducible refine a_point ?_)
 | (with_reducible refine a_ask ?_)
 | (with_reducible refine a_load (by assumption) ?_)
 | (with_reducible refine a_keep ?_)
 | (with_reducible refine a_try ?_)))
 refine a_dec (fun o_ => ?_) (fun o_ => ?_)
 ·conv => arg 3; whnf
  repeat ((try (conv => arg 3; whnf)); (first
  | (with_reducible refine a_bind ?_)
  | ((with_reducible refine a_pure ?_); show wpAny _ _ _ _ _ _)
  | (with_reducible refine a_rule ?_)
  | (with_reducible refine a_point ?_)
  | (with_reducible refine a_ask ?_)
  | (with_reducible refine a_load (by assumption) ?_)
  | (with_reducible refine a_keep ?_)
  | (with_reducible refine a_try ?_)))
  conv => arg 3; whnf
  refine x_call (c := .call (.ref f2) ⟨[.ref x, b], []⟩) (h _ fun bb s' hp => ?_) (by simp [byPass])
  repeat ((try (conv => arg 3; whnf)); (first
  | (with_reducible refine a_bind ?_)
  | ((with_reducible refine a_pure ?_); show wpAny _ _ _ _ _ _)
  | (with_reducible refine a_rule ?_)
  | (with_reducible refine a_point ?_)
  | (with_reducible refine a_ask ?_)
  | (with_reducible refine a_load (by assumption) ?_)
  | (with_reducible refine a_keep ?_)
  | (with_reducible refine a_try ?_)))
  exact wpAny_truthy_bool (hQ bb s' hp)
 ·conv => arg 3; whnf
  repeat ((try (conv => arg 3; whnf)); (first
  | (with_reducible refine a_bind ?_)
  | ((with_reducible refine a_pure ?_); show wpAny _ _ _ _ _ _)
  | (with_reducible refine a_rule ?_)
  | (with_reducible refine a_point ?_)
  | (with_reducible refine a_ask ?_)
  | (with_reducible refine a_load (by assumption) ?_)
  | (with_reducible refine a_keep ?_)
  | (with_reducible refine a_try ?_)))
  conv => arg 3; whnf
  refine x_call (c := .call (.ref f2) ⟨[.ref x, b], []⟩) (h _ fun bb s' hp => ?_) (by simp [byPass])
  repeat ((try (conv => arg 3; whnf)); (first
  | (with_reducible refine a_bind ?_)
  | ((with_reducible refine a_pure ?_); show wpAny _ _ _ _ _ _)
  | (with_reducible refine a_rule ?_)
  | (with_reducible refine a_point ?_)
  | (with_reducible refine a_ask ?_)
  | (with_reducible refine a_load (by assumption) ?_)
  | (with_reducible refine a_keep ?_)
  | (with_reducible refine a_try ?_)))
  exact wpAny_truthy_bool (hQ bb s' hp)
end Mine
end
section
open PySem PySem.W PyProof.Rows PySem.W.X
namespace Mine
open PySem.Calls
theorem Gl.up {hb hb' : Heap} (G : Gl hb) (k : ∀ b o, hb.get? b = some o → hb'.get? b = some o) : Gl hb' := by
 refine cutG fun P_ hP_ => ?_
 obtain ⟨⟨mg, mb, N, h1, h2⟩, fn⟩ := G
 refine hP_ ?_
 clear hP_ P_
 refine ⟨⟨mg, mb, ⟨N.g.keeps k, N.b.keeps k, N.nolimit.keeps k⟩, h1, h2⟩, fun i f hm => ?_⟩
 refine cutG fun P_ hP_ => ?_
 obtain ⟨⟨fo, name, doc, pm, an, ct, e1, e2⟩, cd, nl⟩ := fn i f hm
 refine hP_ ?_
 clear hP_ P_
 exact ⟨⟨fo, name, doc, pm, an, ct, k _ _ e1, e2⟩, cd.keeps k, nl.keeps k⟩
theorem three_spec {c : Cx} {k : Nat} (hr : Room c.A (k + 1)) {hb₀ : Heap} (G : Gl hb₀) {i j : Int} (hh : c.hb = hb₀ := by rfl) : CallP c (.ref 71) [.int i, .int j] (.int (b2i (decide (j < i)) - b2i (decide (i < j)))) := by
 subst hh
 refine callP_fn (G.fn 11 71 (List.mem_of_getElem? (i := 4) rfl)) (bd := [("x", .int i), ("y", .int j)]) hr ?_ ?_ (by exact (by decide : (["x", "y"] : List Str).Nodup)) (fun n => by rfl) (by exact List.nodup_nil) rfl rfl rfl
 ·rintro s vs o ⟨v, _, rfl, h1, u, _, rfl, h2, rfl⟩
  exact ⟨[("x", v), ("y", u)], fun o_ o_ o_ o_ o_ => BindsTo.of_eq rfl, rfl, ⟨v, _, rfl, h1, u, _, rfl, h2, rfl⟩⟩
 ·intro L s s₁ o S
  refine ex_cons ?_
  refine ex_return S (ev_subb (ev_cmp (ev_var rfl) (ev_var rfl) cmp_gt) (ev_cmp (ev_var rfl) (ev_var rfl) cmp_lt)) ?_
  intro s' v S' r
  exact ⟨v, rfl, S'.kp, r.sub fun a ha => List.mem_append_right _ ha⟩
set_option tactic.hygienic true in
theorem lam18_call {c : Cx} {k : Nat} {hb₀ : Heap} {lam c' cc : Addr} {q : Str} {pm ctv v : Value} {cnt : List Nat} (hr : Room c.A (k + 2)) (G : Gl hb₀) (nl : hb₀.NoLimit) (hlam : hb₀.get? lam = some (kla_obj "<lambda>" q (lamP 18) (lamB 18) (lamS 18) [("counts", cc)] pm c' ctv)) (hcd : hb₀.CodeRec (.ref c') q)
  (hcc : hb₀.IsCell cc (some v)) (hcnt : ∀ s, Ok c s → Rep c.X s.heap (dIs cnt) v) {a b : Nat} (ha : a < cnt.length) (hb : b < cnt.length) (hl : cnt.length ≤ 1000) (hh : c.hb = hb₀ := by rfl) :
  CallP c (.ref lam) [dI a, dI b] (.int (b2i (decide (((cnt.getD b 0 : Nat) : Int) < ((cnt.getD a 0 : Nat) : Int))) - b2i (decide (((cnt.getD a 0 : Nat) : Int) < ((cnt.getD b 0 : Nat) : Int))))) := fun s E vs o hv => by
 subst hh
 obtain ⟨u1, _, rfl, h1, u2, _, rfl, h2, rfl⟩ := hv
 refine call_lam (k := k + 1) (bd := [("one", dI a), ("other", dI b)]) (cap := [("counts", dIs cnt)]) (binds := [("one", u1), ("other", u2)]) hr nl (o.base _ _ hlam) (hcd.keeps o.base) o rfl rfl ⟨u1, _, rfl, h1, u2, _, rfl, h2, rfl⟩
  (fun L => ?_) (by exact (by decide : (["one", "other"] : List Str).Nodup)) (by simp only [List.forall_mem_cons]; exact ⟨rfl, rfl, fun o_ h => (nomatch h)⟩) (fun x d hx => ?_) (fun x hx => ?_) (by decide) rfl rfl rfl
 ·obtain hr' : Room (c.A.deeper (envX q (lamS 18) L lam (.ref c') [("counts", cc)])) (k + 1) := hr.deeper _
  refine ev_call (ds := [.int ((cnt.getD a 0 : Nat) : Int), .int ((cnt.getD b 0 : Nat) : Int)]) (ev_gl G (a := 71) rfl) (evs_cons ?_ (evs_cons ?_ evs_nil)) (FnAt.kpr (G.fn 11 71 (List.mem_of_getElem? (i := 4) rfl))) (three_spec (k := k) hr' G)
  ·exact ev_item (ev_var rfl) .val (ev_var rfl) (Int.natCast_nonneg _) (by grind) (by rw [Int.toNat_natCast]; exact getD_dI ha)
  ·exact ev_item (ev_var rfl) .val (ev_var rfl) (Int.natCast_nonneg _) (by grind) (by rw [Int.toNat_natCast]; exact getD_dI hb)
 ·obtain ⟨rfl, rfl⟩ : x = "counts" ∧ d = dIs cnt := by
   rw [List.lookup_cons] at hx
   split at hx
   ·rename_i e
    exact ⟨eq_of_beq e, by cases hx; rfl⟩
   ·cases hx
  refine ⟨cc, v, rfl, rfl, ?_, hcnt s o⟩
  obtain ⟨ob, e, h⟩ := hcc
  exact ⟨ob, o.base _ _ e, h⟩
 ·rw [List.mem_singleton.mp hx]
  obtain ⟨ob, e, _⟩ := hcc
  exact ⟨ob, o.base _ _ e⟩
noncomputable def ClsAt (h : Heap) (pm : Value) (lam C : Addr) : Prop := ∃ v : KV, KF h pm lam C v
theorem KF.up {h h' : Heap} {pm : Value} {lam C : Addr} {v : KV} (x : KF h pm lam C v) (k : ∀ a ∈ [C, v.nd, v.dd, v.f1, v.f2, v.mc, v.c1, v.c2], ∀ o, h.get? a = some o → h'.get? a = some o) : KF h' pm lam C v :=
 ⟨x.o1, x.o2, k _ (.head _) _ x.hC, k _ (.tail _ (.head _)) _ x.nd, k _ (.tail _ (.tail _ (.head _))) _ x.dd, k _ (List.mem_of_getElem? (i := 5) rfl) _ x.mc, k _ (List.mem_of_getElem? (i := 3) rfl) _ x.f1, k _ (List.mem_of_getElem? (i := 4) rfl) _ x.f2, k _ (List.mem_of_getElem? (i := 6) rfl) _ x.c1, k _ (List.mem_of_getElem? (i := 7) rfl) _ x.c2⟩
theorem ClsAt.up {h h' : Heap} {pm : Value} {lam C : Addr} (x : ClsAt h pm lam C) (k : ∀ b o, h.get? b = some o → h'.get? b = some o) : ClsAt h' pm lam C :=
 let ⟨v, x⟩ := x; ⟨v, x.up fun a o_ o => k a o⟩
end Mine
end
section
open PySem PySem.W PyProof.Rows PySem.W.X
namespace Mine
open PySem.Calls
noncomputable def InstI (fr : List Addr) (h : Heap) (C x : Addr) (i : Int) : Prop := ∃ dx t o, h.get? x = some ⟨.ref C, some dx, .plain, #[some (.int i t)]⟩ ∧ h.get? dx = some o ∧ o.cls = .type "dict" ∧ dx ∉ fr
theorem ev_attr {c : Cx} {fr : List Addr} {e0 e1 : Env} {pm : Value} {lam C x : Addr} {i : Int} {n : Str} {np pos : Pos} (hA : c.A = (callerA.deeper e0).in1.in1.deeper e1) (K : ClsAt c.hb pm lam C) (I : InstI fr c.hb C x i) (he : Ev c (.Name n np) (.val (.ref x))) : Ev c (.Attribute (.Name n np) "obj" pos) (.int i) := fun s E o => by
 refine cutG fun P_ hP_ => ?_
 obtain ⟨kv, K1⟩ := K
 obtain ⟨dx, t, od, hx, hd, hd2, hd3⟩ := I
 refine hP_ ?_
 clear hP_ P_
 refine Attribute_name (wpAny_mono (he s E o) (fun v s₁ h₁ => ?_) fun o_ o_ e => e)
 obtain ⟨k₁, rfl⟩ := h₁
 have o₁ := o.kp k₁
 exact get_obj (K1.up fun a o_ => o₁.base a) (o₁.base _ _ hx) (o₁.base _ _ hd) fun tk => ⟨k₁.toks tk, t, rfl⟩
section
variable {c : Cx} {s : Shared} {f : Addr} {qual : Str} {scope : Scope} {cl : List (Str × Addr)} {bd cap : List (Str × D)} {binds : List (Str × Value)} {k : Nat}
theorem call_ret {c' : Addr} {q name : Str} {params : Arguments} {e : Expr} {rp : Pos} {doc pm ctv : Value} {vs : List Value} {d : D} {R : Result → Shared → Prop} (hr : Room c.A (k + 1)) (nl : c.hb.NoLimit) (ho : s.heap.get? f = some (fnMade name q params [.Return (some e) rp] scope cl doc pm c' ctv)) (hcd : s.heap.CodeRec (.ref c') q) (o : Ok c s)
  (hbind : bindArgs (fnX name q params [.Return (some e) rp] scope cl .none .none doc pm none (.ref c') ctv) ⟨vs, []⟩ = pure binds) (hnames : bd.map (·.1) = binds.map (·.1)) (hrep : RepAll c.X s.heap (bd.map (·.2)) (binds.map (·.2)))
  (h : ∀ L, Ev (cloCx c (envX q scope L f (.ref c') cl) (bd ++ cap)) e d)
  (hnd : (bd.map (·.1)).Nodup) (hloc : ∀ y ∈ bd, scope.names.lookup y.1 = some .local)
  (hcap : ∀ x d, cap.lookup x = some d → ∃ a v, cl.lookup x = some a ∧ scope.names.lookup x = some .free ∧ s.heap.IsCell a (some v) ∧ Rep c.X s.heap d v)
  (hcl : ∀ a ∈ cl.map (·.2), ∃ ob, s.heap.get? a = some ob)
  (hcell : ∀ x ∈ scope.names, x.2 ≠ .cell) (hk : scope.kind = .function) (hco : scope.isCoroutine = false) (hgen : scope.isGenerator = false)
  (hR : ∀ v s', Kp c.hb [] s s' → Rep c.X s'.heap d v → R (.ok (.ret v)) s') : codeAny (model c.prog c.w) c.A (.call (.ref f) ⟨vs, []⟩) R s := by
 refine codeAny_call_function hr.depth ho rfl hco hgen rfl hcd ?_
 rw [hbind]
 obtain hloc' : ∀ y ∈ binds, scope.names.lookup y.1 = some .local := fun y hy => by
  obtain hm : y.1 ∈ bd.map (·.1) := by rw [hnames]; exact List.mem_map.mpr ⟨y, hy, rfl⟩
  obtain ⟨z, hz, e⟩ := List.mem_map.mp hm
  rw [← e]; exact hloc z hz
 refine wpAny_pure (wpAny_newFunctionEnv hcell hloc' (fun h₁ hns hsb => ⟨(nl.keeps o.base).fresh _ hsb, ?_⟩) hk)
 obtain ⟨o1, k1⟩ := ok_enter (tk := s.toks + binds.length) (qual := q) (f := f) (cdv := .ref c') o hns hsb hnames hrep hnd hloc hcap hcl hk
 show codeAny _ _ (.func [.Return (some e) rp] (envX q scope s.heap.objs.size f (.ref c') cl)) _ _
 refine codeAny_func ?_
 refine ex_cons (wpAny_Return_some (wpAny_mono (h s.heap.objs.size _ (fun o_ o_ => False) o1) (fun v s' hv => ?_) fun o_ o_ e => e.elim))
 exact hR v s' (k1.trans hv.1) (hv.2.sub fun a ha => .tail _ ha)
end
noncomputable def kRetE : Expr := match kFnB 3 with | [.Return (some e) _] => e | _ => .Constant .none 0 ⟨0, 0, 0, 0⟩
noncomputable def kRetP : Pos := match kFnB 3 with | [.Return _ p] => p | _ => ⟨0, 0, 0, 0⟩
theorem CodeO.rec {h : Heap} {a : Addr} {q : Str} {o : Obj} (c : CodeO q o) (e : h.get? a = some o) : h.CodeRec (.ref a) q := by
 refine cutG fun P_ hP_ => ?_
 obtain ⟨k2, v0, t, rest, k4, rfl⟩ := c
 refine hP_ ?_
 clear hP_ P_
 exact ⟨a, _, _, t, rfl, e, rfl, rfl⟩
set_option maxRecDepth 10000 in
set_option tactic.hygienic true in
theorem lt_call {c : Cx} {fr : List Addr} {e0 : Env} {k : Nat} {pm : Value} {lam C x y : Addr} {i j r : Int} {olam : Obj} {fdl : FuncData} (hr : Room c.A (k + 1)) (nl : c.hb.NoLimit) (hA : c.A = (callerA.deeper e0).in1.in1) (K : ClsAt c.hb pm lam C) (Ix : InstI fr c.hb C x i) (Iy : InstI fr c.hb C y j)
  (hlam : c.hb.get? lam = some olam) (hfd : olam.data = .func fdl)
  (hl : ∀ (L f : Addr) (cdv : Value) (cl : List (Str × Addr)) (q : Str), CallP (cloCx c (envX q (kFnS 3) L f cdv cl) [("self", .val (.ref x)), ("other", .val (.ref y)), ("mycmp", .val (.ref lam))]) (.ref lam) [.int i, .int j] (.int r))
  {s : Shared} {E : Value → Shared → Prop} (o : Ok c s) : wpAny (model c.prog c.w) c.A (keyLt' oneType' (.ref x) (.ref y)) (fun b s' => Kp c.hb [] s s' ∧ b = decide (r < 0)) E s := by
 have K0 := K
 obtain ⟨kv, K1⟩ := K
 obtain ⟨dx, tx, od, hx, hdx, hd2, hd3⟩ := id Ix
 obtain hm : c.A.mark none = c.A := by rw [hA]; rfl
 refine key_lt (P := fun b s' => Kp c.hb [] s s' ∧ b = decide (r < 0)) (by have := hr.units; omega) (o.base _ _ K1.hC) (o.base _ _ K1.nd) (o.base _ _ K1.f2) (o.base _ _ hx) (fun R hR => ?_) fun bb s' h => h
 rw [hm]
 obtain e8 : s.heap.get? kv.f2 = some (fnMade (kName 3) ("cmp_to_key.<locals>.K." ++ kName 3) (kArgs 3) [.Return (some kRetE) kRetP] (kFnS 3) [("mycmp", kv.mc)] kv.d2 pm kv.c2 kv.t2) := o.base _ _ K1.f2
 refine call_ret (c := c) (k := k) (bd := [("self", .val (.ref x)), ("other", .val (.ref y))]) (cap := [("mycmp", .val (.ref lam))]) (binds := [("self", .ref x), ("other", .ref y)]) (d := .bool (decide (r < 0))) hr nl e8 (K1.o2.rec (o.base _ _ K1.c2)) o rfl rfl ⟨_, _, rfl, rfl, _, _, rfl, rfl, rfl⟩
  (fun L => ?_) (by exact (by decide : (["self", "other"] : List Str).Nodup)) (by simp only [List.forall_mem_cons]; exact ⟨rfl, rfl, fun o_ h => (nomatch h)⟩) (fun n d hn => ?_) (fun a ha => ?_) (by decide +kernel) rfl rfl rfl (fun v s' hk hv => ?_)
 ·refine ev_cmp (ev_call (f := .ref lam) (ds := [.int i, .int j]) (ev_var rfl) (evs_cons (ev_attr (e0 := e0) (by show c.A.deeper _ = _; rw [hA]) K0 Ix (ev_var rfl)) (evs_cons (ev_attr (e0 := e0) (by show c.A.deeper _ = _; rw [hA]) K0 Iy (ev_var rfl)) evs_nil)) (kpr_fn hlam hfd) (hl L kv.f2 (.ref kv.c2) [("mycmp", kv.mc)] _)) ev_int cmp_lt
 ·obtain ⟨rfl, rfl⟩ : n = "mycmp" ∧ d = .val (.ref lam) := by
   rw [List.lookup_cons] at hn
   split at hn
   ·rename_i e
    exact ⟨eq_of_beq e, by cases hn; rfl⟩
   ·cases hn
  exact ⟨kv.mc, .ref lam, rfl, rfl, ⟨_, o.base _ _ K1.mc, rfl⟩, rfl⟩
 ·rw [List.mem_singleton.mp ha]
  exact ⟨_, o.base _ _ K1.mc⟩
 ·cases hv
  exact hR _ _ ⟨hk, rfl⟩
end Mine
end
section
open PySem PySem.W PyProof.Rows PySem.W.X
namespace Mine
open PySem.Calls
noncomputable def memB (a : Nat) : List Nat → Bool
 | [] => false
 | b :: r => Nat.beq a b || memB a r
noncomputable def ndB : List Nat → Bool
 | [] => true
 | a :: r => !(memB a r) && ndB r
noncomputable def leR (cs : List Nat) : Nat → Nat → Nat → Bool
 | 0, a, b => Nat.beq a b
 | f + 1, a, b => Nat.blt b 8 && memB (a * 8 + b) cs || cs.any fun x => Nat.beq (x / 8) a && leR cs f (x % 8) b
noncomputable def adjs (cs : List Nat) (n : Nat) : List Nat → Bool
 | a :: b :: r => leR cs n a b && adjs cs n (b :: r)
 | _ => true
noncomputable def chk (n : Nat) : KasT (Array Nat) → List Nat → Bool
 | .ret p, cs => Nat.beq p.toList.length n && ndB p.toList && p.toList.all (fun i => Nat.blt i n) && adjs cs n p.toList
 | .ask i j k, cs => (Nat.blt i n && Nat.blt j n) && (Nat.blt i 8 && Nat.blt j 8) && match memB (j * 8 + i) cs with
  | true => chk n (k false) cs
  | false => chk n (k true) ((i * 8 + j) :: cs) && chk n (k false) ((j * 8 + i) :: cs)
set_option maxRecDepth 100000 in
theorem chk3 : chk 3 (kas_sort 3) [] = true := by decide +kernel
set_option maxRecDepth 100000 in
theorem chk4 : chk 4 (kas_sort 4) [] = true := by decide +kernel
set_option maxRecDepth 100000 in
theorem chk5 : chk 5 (kas_sort 5) [] = true := by decide +kernel
noncomputable def kid (b : Bool) : KasT (Array Nat) → KasT (Array Nat)
 | .ask _ _ k => k b
 | t => t
noncomputable def kidC (b : Bool) : KasT (Array Nat) → List Nat → List Nat
 | .ask i j _, cs => (bif b then i * 8 + j else j * 8 + i) :: cs
 | _, cs => cs
noncomputable def forks : KasT (Array Nat) → List Nat → Nat → Bool
 | .ask i j _, cs, n => (Nat.blt i n && Nat.blt j n) && (Nat.blt i 8 && Nat.blt j 8) && !(memB (j * 8 + i) cs)
 | _, _, _ => false
theorem chk_fork {n : Nat} {t : KasT (Array Nat)} {cs : List Nat} (h : forks t cs n = true) (h1 : chk n (kid true t) (kidC true t cs) = true) (h2 : chk n (kid false t) (kidC false t cs) = true) : chk n t cs = true := by
 cases t with
 | ret p => exact nomatch h
 | ask i j k =>
  obtain ⟨h, h3⟩ := Bool.and_eq_true_iff.mp h
  show (_ && match memB (j * 8 + i) cs with | true => _ | false => _) = true
  rw [h, (Bool.not_eq_true' _).mp h3]
  exact Bool.and_eq_true_iff.mpr ⟨rfl, Bool.and_eq_true_iff.mpr ⟨h1, h2⟩⟩
set_option maxRecDepth 100000 in
theorem chk6 : chk 6 (kas_sort 6) [] = true := by
 refine chk_fork (by decide +kernel) (chk_fork (by decide +kernel) (chk_fork (by decide +kernel) ?_ ?_) (chk_fork (by decide +kernel) ?_ ?_)) (chk_fork (by decide +kernel) (chk_fork (by decide +kernel) ?_ ?_) (chk_fork (by decide +kernel) ?_ ?_))
 all_goals decide +kernel
end Mine
end
section
open PySem PySem.W PyProof.Rows PySem.W.X
namespace Mine
open PySem.Calls
section
variable {c : Nat → Int}
noncomputable def Told (c : Nat → Int) (cs : List Nat) : Prop := ∀ x ∈ cs, c (x / 8) ≤ c (x % 8)
theorem eight {a b : Nat} (h : b < 8) : (a * 8 + b) / 8 = a ∧ (a * 8 + b) % 8 = b := by grind
theorem memB_mem {a : Nat} : ∀ {l : List Nat}, memB a l = true → a ∈ l
 | b :: r, h => by
  rcases or_b h with h | h
  ·rw [Nat.eq_of_beq_eq_true h]; exact .head _
  ·exact .tail _ (memB_mem h)
theorem told_at {cs : List Nat} (h : Told c cs) {a b : Nat} (hb : b < 8) (e : memB (a * 8 + b) cs = true) : c a ≤ c b := by
 obtain z := h _ (memB_mem e)
 rwa [(eight hb).1, (eight hb).2] at z
theorem told_put {cs : List Nat} (h : Told c cs) {a b : Nat} (hb : b < 8) (e : c a ≤ c b) : Told c ((a * 8 + b) :: cs) :=
 all_cons (by rw [(eight hb).1, (eight hb).2]; exact e) h
theorem leR_sound {cs : List Nat} (h : Told c cs) : ∀ {f a b : Nat}, leR cs f a b = true → c a ≤ c b
 | 0, a, b, e => by
  rw [Nat.eq_of_beq_eq_true e]; exact Int.le_refl _
 | f + 1, a, b, e => by
  rcases or_b e with e | e
  ·exact told_at h (Nat.le_of_ble_eq_true (and_b e).1) (and_b e).2
  ·obtain ⟨x, hm, e⟩ := List.any_eq_true.mp e
   rw [← Nat.eq_of_beq_eq_true (and_b e).1]
   exact Int.le_trans (h x hm) (leR_sound h (and_b e).2)
theorem adjs_sound {cs : List Nat} (h : Told c cs) {n : Nat} : ∀ {l : List Nat}, adjs cs n l = true → l.Pairwise fun a b => c a ≤ c b
 | [], _ => .nil
 | [a], _ => .cons (fun a h => no_nil h) .nil
 | a :: b :: r, e => by
  obtain ih := adjs_sound h (and_b e).2
  obtain h1 := leR_sound h (and_b e).1
  exact List.pairwise_cons.mpr ⟨all_cons h1 fun x hx => Int.le_trans h1 ((List.pairwise_cons.mp ih).1 x hx), ih⟩
theorem mem_memB {a : Nat} : ∀ {l : List Nat}, a ∈ l → memB a l = true
 | b :: r, h => by
  rcases List.mem_cons.mp h with h | h
  ·show (Nat.beq a b || memB a r) = true
   rw [h, Nat.beq_refl]; rfl
  ·show (Nat.beq a b || memB a r) = true
   rw [mem_memB h, Bool.or_true]
theorem ndB_sound : ∀ {l : List Nat}, ndB l = true → l.Nodup
 | [], _ => .nil
 | a :: r, h => by
  replace h := and_b h
  refine List.nodup_cons.mpr ⟨fun hm => ?_, ndB_sound h.2⟩
  rw [mem_memB hm] at h
  cases h.1
noncomputable def Ord (c : Nat → Int) (n : Nat) (p : List Nat) : Prop := p.length = n ∧ p.Nodup ∧ (∀ i ∈ p, i < n) ∧ p.Pairwise fun a b => c a ≤ c b
theorem chk_sound {n : Nat} {cmp : Nat → Nat → (Bool → Shared → Prop) → Shared → Prop} {I : Shared → Prop} {G : Array Nat → Shared → Prop}
  (hcmp : ∀ i j s (D : Bool → Shared → Prop), i < n → j < n → I s → (∀ s', I s' → D (decide (c i < c j)) s') → cmp i j D s) (hG : ∀ p s, Ord c n p.toList → I s → G p s) :
  ∀ (t : KasT (Array Nat)) (cs : List Nat) (s : Shared), chk n t cs = true → Told c cs → I s → t.kasWp cmp G s
 | .ret p, cs, s, h, ht, hs => by
  obtain ⟨h, h4⟩ := and_b h
  obtain ⟨h, h3⟩ := and_b h
  obtain ⟨h1, h2⟩ := and_b h
  exact hG p s ⟨Nat.eq_of_beq_eq_true h1, ndB_sound h2, fun i hi => Nat.le_of_ble_eq_true (List.all_eq_true.mp h3 i hi), adjs_sound ht h4⟩ hs
 | .ask i j k, cs, s, h, ht, hs => by
  obtain ⟨h0, h⟩ := and_b h
  obtain ⟨h1, h2⟩ := and_b h0
  obtain h3 := Nat.le_of_ble_eq_true (and_b h2).1
  obtain h4 := Nat.le_of_ble_eq_true (and_b h2).2
  refine hcmp i j s _ (Nat.le_of_ble_eq_true (and_b h1).1) (Nat.le_of_ble_eq_true (and_b h1).2) hs fun s' hs' => ?_
  cases e : memB (j * 8 + i) cs with
  | true =>
   rw [e] at h
   rw [decide_eq_false (Int.not_lt.mpr (told_at ht h3 e))]
   exact chk_sound hcmp hG (k false) cs s' h ht hs'
  | false =>
   rw [e] at h
   by_cases q : c i < c j
   ·rw [decide_eq_true q]
    exact chk_sound hcmp hG (k true) _ s' (and_b h).1 (told_put ht h4 (Int.le_of_lt q)) hs'
   ·rw [decide_eq_false q]
    exact chk_sound hcmp hG (k false) _ s' (and_b h).2 (told_put ht h3 (Int.not_lt.mp q)) hs'
theorem chk_all {n : Nat} (h3 : 3 ≤ n) (h6 : n ≤ 6) : chk n (kas_sort n) [] = true := by
 obtain rfl | rfl | rfl | rfl : n = 3 ∨ n = 4 ∨ n = 5 ∨ n = 6 := by grind
 ·exact chk3
 ·exact chk4
 ·exact chk5
 ·exact chk6
end
end Mine
end
section
open PySem PySem.W PyProof.Rows PySem.W.X
namespace Mine
open PySem.Calls
theorem InstI.kp {fr : List Addr} {hb : Heap} {O : List Addr} {s s' : Shared} {C x : Addr} {i : Int} (I : InstI fr s.heap C x i) (k : Kp hb O s s') (hO : ∀ b ∈ O, ∃ vs n, s.heap.get? b = some (listO vs n)) : InstI fr s'.heap C x i := by
 refine cutG fun P_ hP_ => ?_
 obtain ⟨dx, t, o, e, ed, ec, hf⟩ := I
 obtain ⟨o', ed', _, ec'⟩ := k.data ed fun hm => by
  obtain ⟨vs, n, e'⟩ := hO dx hm
  obtain rfl := Option.some.inj (ed.symm.trans e'); exact absurd ec (show ¬ Value.type "list" = .type "dict" by decide)
 refine hP_ ?_
 clear hP_ P_
 refine ⟨dx, t, o', k.get e (fun es n h => by cases h) fun hm => ?_, ed', ec'.trans ec, hf⟩
 obtain ⟨vs, n, e'⟩ := hO x hm
 cases e.symm.trans e'
section
variable {fr : List Addr} {prog : Program} {w : World} {A : Around} {E : Value → Shared → Prop} {hb : Heap} {s₀ s : Shared} {a kS C : Addr} {e1 : Nat} {vs keys : List Value} {kf c : Nat → Int} {P : Fin → Shared → Prop}
structure Srt (hb : Heap) (s₀ : Shared) (a kS : Addr) (e1 : Nat) (keys : List Value) (s : Shared) : Prop where
 kp : Kp hb [] s₀ s
 la : s.heap.get? a = some (listO [] e1)
 lk : ∃ e, s.heap.get? kS = some (listO keys e)
 na : s₀.heap.get? a = none
 nk : s₀.heap.get? kS = none
 ne : kS ≠ a
theorem Srt.step {s' : Shared} (X : Srt hb s₀ a kS e1 keys s) (k : Kp hb [] s s') : Srt hb s₀ a kS e1 keys s' := by
 obtain ⟨e, he⟩ := X.lk
 exact ⟨X.kp.trans k, k.get X.la notFrame_list (fun h => (nomatch h)), ⟨e, k.get he notFrame_list (fun h => (nomatch h))⟩, X.na, X.nk, X.ne⟩
noncomputable def Insts (fr : List Addr) (C : Addr) (kf : Nat → Int) (xs : List Addr) (s : Shared) : Prop := ∀ i x, xs[i]? = some x → InstI fr s.heap C x (kf i)
theorem Insts.kp {O : List Addr} {s' : Shared} {xs : List Addr} (I : Insts fr C kf xs s) (k : Kp hb O s s') (hO : ∀ b ∈ O, ∃ vs n, s.heap.get? b = some (listO vs n)) : Insts fr C kf xs s' := fun i x h => (I i x h).kp k hO
theorem tail_K {st : SortSt} {out : List Value} (X : Srt hb s₀ a kS e1 keys s) (hks : keys.length ≤ 60) (ho : ((arrOf st).map (·.2)).toList = out) (hos : out.length ≤ 60) (hf : failedOf st = none)
  (h : ∀ s' n, Kp hb [] s₀ s' → s'.heap.get? a = some (listO out n) → P (.done (.ret .none)) s') : wpAny (model prog w) A (ksk_tail a false e1 (.ref kS) st) P E s := by
 refine cutG fun P_ hP_ => ?_
 obtain ⟨e, he⟩ := X.lk
 obtain ha := X.la
 obtain ⟨k1, n1, h1⟩ := updSeq_kp (hb := hb) (g := fun o_ => (#[] : Array Value)) he s.toks
 refine hP_ ?_
 clear hP_ P_
 have a1 := k1.get ha notFrame_list (fun h => X.ne (List.mem_singleton.mp h).symm)
 unfold ksk_tail
 dsimp only
 refine wpAny_bind (listUpdate_at he rfl ?_ (by rw [List.size_toArray, sizeLine_eq]; grind) (Nat.zero_le _))
 refine wpAny_bind (wpAny_letGo ?_)
 generalize ({ heap := s.heap.update kS (Obj.mapSeq fun o_ => (#[] : Array Value)), gens := s.gens, drawn := s.drawn, toks := s.toks, os := s.os } : Shared) = s1 at k1 a1 h1 ⊢
 refine wpAny_bind (seqEpoch_at a1 rfl ?_)
 obtain ⟨k2, n2, h2⟩ := updSeq_kp (hb := hb) (g := fun o_ => (arrOf st).map (·.2)) a1 s1.toks
 refine wpAny_bind (listUpdate_at a1 rfl ?_ (Nat.zero_le _) (by
  show ((arrOf st).map (·.2)).size ≤ _
  obtain this : ((arrOf st).map (·.2)).size = out.length := by rw [← ho, Array.length_toList]
  rw [this, sizeLine_eq]; grind))
 rw [hf]
 simp only [bne_self_eq_false, Bool.false_eq_true, if_false]
 refine wpAny_pure (h _ n2 ((X.kp.join k1 fun b hb' => ?_).join k2 fun b hb' => ?_) (by rw [← ho]; exact h2))
 ·rw [List.mem_singleton.mp hb']; exact .inr X.nk
 ·rw [List.mem_singleton.mp hb']; exact .inr X.na
theorem end_K {xs : List Addr} (X : Srt hb s₀ a kS e1 (xs.map .ref) s) (hlen : xs.length = vs.length) (h3 : 3 ≤ vs.length) (h6 : vs.length ≤ 6) (I : Insts fr C kf xs s)
  (cmp : ∀ i j x y s', i < vs.length → j < vs.length → Kp hb [] s₀ s' → InstI fr s'.heap C x (kf i) → InstI fr s'.heap C y (kf j) → wpAny (model prog w) A (keyLt' oneType' (.ref x) (.ref y)) (fun b s'' => Kp hb [] s' s'' ∧ b = decide (c i < c j)) (fun o_ o_ => False) s')
  (h : ∀ p s' n, Ord c vs.length p → Kp hb [] s₀ s' → s'.heap.get? a = some (listO (p.map fun i => vs.getD i .none) n) → P (.done (.ret .none)) s') :
  wpAny (model prog w) A (ksk_end a false vs.toArray e1 (.ref kS) (xs.map Value.ref).toArray) P E s := by
 have hn2 : ¬ vs.toArray.size < 2 := by rw [List.size_toArray]; grind
 obtain hz : ((xs.map Value.ref).toArray.zip vs.toArray).size = vs.length := by simp [hlen]
 unfold ksk_end
 dsimp only
 rw [if_neg Bool.false_ne_true]
 rw [if_neg hn2, if_neg hn2]
 refine wpAny_bind (kas_kind (T := .ref C) (by rw [List.length_map]; grind) (fun v hv => ?_) rfl (by simp) ?_)
 ·refine cutG fun P_ hP_ => ?_
  obtain ⟨x, hx, rfl⟩ := List.mem_map.mp hv
  obtain ⟨i, hi⟩ := List.mem_iff_getElem?.mp hx
  obtain ⟨dx, t, o₁, e, _⟩ := I i x hi
  refine hP_ ?_
  clear hP_ P_
  exact fun A Q E s' k q => wpAny_typeOf_ref (k _ _ e) q
 obtain est : SortSt.mk' oneType' ((xs.map Value.ref).toArray.zip vs.toArray) #[] 7 none = kas_st oneType' ((xs.map Value.ref).toArray.zip vs.toArray) (List.toArray (List.range vs.length)) := by
  obtain e := kas_range ((xs.map Value.ref).toArray.zip vs.toArray)
  rw [hz] at e
  show _ = SortSt.mk' oneType' ((List.toArray (List.range vs.length)).map (kas_item _)) #[] 7 none
  rw [e]
 have item : ∀ i, i < vs.length → ∃ x, xs[i]? = some x ∧ kas_item ((xs.map Value.ref).toArray.zip vs.toArray) i = (.ref x, vs.getD i .none) := fun i hi => by
  obtain hi' : i < xs.length := by grind
  refine ⟨xs[i], List.getElem?_eq_getElem hi', ?_⟩
  unfold kas_item
  simp [Array.getD, hi]
  rw [dif_pos (by grind)]
 obtain ask : (kas_sort vs.length).kasWp (kas_cmp prog w A oneType' ((xs.map Value.ref).toArray.zip vs.toArray)) (fun p s' => Ord c vs.length p.toList ∧ Srt hb s₀ a kS e1 (xs.map .ref) s') s := by
  refine chk_sound (c := c) (I := fun s' => Srt hb s₀ a kS e1 (xs.map .ref) s' ∧ Insts fr C kf xs s') (fun i j s' D hi hj hs hD => ?_) (fun p s' ho hs => ⟨ho, hs.1⟩) _ [] s (chk_all h3 h6) (fun o_ h => (nomatch h)) ⟨X, I⟩
  refine cutG fun P_ hP_ => ?_
  obtain ⟨x, hx, ex⟩ := item i hi
  obtain ⟨y, hy, ey⟩ := item j hj
  refine hP_ ?_
  clear hP_ P_
  unfold kas_cmp
  rw [ex, ey]
  refine wpAny_mono (cmp i j x y s' hi hj hs.1.kp (hs.2 i x hx) (hs.2 j y hy)) (fun b s'' hb' => ?_) fun o_ o_ e => e
  obtain ⟨k, rfl⟩ := hb'
  exact hD s'' ⟨hs.1.step k, hs.2.kp k fun o_ h => (nomatch h)⟩
 have run := kas_runs (E := E) (Q := fun o_ st' s' => ∃ p : Array Nat, arrOf st' = p.map (kas_item ((xs.map Value.ref).toArray.zip vs.toArray)) ∧ failedOf st' = none ∧ Ord c vs.length p.toList ∧ Srt hb s₀ a kS e1 (xs.map .ref) s')
  (by grind : 2 ≤ vs.length) (by grind) (fun p' st' s' a1 a2 a3 a4 => ⟨p', a2, a3, a4⟩) ask
 rw [← est] at run
 refine wpAny_bind (wpAny_mono run ?_ fun o_ o_ e => e)
 rintro ⟨⟨⟩, st'⟩ s' ⟨p, har, hf, ho, X'⟩
 dsimp only
 refine tail_K (out := p.toList.map fun i => vs.getD i .none) X' (by rw [List.length_map]; grind) ?_ (by rw [List.length_map, ho.1]; grind) hf fun s'' n k hg => h p.toList s'' n ho k hg
 rw [har, Array.map_map, Array.toList_map]
 refine List.map_congr_left fun i hi => ?_
 obtain ⟨x, _, e⟩ := item i (ho.2.2.1 i hi)
 show (kas_item _ i).2 = _
 rw [e]
theorem rest_K {f : Value} (X : Srt hb s₀ a kS e1 [] s) (h3 : 3 ≤ vs.length) (h6 : vs.length ≤ 6)
  (turn : ∀ i v s', vs[i]? = some v → Kp hb [] s₀ s' → wpAny (model prog w) A (call f [v]) (fun r s'' => Kp hb [] s' s'' ∧ ∃ x, r = .ref x ∧ InstI fr s''.heap C x (kf i)) (fun o_ o_ => False) s')
  (cmp : ∀ i j x y s', i < vs.length → j < vs.length → Kp hb [] s₀ s' → InstI fr s'.heap C x (kf i) → InstI fr s'.heap C y (kf j) → wpAny (model prog w) A (keyLt' oneType' (.ref x) (.ref y)) (fun b s'' => Kp hb [] s' s'' ∧ b = decide (c i < c j)) (fun o_ o_ => False) s')
  (h : ∀ p s' n, Ord c vs.length p → Kp hb [] s₀ s' → s'.heap.get? a = some (listO (p.map fun i => vs.getD i .none) n) → P (.done (.ret .none)) s') :
  wpAny (model prog w) A (ksk_rest a f false vs.toArray e1 (.ref kS)) P E s := by
 unfold ksk_rest
 refine wpAny_bind (wpAny_rule ?_)
 rw [List.forIn_toArray]
 refine wpAny_bind (ksk_fold (fun i s' => ∃ xs : List Addr, xs.length = i ∧ Srt hb s₀ a kS e1 (xs.map .ref) s' ∧ Insts fr C kf xs s') vs 0 s ⟨[], rfl, X, fun i x h => by simp at h⟩ ?_ ?_)
 ·rintro j v s' hv ⟨xs, hl, X', I'⟩
  simp only [Nat.zero_add] at hl ⊢
  refine wpAny_bind (wpAny_attempt (wpAny_mono (turn j v s' hv X'.kp) (fun r s'' hr => ?_) fun o_ o_ hF => hF.elim))
  refine cutG fun P_ hP_ => ?_
  obtain ⟨k, x, rfl, hx⟩ := hr
  have X2 := X'.step k
  obtain ⟨e, he⟩ := X2.lk
  obtain ⟨k2, n2, h2⟩ := updSeq_kp (hb := hb) (g := (·.push (Value.ref x))) he s''.toks
  refine hP_ ?_
  clear hP_ P_
  have hj : j < vs.length := (List.getElem?_eq_some_iff.mp hv).1
  dsimp only
  refine wpAny_bind (listUpdate_at he rfl ?_ (by rw [List.size_toArray, List.length_map, sizeLine_eq]; grind) (by rw [Array.size_push, List.size_toArray, List.length_map, sizeLine_eq]; grind))
  refine wpAny_pure ⟨rfl, xs ++ [x], by rw [List.length_append, hl]; rfl, ⟨X2.kp.join k2 fun b hb' => by rw [List.mem_singleton.mp hb']; exact .inr X2.nk, k2.get X2.la notFrame_list (fun h => X2.ne (List.mem_singleton.mp h).symm), ⟨n2, ?_⟩, X2.na, X2.nk, X2.ne⟩, ?_⟩
  ·have e2 : ((List.map Value.ref xs).toArray.push (Value.ref x)).toList = List.map Value.ref (xs ++ [x]) := by simp
   rw [← e2]; exact h2
  ·have kO : ∀ b ∈ [kS], ∃ vs n, s''.heap.get? b = some (listO vs n) := fun b hb' => by rw [List.mem_singleton.mp hb']; exact ⟨_, _, he⟩
   intro i y hy
   rw [List.getElem?_append] at hy
   split at hy
   ·exact ((I' i y hy).kp k fun o_ h => (nomatch h)).kp k2 kO
   ·have hi : i = j := by
     have := (List.getElem?_eq_some_iff.mp hy).1
     simp at this; grind
    subst hi
    rw [hl, Nat.sub_self] at hy
    cases hy
    exact hx.kp k2 kO
 ·rintro s' ⟨xs, hl, X', I'⟩
  rw [Nat.zero_add] at hl
  obtain ⟨e, he⟩ := X'.lk
  refine wpAny_bind (listItems_at he rfl ?_)
  exact end_K X' hl h3 h6 I' cmp h
theorem sorted_K {f : Addr} {l : Addr} {n : Nat} {Q : Value → Shared → Prop} (hl : s.heap.get? l = some (listO vs n)) (h3 : 3 ≤ vs.length) (h6 : vs.length ≤ 6)
  (turn : ∀ i v s', vs[i]? = some v → Kp hb [] s s' → wpAny (model prog w) A.in1.in1 (call (.ref f) [v]) (fun r s'' => Kp hb [] s' s'' ∧ ∃ x, r = .ref x ∧ InstI fr s''.heap C x (kf i)) (fun o_ o_ => False) s')
  (cmp : ∀ i j x y s', i < vs.length → j < vs.length → Kp hb [] s s' → InstI fr s'.heap C x (kf i) → InstI fr s'.heap C y (kf j) → wpAny (model prog w) A.in1.in1 (keyLt' oneType' (.ref x) (.ref y)) (fun b s'' => Kp hb [] s' s'' ∧ b = decide (c i < c j)) (fun o_ o_ => False) s')
  (h : ∀ D p s' n, Ord c vs.length p → Kp hb [] s s' → s.heap.get? D = none → s'.heap.get? D = some (listO (p.map fun i => vs.getD i .none) n) → Q (.ref D) s') :
  wpAny (model prog w) A (call (.builtin "sorted") [.ref l] [(Str.ofString "key", .ref f)]) Q E s := by
 refine call_function_entry_kw kind_sorted plain_sorted entry_sorted (ksk_s1 (.ref l) (.ref f)) ?_
 unfold Builtin.«sorted»
 refine wpAny_bind (m := checkCount "sorted" 1 1 _) (wpAny_pure ?_)
 refine wpAny_bind (collect_list ⟨_, hl, rfl, n, rfl⟩ ?_ (by rw [sizeLine_eq]; grind))
 refine wpAny_bind (wpAny_newList ?_ (by rw [sizeLine_eq]; grind))
 have hsz : ((s.heap.push (seqObj "list" #[] 0)).update s.heap.objs.size (Obj.mapSeq (· ++ vs.toArray))).objs.size = s.heap.objs.size + 1 := by
  rw [Heap.size_update, size_push']
 have keep : ∀ b o, s.heap.get? b = some o → (((s.heap.push (seqObj "list" #[] 0)).update s.heap.objs.size (Obj.mapSeq (· ++ vs.toArray))).push (seqObj "list" vs.toArray 0)).get? b = some o := fun b o q => by
  obtain hlt : b < s.heap.objs.size := Heap.lt_size q
  rw [Heap.get?_push_ne _ _ _ (by rw [hsz]; exact Nat.ne_of_lt (Nat.lt_succ_of_lt hlt)), Heap.get?_update_ne _ _ _ _ (Nat.ne_of_lt hlt), Heap.get?_push_ne _ _ _ (Nat.ne_of_lt hlt)]
  exact q
 have ho : (((s.heap.push (seqObj "list" #[] 0)).update s.heap.objs.size (Obj.mapSeq (· ++ vs.toArray))).push (seqObj "list" vs.toArray 0)).get? (s.heap.objs.size + 1) = some (listO vs 0) := by
  rw [← hsz]; exact Heap.get?_push_size _ rfl
 have k1 : Kp hb [] s { s with heap := ((s.heap.push (seqObj "list" #[] 0)).update s.heap.objs.size (Obj.mapSeq (· ++ vs.toArray))).push (seqObj "list" vs.toArray 0) } := ⟨_, s.toks, rfl, fun b o e o_ => .inl (keep b o e)⟩
 obtain na : s.heap.get? (s.heap.objs.size + 1) = none := Heap.get?_none_of_le (Nat.le_succ _)
 rw [hsz]
 show wpAny _ _ _ _ _ { s with heap := ((s.heap.push (seqObj "list" #[] 0)).update s.heap.objs.size (Obj.mapSeq (· ++ vs.toArray))).push (seqObj "list" vs.toArray 0) }
 generalize hs1 : ({ s with heap := ((s.heap.push (seqObj "list" #[] 0)).update s.heap.objs.size (Obj.mapSeq (· ++ vs.toArray))).push (seqObj "list" vs.toArray 0) } : Shared) = s1 at k1 ⊢
 have ho1 : s1.heap.get? (s.heap.objs.size + 1) = some (listO vs 0) := by rw [← hs1]; exact ho
 clear hs1 ho keep hsz
 generalize s.heap.objs.size + 1 = a at ho1 na ⊢
 refine wpAny_bind (wpAny_holding (wpAny_call_entry_kw slot_list_sort ⟨_, ho1, rfl⟩ entry_list_sort ?_ (ksk_l1 _ _)))
 show wpAny (model prog w) A.in1.in1 (Builtin.«list.sort» ⟨[.ref a], [(Str.ofString "key", .ref f)]⟩) _ _ _
 rw [ksk_t1]
 unfold ksk_tree
 obtain ⟨k2, n2, h2⟩ := updSeq_kp (hb := hb) (g := fun o_ => (#[] : Array Value)) ho1 s1.toks
 have k02 : Kp hb [] s _ := k1.join k2 fun b hb' => by rw [List.mem_singleton.mp hb']; exact .inr na
 refine wpAny_bind (listItems_at ho1 rfl ?_)
 refine wpAny_bind (listUpdate_at ho1 rfl ?_ (by rw [List.size_toArray, sizeLine_eq]; grind) (Nat.zero_le _))
 generalize hs2 : ({ heap := s1.heap.update a (Obj.mapSeq fun o_ => (#[] : Array Value)), gens := s1.gens, drawn := s1.drawn, toks := s1.toks, os := s1.os } : Shared) = s2 at k02 ⊢
 have h2 : s2.heap.get? a = some (listO [] n2) := by rw [← hs2]; exact h2
 clear hs2
 refine wpAny_bind (seqEpoch_at h2 rfl ?_)
 refine wpAny_bind (wpAny_newTuple ?_ (by show vs.length ≤ _; rw [sizeLine_eq]; grind))
 refine wpAny_bind (wpAny_newList ?_ (Nat.zero_le _))
 refine wpAny_holding ?_
 obtain k23 : Kp hb [] s2 { s2 with heap := (s2.heap.push (seqObj "tuple" vs.toArray 0)).push (seqObj "list" #[] 0) } := ⟨_, s2.toks, rfl, fun b o e o_ => .inl (Heap.get?_push_of_some _ (Heap.get?_push_of_some _ e))⟩
 obtain a2lt := Heap.lt_size h2
 refine rest_K (s₀ := s) (s := { s2 with heap := (s2.heap.push (seqObj "tuple" vs.toArray 0)).push (seqObj "list" #[] 0) }) (kS := (s2.heap.push (seqObj "tuple" vs.toArray 0)).objs.size) ⟨k02.trans k23, Heap.get?_push_of_some _ (Heap.get?_push_of_some _ h2), ⟨0, Heap.get?_push_size _ rfl⟩, na, ?_, ?_⟩ h3 h6 turn cmp fun p s' n' ho hk hg => ⟨_, rfl, wpAny_pure ⟨_, rfl, h a p s' n' ho hk na hg⟩⟩
 ·exact none_since k02 (fun h => (nomatch h)) (Heap.get?_none_of_le (by rw [size_push']; exact Nat.le_succ _))
 ·rw [size_push']; exact Nat.ne_of_gt (Nat.lt_succ_of_lt a2lt)
end
end Mine
end
section
open PySem PySem.W PyProof.Rows
namespace Mine
open PySem.Calls
theorem named_new {c : Cx} {k : Nat} (hr : Room c.A (k + 1)) {hb₀ : Heap} (G : Gl hb₀) {row : List Nat} (hrow : ∀ t ∈ row, t < 6) (hlen : row.length ≤ 1000) (hh : c.hb = hb₀ := by rfl) {s : Shared} {E : Value → Shared → Prop} {vs : List Value} (o : Ok c s) (hv : RepAll c.X s.heap [dIs row] vs) :
  wpAny (model c.prog c.w) c.A (call (.ref 100) vs) (fun v s' => Kp c.hb [] s s' ∧ ∃ a ys n, v = .ref a ∧ s.heap.get? a = none ∧ s'.heap.get? a = some (listO ys n) ∧ RepAll (a :: c.X) s'.heap (row.map dN) ys) E s := by
 subst hh
 refine cutG fun P_ hP_ => ?_
 obtain ⟨v, _, rfl, h1, rfl⟩ := hv
 refine hP_ ?_
 clear hP_ P_
 refine wpAny_call (enter_fn (G.fn 17 100 (by simp)) (bd := [("row", dIs row)]) (ow := []) (binds := [("row", v)]) o hr (fun o_ o_ o_ o_ o_ => BindsTo.of_eq rfl) rfl ⟨v, _, rfl, h1, rfl⟩ (by simp) (fun n => by rfl) (fun o_ h => (nomatch h)) List.nodup_nil ⟨fun o_ h => (nomatch h), fun o_ h => (nomatch h), fun o_ h => (nomatch h), fun o_ h => (nomatch h)⟩ (fun L s₁ o_ S => ?_) (by exact List.nodup_nil) rfl rfl rfl)
 obtain hr' := hr.deeper (fnEnv (fName 17) (fScope 17) L 100 (.ref 99))
 refine ex_cons ?_
 refine wpAny_Return_some (wpAny_mono (Evn.weak (d' := row.map dN) (evn_comp (c := fnCx c (fnEnv (fName 17) (fScope 17) L 100 (.ref 99)) [("row", dIs row)] []) (xs := row.map dI) (f := fun d => match d with | .int i => dN i.toNat | _ => .none) (p := fun o_ => true) (src_list (k := k) hr' (ev_var rfl)) rfl (fun o_ h => (nomatch h)) (fun o_ o_ o_ o_ o_ => tests_nil) ?_ (by simp; unfold sizeLine; grind)) ?_ s₁ (fun o_ o_ => False) S.ok) (fun u s' h => ?_) fun o_ o_ e => e.elim)
 ·intro d C Dd I hd _
  refine cutG fun P_ hP_ => ?_
  obtain ⟨t, ht, rfl⟩ := List.mem_map.mp hd
  refine hP_ ?_
  clear hP_ P_
  obtain h6 := hrow t ht
  refine ev_item (ds := nmL.map .str) (k := (t : Int)) (ev_list (evs_cons ev_str (evs_cons ev_str (evs_cons ev_str (evs_cons ev_str (evs_cons ev_str (evs_cons ev_str evs_nil)))))) (by decide)) .val (ev_var rfl) (by grind) (by grind) ?_
  simp only [Int.toNat_natCast, dI]
  obtain this : t = 0 ∨ t = 1 ∨ t = 2 ∨ t = 3 ∨ t = 4 ∨ t = 5 := by grind
  rcases this with rfl | rfl | rfl | rfl | rfl | rfl <;> rfl
 ·rw [List.filter_eq_self.mpr (by simp), List.map_map]
  exact List.map_congr_left fun t o_ => by simp [dI]
 ·refine cutG fun P_ hP_ => ?_
  obtain ⟨kk, a, ys, n, rfl, h0, hg, hy⟩ := h
  refine hP_ ?_
  clear hP_ P_
  obtain k1 : Kp c.hb [] s s₁ := S.kp
  exact ⟨k1.trans kk, a, ys, n, rfl, none_since k1 (fun h => (nomatch h)) h0, hg, hy.sub fun b hb => by
   rcases List.mem_cons.mp hb with z | z
   ·rw [z]; exact .head _
   ·exact .tail _ (List.mem_append_right _ z)⟩
end Mine
end
section
open PySem PySem.W PyProof.Rows
namespace Mine
open PySem.Calls
section
variable {c : Cx}
theorem runs_TA {T : Heap → Value → List Addr → Prop} (hT : Tree T) {α : Type} {g f : α → D} {l : List α} {p : α → Bool} {elt iter : Expr} {x : Str} {px : Pos} {ifs : List Expr} {scope : Scope} {pos : Pos} (hg : ∀ x y, g x = g y → x = y)
  (b : blockOk scope c.env x = true) (hown : ∀ q ∈ c.own, q.1 ∈ c.X)
  (tests : ∀ y C Dd I, y ∈ l → TestsOk (inCx c scope x (g y) C Dd I) ifs (p y))
  (elts : ∀ y C Dd I, y ∈ l → p y = true → EvoT T (inCx c scope x (g y) C Dd I) [] c.own elt (f y)) (hsz : l.length ≤ 100000) : CompRuns T c [] (fun o_ => c.own) elt iter x px ifs scope pos (l.map g) ((l.filter p).map f) := by
 rw [← back_all hg]
 obtain h0 : outs (backP g p) (fun o_ d => backF g f d) 0 (l.map g) = ((l.map g).filter (backP g p)).map (backF g f) := outs_const _ _ _ _
 rw [← h0]
 refine @comp_block c T hT [] (fun o_ => c.own) elt iter x px ifs scope pos (l.map g) (fun o_ d => backF g f d) (backP g p) off_nil b (fun o_ => hown) (fun i d C Dd I hd => ?_) (fun i d C Dd I hd hp => ?_) (fun o_ o_ o_ o_ => rfl) (by rw [List.length_map]; unfold sizeLine; grind)
 ·obtain ⟨y, hy, rfl⟩ := List.mem_map.mp (List.mem_of_getElem? hd)
  rw [backP_of hg]; exact tests y C Dd I hy
 ·obtain ⟨y, hy, rfl⟩ := List.mem_map.mp (List.mem_of_getElem? hd)
  rw [backP_of hg] at hp
  rw [backF_of hg]; exact elts y C Dd I hy hp
theorem evoT_comp {T : Heap → Value → List Addr → Prop} (hT : Tree T) {Ob : List Addr} {elt iter : Expr} {x : Str} {px : Pos} {ifs : List Expr} {scope : Scope} {pos : Pos} {xs out : List D}
  (hsrc : Src c Ob iter xs) (hown : ∀ q ∈ c.own, q.1 ∈ c.X) (N : NamesOk scope c.env) (R : CompRuns T c [] (fun o_ => c.own) elt iter x px ifs scope pos xs out)
  (hs : ∀ v, foldedSetIterable iter c.env v = pure v := by intro _; rfl) : EvoT (TL T) c [] c.own (.ListComp elt [⟨.Name x px, iter, ifs, 0⟩] scope pos) (.list out) := fun s E o => by
 refine wpAny_mono (evo_compR hT (O := []) (own := fun o_ => c.own) rfl hsrc (fun a h => (List.not_mem_nil h).elim) (fun o_ => hown) N R hs s E o) (fun v s' h => ?_) fun o_ o_ e => e
 refine cutG fun P_ hP_ => ?_
 obtain ⟨k, ⟨a, ys, n, rfl, h0, hg, hy, Ns, ht, hnd, hN⟩, ok⟩ := h
 refine hP_ ?_
 clear hP_ P_
 refine ⟨k, rep_of_new o.xin h0 hg hy, ok, a :: Ns.flatten, ⟨a, ys, n, Ns, rfl, hg, ht, rfl⟩, List.nodup_cons.mpr ⟨fun hm => (hN a hm).2 (.head _), hnd⟩, fun b hb => ?_⟩
 rcases List.mem_cons.mp hb with z | z
 ·rw [z]; exact h0
 ·exact (hN b z).1
theorem trees_noT {h : Heap} : ∀ vs : List Value, Trees noT h vs (vs.map fun o_ => [])
 | [] => trivial
 | _ :: vs => ⟨rfl, trees_noT vs⟩
theorem evoT_named {k : Nat} (hr : Room c.A (k + 1)) {hb₀ : Heap} (G : Gl hb₀) {row : List Nat} (hrow : ∀ t ∈ row, t < 6) (hlen : row.length ≤ 1000) {x : Str} {p pos : Pos} {e : Expr} (hf : Ev c (.Name x p) (.val (.ref 100))) (ha : Ev c e (dIs row)) (hh : c.hb = hb₀ := by rfl)
  (he : starEach [e] c.env = [(false, eval e c.env)] := by rfl) : EvoT (TL noT) c [] c.own (.Call (.Name x p) [e] [] pos) (dNs row) := fun s E o => by
 subst hh
 refine Call_Name rfl (wpAny_mono (hf s E o) (fun f' s₁ h₁ => ?_) fun o_ o_ e => e)
 obtain ⟨k₁, rfl⟩ := h₁
 refine callWith_data (o.kp k₁) (FnAt.kpr (G.fn 17 100 (by simp))) (evs_cons ha evs_nil he) (fun s₂ vs k₂ r => wpAny_mono (named_new hr G hrow hlen rfl ((o.kp k₁).kp k₂) r) (fun v s₃ h₃ => ?_) fun o_ o_ e => e) he (by rw [he]; rfl)
 refine cutG fun P_ hP_ => ?_
 obtain ⟨k₃, a, ys, n, rfl, h0, hg, hy⟩ := h₃
 refine hP_ ?_
 clear hP_ P_
 have kk : Kp c.hb [] s s₃ := (k₁.trans k₂).trans k₃
 have h0' : s.heap.get? a = none := none_since (k₁.trans k₂) (fun h => (nomatch h)) h0
 refine ⟨kk, rep_of_new o.xin h0' hg hy, o.kp kk, [a], ⟨a, ys, n, ys.map fun o_ => [], rfl, hg, trees_noT ys, by simp⟩, by simp, fun b hb => ?_⟩
 rw [List.mem_singleton.mp hb]; exact h0'
end
end Mine
end
section
open PySem PySem.W PyProof.Rows
namespace Mine
open PySem.Calls
noncomputable def txtOf : Value → Str
 | .str x _ => x
 | _ => ""
noncomputable def strsAt (h : Heap) (a : Addr) : List Str := match h.get? a with
 | some o => match o.data with
  | .seq vs _ => vs.toList.map txtOf
  | _ => []
 | none => []
theorem txts_of {X : List Addr} {h : Heap} : ∀ {l : List Str} {vs : List Value}, RepAll X h (l.map .str) vs → vs.map txtOf = l
 | [], _, r => by cases r; rfl
 | x :: l, _, r => by obtain ⟨v, r', rfl, ⟨t, rfl⟩, h2⟩ := r; rw [List.map_cons, txts_of h2]; rfl
theorem strsAt_of {h : Heap} {a : Addr} {vs : List Value} {n : Nat} {X : List Addr} {l : List Str} (hg : h.get? a = some (listO vs n)) (hr : RepAll X h (l.map .str) vs) : strsAt h a = l := by
 unfold strsAt; rw [hg]; exact txts_of hr
noncomputable def Holds (h : Heap) (a : Addr) (l : List Str) : Prop := ∃ ws n, h.get? a = some (listO ws n) ∧ RepAll [] h (l.map .str) ws
theorem noT_flat {h : Heap} : ∀ {vs : List Value} {Ns : List (List Addr)}, Trees noT h vs Ns → Ns.flatten = []
 | [], [], _ => rfl
 | _ :: _, _ :: _, ⟨h1, h2⟩ => by cases h1; rw [List.flatten_cons, noT_flat h2]; rfl
 | [], _ :: _, x => x.elim
 | _ :: _, [], x => x.elim
theorem listO_inj {h : Heap} {a : Addr} {ys ys' : List Value} {n n' : Nat} (hg : h.get? a = some (listO ys n)) (hg' : h.get? a = some (listO ys' n')) : ys' = ys ∧ n' = n := by
 rw [hg] at hg'
 obtain q := congrArg (fun o : Option Obj => match o with | some o => (match o.data with | .seq vs m => (vs.toList, m) | _ => ([], 0)) | none => ([], 0)) hg'
 have q' : (ys, n) = (ys', n') := by simpa using q
 exact ⟨(congrArg Prod.fst q').symm, (congrArg Prod.snd q').symm⟩
theorem new_one {X : List Addr} {h : Heap} : ∀ {g : List (List Str)} {vs : List Value} {Ns : List (List Addr)}, Trees (TL noT) h vs Ns → RepAll X h (g.map dStrs) vs →
  vs = Ns.flatten.map Value.ref ∧ Ns.flatten.map (strsAt h) = g ∧ ∀ b ∈ Ns.flatten, Holds h b (strsAt h b)
 | [], _, Ns, t, r => by
  cases r
  cases Ns with
  | nil => exact ⟨rfl, rfl, fun b hb => (nomatch hb)⟩
  | cons _ _ => exact t.elim
 | l :: g, _, Ns, t, r => by
  refine cutG fun P_ hP_ => ?_
  obtain ⟨v, vs, rfl, hv, hr⟩ := r
  refine hP_ ?_
  clear hP_ P_
  cases Ns with
  | nil => exact t.elim
  | cons N Ns =>
   refine cutG fun P_ hP_ => ?_
   obtain ⟨⟨a, ys, n, Ns', rfl, hg, ht, rfl⟩, t2⟩ := t
   obtain ⟨e1, e2, e3⟩ := new_one t2 hr
   obtain ⟨a', ys', n', e, _, hg', hy⟩ := hv
   refine hP_ ?_
   clear hP_ P_
   cases e
   obtain ee := listO_inj hg hg'
   refine cutG fun P_ hP_ => ?_
   obtain ⟨rfl, rfl⟩ := ee
   refine hP_ ?_
   clear hP_ P_
   rw [noT_flat ht]
   refine ⟨?_, ?_, ?_⟩
   ·rw [e1]; rfl
   ·show strsAt h a :: Ns.flatten.map (strsAt h) = _
    rw [e2, strsAt_of hg hy]
   ·intro b hb
    rcases List.mem_cons.mp hb with z | z
    ·rw [z, strsAt_of hg hy]; exact ⟨_, _, hg, strs_any hy⟩
    ·exact e3 b z
theorem rep_refs {X : List Addr} {h : Heap} : ∀ as : List Addr, RepAll X h (as.map refD) (as.map Value.ref)
 | [] => rfl
 | _ :: as => ⟨_, _, rfl, rfl, rep_refs as⟩
theorem new_two {X : List Addr} {h : Heap} : ∀ {gs : List (List (List Str))} {vs : List Value} {Ns : List (List Addr)}, Trees (TL (TL noT)) h vs Ns → RepAll X h (gs.map fun g => .list (g.map dStrs)) vs → Ns.flatten.Nodup →
  ∃ ass : List (List Addr), ass.flatten.Nodup ∧ (∀ b ∈ ass.flatten, b ∈ Ns.flatten) ∧ ass.map (·.map (strsAt h)) = gs ∧ (∀ b ∈ ass.flatten, Holds h b (strsAt h b)) ∧
   ∀ X', (∀ o ∈ Ns.flatten, o ∉ ass.flatten → o ∉ X') → RepAll X' h (ass.map fun as => .list (as.map refD)) vs
 | [], _, Ns, t, r, _ => by
  cases r
  exact ⟨[], .nil, fun b hb => (nomatch hb), rfl, fun b hb => (nomatch hb), fun o_ o_ => rfl⟩
 | g :: gs, _, Ns, t, r, nd => by
  refine cutG fun P_ hP_ => ?_
  obtain ⟨v, vs, rfl, hv, hr⟩ := r
  refine hP_ ?_
  clear hP_ P_
  cases Ns with
  | nil => exact t.elim
  | cons N Ns =>
   refine cutG fun P_ hP_ => ?_
   obtain ⟨⟨a, ys, n, Ns', rfl, hg, ht, rfl⟩, t2⟩ := t
   rw [List.flatten_cons] at nd
   obtain ⟨nd1, nd2, nd3⟩ := List.nodup_append.mp nd
   obtain ⟨ass, f1, f2, f3, f4, f5⟩ := new_two t2 hr nd2
   obtain ⟨a', ys', n', e, _, hg', hy⟩ := hv
   refine hP_ ?_
   clear hP_ P_
   cases e
   obtain ee := listO_inj hg hg'
   refine cutG fun P_ hP_ => ?_
   obtain ⟨rfl, rfl⟩ := ee
   obtain ⟨e1, e2, e3⟩ := new_one ht hy
   refine hP_ ?_
   clear hP_ P_
   have ndN := List.nodup_cons.mp nd1
   refine ⟨Ns'.flatten :: ass, ?_, ?_, ?_, ?_, ?_⟩
   ·rw [List.flatten_cons]
    exact List.nodup_append.mpr ⟨ndN.2, f1, fun x hx y hy => nd3 x (.tail _ hx) y (f2 y hy)⟩
   ·intro b hb
    rw [List.flatten_cons] at hb ⊢
    rcases List.mem_append.mp hb with z | z
    ·exact List.mem_append_left _ (.tail _ z)
    ·exact List.mem_append_right _ (f2 b z)
   ·rw [List.map_cons, f3, e2]
   ·intro b hb
    rw [List.flatten_cons] at hb
    rcases List.mem_append.mp hb with z | z
    ·exact e3 b z
    ·exact f4 b z
   ·intro X' hX
    rw [List.flatten_cons] at hX
    refine ⟨_, _, rfl, ⟨a, ys', n', rfl, hX a (List.mem_append_left _ (.head _)) ?_, hg, ?_⟩, f5 X' fun o ho hn => hX o (List.mem_append_right _ ho) ?_⟩
    ·intro hm
     rw [List.flatten_cons] at hm
     rcases List.mem_append.mp hm with z | z
     ·exact ndN.1 z
     ·exact nd3 a (.head _) a (f2 a z) rfl
    ·rw [e1]; exact rep_refs _
    ·intro hm
     rw [List.flatten_cons] at hm
     rcases List.mem_append.mp hm with z | z
     ·exact nd3 o (.tail _ z) o ho rfl
     ·exact hn z
end Mine
end
section
open PySem PySem.W PyProof.Rows
namespace Mine
open PySem.Calls
section
variable {c : Cx} {s₀ s : Shared} {O : List Addr} {E : Value → Shared → Prop}
theorem ex_handed {M₀ : Model} {A₀ : Around} {env₀ : Env} {elt iter : Expr} {x y : Str} {px py pos spos : Pos} {ifs : List Expr} {scope : Scope} {xs : List D} {gs : List (List (List Str))} {Ob : List Addr} {Q : Flow → Shared → Prop}
  (S : Sx c s₀ O s) (hsrc : Src c Ob iter xs) (R : CompRuns (TL (TL noT)) c [] (fun o_ => c.own) elt iter x px ifs scope pos xs (gs.map fun g => .list (g.map dStrs)))
  (h : ∀ (s' : Shared) (ass : List (List Addr)) (ct : Addr → List Str), ass.flatten.Nodup → (∀ b ∈ ass.flatten, b ∉ c.X) → ass.map (·.map ct) = gs →
   Sx { c with X := ass.flatten ++ c.X, own := ownM ass.flatten ct ++ c.own, vars := (y, .list (ass.map fun as => .list (as.map refD))) :: c.vars } s₀ O s' → Q .next s')
  (N : NamesOk scope c.env) (hb : mayBind c.env y = true) (hkf : c.env.scope.kind = .function)
  (hsw : swapsWith (.ListComp elt [⟨.Name x px, iter, ifs, 0⟩] scope pos) (some (.Name y py)) spos.line c.env = pure true)
  (hs : ∀ v, foldedSetIterable iter c.env v = pure v := by intro _; rfl) (hM₀ : M₀ = model c.prog c.w := by rfl) (hA₀ : A₀ = c.A := by rfl) (hE₀ : env₀ = c.env := by rfl) :
  wpAny M₀ A₀ (exec (.Assign [.Name y py] (.ListComp elt [⟨.Name x px, iter, ifs, 0⟩] scope pos) spos) env₀) Q E s := by
 subst hM₀ hA₀ hE₀
 refine ex_comp_core S hsrc N R hsw (fun C Dd s' m ys n hCs hx hh hbC hf ho hO hDC hn hD k S' e hY acc => ?_) hs
 refine cutG fun P_ hP_ => ?_
 obtain ⟨Ns, ht, hnd, hfr⟩ := acc
 obtain ⟨ass, f1, f2, f3, f4, f5⟩ := new_two ht hY hnd
 refine hP_ ?_
 clear hP_ P_
 have fr : ∀ b ∈ ass.flatten, s.heap.get? b = none ∧ b ∉ [C, Dd] := fun b hb => hfr b (f2 b hb)
 have hnX : ∀ b, s.heap.get? b = none → b ∉ c.X := fun b hb hm => by obtain ⟨ob, e'⟩ := S.ok.xin b hm; exact no_some (hb.symm.trans e')
 have hCfl : C ∉ ass.flatten := fun hm => (fr C hm).2 (.head _)
 obtain hDfl : Dd ∉ ass.flatten := fun hm => (fr Dd hm).2 (.tail _ (.head _))
 have S₁ : Sx { c with X := (C :: ass.flatten) ++ c.X, own := ownM ass.flatten (strsAt s'.heap) ++ c.own } s₀ O s' := S.takeL k (fun a ha => by
   rcases List.mem_cons.mp ha with z | z
   ·rw [z]; exact hCs
   ·exact (fr a z).1) (fun a ha => by
   rcases List.mem_cons.mp ha with z | z
   ·obtain ⟨ob, _, _, e', _⟩ := hn; exact ⟨ob, z ▸ e'⟩
   ·obtain ⟨ws, n, hg, _⟩ := f4 a z; exact ⟨_, hg⟩) (fun q hq => by
   obtain ⟨a, ha, rfl⟩ := List.mem_map.mp hq; exact .tail _ ha) (by rw [ownM_keys]; exact f1) (fun q hq => by
   refine cutG fun P_ hP_ => ?_
   obtain ⟨a, ha, rfl⟩ := List.mem_map.mp hq
   obtain ⟨ws, n, hg, hr⟩ := f4 a ha
   refine hP_ ?_
   clear hP_ P_
   exact ⟨ws, n, hg, strs_any hr⟩)
 obtain r : Rep ((C :: ass.flatten) ++ c.X) s'.heap (.list (ass.map fun as => .list (as.map refD))) (.ref Dd) := by
  refine ⟨Dd, ys, n, rfl, fun hm => ?_, e, f5 _ fun o ho hn' hm => ?_⟩
  ·rcases List.mem_cons.mp hm with z | z
   ·exact hDC z
   ·rcases List.mem_append.mp z with z | z
    ·exact hDfl z
    ·exact hnX Dd hD z
  ·have := hfr o ho
   rcases List.mem_cons.mp hm with z | z
   ·exact this.2 (z ▸ .head _)
   ·rcases List.mem_append.mp z with z | z
    ·exact hn' z
    ·exact hnX o this.1 z
 refine wpAny_assign_Name (st_name (c := { c with X := (C :: ass.flatten) ++ c.X, own := ownM ass.flatten (strsAt s'.heap) ++ c.own }) S₁.rebase hkf (mayBind_of hb) r fun s'' S'' => ?_)
 have hno : C ∉ ownA { c with X := ass.flatten ++ c.X, own := ownM ass.flatten (strsAt s'.heap) ++ c.own } := fun hm => by
  unfold ownA at hm
  rw [show ({ c with X := ass.flatten ++ c.X, own := ownM ass.flatten (strsAt s'.heap) ++ c.own } : Cx).own = ownM ass.flatten (strsAt s'.heap) ++ c.own from rfl, List.map_append, ownM_keys] at hm
  rcases List.mem_append.mp hm with z | z
  ·exact hCfl z
  ·exact ho z
 obtain hm' : s''.heap.Ns C m := S''.kp.ns hn fun hm => (List.mem_append.mp hm).elim hh hno
 refine ⟨m, hm', fun h' hs' => h _ ass (strsAt s'.heap) f1 (fun b hb => hnX b (fr b hb).1) f3 (Sx.dropC (c := { c with X := ass.flatten ++ c.X, own := ownM ass.flatten (strsAt s'.heap) ++ c.own, vars := (y, .list (ass.map fun as => .list (as.map refD))) :: c.vars }) (S₁.back S'' rfl) hs' (fun hm => ?_) hh hbC hf hno hO)⟩
 rcases List.mem_append.mp hm with z | z
 ·exact hCfl z
 ·exact hx z
end
end Mine
end
section
open PySem PySem.W PyProof.Rows
namespace Mine
open PySem.Calls
section
variable {c : Cx} {s₀ s : Shared} {O : List Addr} {E : Value → Shared → Prop}
theorem Sx.turnL {as : List Addr} {own' : List (Addr × List D)} {s' : Shared} (S : Sx c s₀ O s) (k : Kp c.hb as s s') (has : ∀ a ∈ as, a ∈ ownA c) (o' : Ok { c with own := own' } s') (hk : ∀ p ∈ own', p.1 ∈ ownA c) (hnd : (own'.map (·.1)).Nodup) : Sx { c with own := own' } s₀ O s' := by
 have sub : ∀ a ∈ ownA { c with own := own' }, a ∈ ownA c := fun a ha => by
  obtain ⟨p, hp, rfl⟩ := List.mem_map.mp ha; exact hk p hp
 refine ⟨o', S.kp.join k fun a ha => S.free a (List.mem_append_right _ (has a ha)), fun a ha => ?_, S.hx, ⟨fun a ha => S.offs.x a (sub a ha), fun a ha => S.offs.home a (sub a ha), fun a ha => S.offs.base a (sub a ha), fun a ha => S.offs.frame a (sub a ha)⟩, hnd, S.fr.kp k fun a ha hm => S.offs.home a (has a hm) ha, S.cap⟩
 rcases List.mem_append.mp ha with z | z
 ·exact S.free a (List.mem_append_left _ z)
 ·exact S.free a (List.mem_append_right _ (sub a z))
theorem evo_merged {k : Nat} (hr : Room c.A (k + 2)) {hb₀ : Heap} (G : Gl hb₀) {as : List Addr} {ct : Addr → List Str} (hnd : as.Nodup) (hown : ∀ a ∈ as, (a, (ct a).map D.str) ∈ c.own) (hoX : ∀ a ∈ as, a ∈ c.X) (hob : ∀ a ∈ as, c.hb.get? a = none) (hof : ∀ a ∈ as, a ∉ framesOf c.A)
  (hok : ∀ a ∈ as, ∀ x ∈ ct a, PyData.strOk x = true) (hsz : c3len (as.map ct) ≤ 900) (hsz1 : ∀ a ∈ as, (ct a).length ≤ 1000) (hal : as.length ≤ 1000) (hO : ∀ a ∈ as, a ∈ O)
  {own' : List (Addr × List D)} (hown' : ∀ p ∈ own', (p.1 ∈ as ∧ c3R as ct ≠ none ∧ p.2 = []) ∨ (p.1 ∉ as ∧ p ∈ c.own))
  {x y : Str} {p py pos : Pos} (hf : Ev c (.Name x p) (.val (.ref 95))) (hv : c.vars.lookup y = some (.list (as.map refD))) (hky : c.env.kindOf y = some .local) (hce : c.env.cells = []) (hh : c.hb = hb₀ := by rfl)
  (hk : c.env.scope.kind = .function := by rfl) (hn : (y == ("__classdict__" : Str)) = false := by decide) (hd : (y == ("__debug__" : Str)) = false := by decide)
  (he : starEach [.Name y py] c.env = [(false, eval (.Name y py) c.env)] := by rfl) :
  Evo c O own' (.Call (.Name x p) [.Name y py] [] pos) (mergedD (c3R as ct)) := by
 subst hh
 refine evo_call hf (evs_cons (ev_var hv hk hn hd) evs_nil he) (FnAt.kpr (G.fn 16 95 (by simp))) (fun s E vs o hr' => ?_) he (by rw [he]; rfl)
 have hoff : Off c as := by
  refine ⟨hoX, fun a ha hm => ?_, hob, hof⟩
  obtain ⟨_, ys, n, hg, _⟩ := o.own _ (hown a ha)
  have : a = c.env.locals := by simpa [homes, hce] using hm
  obtain ⟨v, hva, _⟩ := o.vars y _ hv
  rcases hva with ⟨_, m, ⟨ob, es, n', e, he', _⟩, _⟩ | ⟨hk', _⟩
  ·rw [← this, hg] at e; cases e; cases he'
  ·rw [hky] at hk'; rcases hk' with z | z <;> cases z
 refine wpAny_mono (merged_call hr G hnd hown hoff hok hsz hsz1 hal o hr') (fun v s' h => ⟨h.1.weaken hO, h.2.1, o.off h.1 hoff (fun a ha => ?_) fun q hq => ?_⟩) fun o_ o_ e => e
 ·obtain ⟨vs, n, e, _⟩ := h.2.2 a ha; exact ⟨_, e⟩
 ·rcases hown' q hq with ⟨h1, h2, h3⟩ | ⟨h1, h2⟩
  ·obtain ⟨vs', n, e, e'⟩ := h.2.2 q.1 h1
   rw [e' h2] at e
   exact ⟨hoX _ h1, _, n, e, by rw [h3]; rfl⟩
  ·exact o.ownKeep h.1 hoX h2 h1
end
end Mine
end
section
open PySem PySem.W PyProof.Rows
namespace Mine
open PySem.Calls
noncomputable def refsD (as : List Addr) : D := .list (as.map refD)
theorem map_refD_inj : ∀ {l m : List Addr}, l.map refD = m.map refD → l = m
 | [], [], _ => rfl
 | [], _ :: _, h => by cases h
 | _ :: _, [], h => by cases h
 | a :: l, b :: m, h => by
  rw [List.map_cons, List.map_cons] at h
  injection h with h1 h2
  rw [refD_inj _ _ h1, map_refD_inj h2]
theorem refsD_inj : ∀ l m : List Addr, refsD l = refsD m → l = m := fun l m h => by
 unfold refsD at h; injection h with h; exact map_refD_inj h
section
variable {c : Cx} {s₀ s : Shared} {O : List Addr} {E : Value → Shared → Prop}
theorem ex_merges {M₀ : Model} {A₀ : Around} {env₀ : Env} {fn x y : Str} {p p1 px py pos cpos spos : Pos} {iter : Expr} {scope : Scope} {ass : List (List Addr)} {ct : Addr → List Str} {own : Nat → List (Addr × List D)} {k : Nat} {Q : Flow → Shared → Prop}
  (S : Sx c s₀ O s) (hr : Room c.A (k + 2)) {hb₀ : Heap} (G : Gl hb₀) (h0 : c.own = own 0) (hsrc : Src c c.X iter (ass.map refsD)) (hnd : ass.flatten.Nodup) (hfl : ∀ a ∈ ass.flatten, a ∈ ownA c)
  (step : ∀ i as, ass[i]? = some as → (∀ a ∈ as, (a, (ct a).map D.str) ∈ own i) ∧ ∀ q ∈ own (i + 1), (q.1 ∈ as ∧ c3R as ct ≠ none ∧ q.2 = []) ∨ (q.1 ∉ as ∧ q ∈ own i))
  (keys : ∀ i, ∀ q ∈ own i, q.1 ∈ ownA c) (hndk : ((own ass.length).map (·.1)).Nodup)
  (hok : ∀ a ∈ ass.flatten, ∀ x ∈ ct a, PyData.strOk x = true) (hsz : ∀ as ∈ ass, c3len (as.map ct) ≤ 900) (hsz1 : ∀ a ∈ ass.flatten, (ct a).length ≤ 1000) (hal : ∀ as ∈ ass, as.length ≤ 1000) (hl : ass.length ≤ 1000)
  (h : ∀ s', Sx { c with own := own ass.length, vars := (y, .list (ass.map fun as => mergedD (c3R as ct))) :: c.vars } s₀ O s' → Q .next s')
  (b : blockOk scope c.env x = true) (hf : ∀ i d C Dd I, Ev { inCx c scope x d C Dd I with own := own i } (.Name fn p) (.val (.ref 95)))
  (hky : ∀ C, (compEnvC scope (clOf scope c.env) C c.env).kindOf x = some .local) (hce : ∀ C, (compEnvC scope (clOf scope c.env) C c.env).cells = []) (hkk : ∀ C, (compEnvC scope (clOf scope c.env) C c.env).scope.kind = .function)
  (hst : ∀ C, starEach [.Name x p1] (compEnvC scope (clOf scope c.env) C c.env) = [(false, eval (.Name x p1) (compEnvC scope (clOf scope c.env) C c.env))])
  (hn : (x == ("__classdict__" : Str)) = false) (hd : (x == ("__debug__" : Str)) = false)
  (hb : mayBind c.env y = true) (hkf : c.env.scope.kind = .function)
  (hsw : swapsWith (.ListComp (.Call (.Name fn p) [.Name x p1] [] cpos) [⟨.Name x px, iter, [], 0⟩] scope pos) (some (.Name y py)) spos.line c.env = pure false) (hh : c.hb = hb₀ := by rfl)
  (hs : ∀ v, foldedSetIterable iter c.env v = pure v := by intro _; rfl) (hM₀ : M₀ = model c.prog c.w := by rfl) (hA₀ : A₀ = c.A := by rfl) (hE₀ : env₀ = c.env := by rfl) :
  wpAny M₀ A₀ (exec (.Assign [.Name y py] (.ListComp (.Call (.Name fn p) [.Name x p1] [] cpos) [⟨.Name x px, iter, [], 0⟩] scope pos) spos) env₀) Q E s := by
 subst hM₀ hA₀ hE₀ hh
 have hoffF : Off c ass.flatten := ⟨fun a ha => S.offs.x a (hfl a ha), fun a ha => S.offs.home a (hfl a ha), fun a ha => S.offs.base a (hfl a ha), fun a ha => S.offs.frame a (hfl a ha)⟩
 obtain R : CompRuns noT c ass.flatten own (.Call (.Name fn p) [.Name x p1] [] cpos) iter x px [] scope pos (ass.map refsD) (ass.map fun as => mergedD (c3R as ct)) := by
  have e1 := back_all (g := refsD) (f := fun as => mergedD (c3R as ct)) (p := fun o_ => true) refsD_inj ass
  rw [List.filter_eq_self.mpr (fun o_ o_ => rfl)] at e1
  rw [← e1, ← outs_const (backP refsD fun o_ => true) (backF refsD fun as => mergedD (c3R as ct)) (ass.map refsD) 0]
  refine @comp_block c noT tree_noT ass.flatten own _ iter x px [] scope pos (ass.map refsD) (fun o_ d => backF refsD (fun as => mergedD (c3R as ct)) d) (backP refsD fun o_ => true) hoffF b (fun i q hq => S.offs.x _ (keys i q hq)) (fun i d C Dd I hd => ?_) (fun i d C Dd I hd' o_ => ?_) (fun i d hd hp => ?_) (by rw [List.length_map]; unfold sizeLine; grind)
  ·refine cutG fun P_ hP_ => ?_
   obtain ⟨as, _, rfl⟩ := List.mem_map.mp (List.mem_of_getElem? hd)
   refine hP_ ?_
   clear hP_ P_
   rw [backP_of refsD_inj]; exact tests_nil
  ·rw [List.getElem?_map] at hd'
   refine cutG fun P_ hP_ => ?_
   obtain ⟨as, ha, rfl⟩ := Option.map_eq_some_iff.mp hd'
   refine hP_ ?_
   clear hP_ P_
   rw [backF_of refsD_inj]
   obtain ham := List.mem_of_getElem? ha
   have hmf : ∀ a ∈ as, a ∈ ass.flatten := fun a hx => List.mem_flatten.mpr ⟨as, ham, hx⟩
   refine (evo_merged (c := { inCx c scope x (refsD as) C Dd I with own := own i }) (k := k) hr G ((List.pairwise_flatten.mp hnd).1 as ham) (step i as ha).1 (fun a hx => .tail _ (.tail _ (.tail _ (hoffF.x a (hmf a hx))))) (fun a hx => hoffF.base a (hmf a hx)) (fun a hx => hoffF.frame a (hmf a hx)) (fun a hx => hok a (hmf a hx)) (hsz as ham) (fun a hx => hsz1 a (hmf a hx)) (hal as ham) hmf (step i as ha).2 (hf i _ C Dd I) ?_ (hky C) (hce C) rfl (hkk C) hn hd (hst C)).t
   show (inVars scope x (refsD as) c.vars).lookup x = some (refsD as)
   unfold inVars; rw [List.lookup_cons_self]
  ·refine cutG fun P_ hP_ => ?_
   obtain ⟨as, _, rfl⟩ := List.mem_map.mp (List.mem_of_getElem? hd)
   refine hP_ ?_
   clear hP_ P_
   rw [backP_of refsD_inj] at hp; cases hp
 refine wpAny_Assign_Name (wpAny_mono (evo_compR tree_noT (O := ass.flatten) (own := own) h0 hsrc (fun a ha => hoffF.x a ha) (fun i q hq => S.offs.x _ (keys i q hq)) (names_of_block b) R hs s E S.ok) (fun v s₁ h₁ => ?_) fun o_ o_ e => e) hsw
 refine cutG fun P_ hP_ => ?_
 obtain ⟨k1, ⟨a, ys, n, rfl, g0, hg, hy, _⟩, o1⟩ := h₁
 refine hP_ ?_
 clear hP_ P_
 rw [List.length_map] at o1
 obtain S₁ := S.turnL k1 hfl o1 (keys _) hndk
 obtain r : Rep c.X s₁.heap (.list (ass.map fun as => mergedD (c3R as ct))) (.ref a) := rep_of_new S.ok.xin g0 hg hy
 exact st_name (c := { c with own := own ass.length }) S₁ hkf (mayBind_of hb) r (fun s' S₂ => h s' S₂)
end
end Mine
end
section
open PySem PySem.W PyProof.Rows
namespace Mine
open PySem.Calls
noncomputable def ctI (ass : List (List Addr)) (ct : Addr → List Str) (i : Nat) (b : Addr) : List Str := if b ∈ (ass.take i).flatten then [] else ct b
theorem apart_at {ass : List (List Addr)} {i : Nat} {as : List Addr} (h : ass[i]? = some as) (nd : ass.flatten.Nodup) : (∀ a ∈ as, a ∉ (ass.take i).flatten) ∧ ∀ a ∈ as, a ∉ (ass.drop (i + 1)).flatten := by
 obtain hi : i < ass.length := (List.getElem?_eq_some_iff.mp h).1
 obtain e : ass.take i ++ as :: ass.drop (i + 1) = ass := by
  obtain h2 : ass[i] = as := (List.getElem?_eq_some_iff.mp h).2
  rw [← h2, List.getElem_cons_drop, List.take_append_drop]
 rw [← e, List.flatten_append, List.flatten_cons] at nd
 refine cutG fun P_ hP_ => ?_
 obtain ⟨_, n2, n3⟩ := List.nodup_append.mp nd
 obtain ⟨_, _, n4⟩ := List.nodup_append.mp n2
 refine hP_ ?_
 clear hP_ P_
 exact ⟨fun a ha hm => n3 a hm a (List.mem_append_left _ ha) rfl, fun a ha hm => n4 a ha a hm rfl⟩
theorem take_next {ass : List (List Addr)} {i : Nat} {as : List Addr} (h : ass[i]? = some as) : (ass.take (i + 1)).flatten = (ass.take i).flatten ++ as := by
 rw [List.take_add_one, h, List.flatten_append]; simp
theorem drop_next {ass : List (List Addr)} {i : Nat} {as : List Addr} (h : ass[i]? = some as) : (ass.drop i).flatten = as ++ (ass.drop (i + 1)).flatten := by
 obtain hi : i < ass.length := (List.getElem?_eq_some_iff.mp h).1
 obtain h2 : ass[i] = as := (List.getElem?_eq_some_iff.mp h).2
 rw [← h2, ← List.getElem_cons_drop hi, List.flatten_cons]
theorem step_told {ass : List (List Addr)} {ct : Addr → List Str} (nd : ass.flatten.Nodup) (hne : ∀ as ∈ ass, c3R as ct ≠ none) (i : Nat) (as : List Addr) (h : ass[i]? = some as) :
  (∀ a ∈ as, (a, (ct a).map D.str) ∈ ownM ass.flatten (ctI ass ct i)) ∧ ∀ q ∈ ownM ass.flatten (ctI ass ct (i + 1)), (q.1 ∈ as ∧ c3R as ct ≠ none ∧ q.2 = []) ∨ (q.1 ∉ as ∧ q ∈ ownM ass.flatten (ctI ass ct i)) := by
 obtain ham := List.mem_of_getElem? h
 obtain ap := apart_at h nd
 refine ⟨fun a ha => ?_, fun q hq => ?_⟩
 ·obtain this : ctI ass ct i a = ct a := by unfold ctI; rw [if_neg (ap.1 a ha)]
  rw [← this]
  exact ownM_mem (List.mem_flatten.mpr ⟨as, ham, ha⟩)
 ·obtain ⟨b, hb, rfl⟩ := List.mem_map.mp hq
  by_cases hm : b ∈ as
  ·left
   refine ⟨hm, hne as ham, ?_⟩
   show (ctI ass ct (i + 1) b).map D.str = []
   unfold ctI; rw [if_pos (by rw [take_next h]; exact List.mem_append_right _ hm)]; rfl
  ·right
   refine ⟨hm, ?_⟩
   obtain this : ctI ass ct (i + 1) b = ctI ass ct i b := by
    unfold ctI
    simp only [take_next h, List.mem_append, or_iff_left hm]
   rw [this]
   exact ownM_mem hb
theorem step_refused {ass : List (List Addr)} {ct : Addr → List Str} (nd : ass.flatten.Nodup) (i : Nat) (as : List Addr) (h : ass[i]? = some as) :
  (∀ a ∈ as, (a, (ct a).map D.str) ∈ ownM (ass.drop i).flatten ct) ∧ ∀ q ∈ ownM (ass.drop (i + 1)).flatten ct, (q.1 ∈ as ∧ c3R as ct ≠ none ∧ q.2 = []) ∨ (q.1 ∉ as ∧ q ∈ ownM (ass.drop i).flatten ct) := by
 refine ⟨fun a ha => ownM_mem (by rw [drop_next h]; exact List.mem_append_left _ ha), fun q hq => ?_⟩
 obtain ⟨b, hb, rfl⟩ := List.mem_map.mp hq
 exact .inr ⟨fun hm => (apart_at h nd).2 b hm hb, ownM_mem (by rw [drop_next h]; exact List.mem_append_right _ hb)⟩
theorem ctI_zero {ass : List (List Addr)} {ct : Addr → List Str} : ctI ass ct 0 = ct := by
 funext b; unfold ctI; rw [List.take_zero, if_neg (by simp)]
theorem ownM_end {ass : List (List Addr)} {ct : Addr → List Str} : ownM ass.flatten (ctI ass ct ass.length) = ownM ass.flatten fun o_ => [] := by
 refine List.map_congr_left fun b hb => ?_
 unfold ctI; rw [List.take_length, if_pos hb]
section
variable {c : Cx} {s₀ s : Shared} {O : List Addr} {E : Value → Shared → Prop}
noncomputable def emptiesD (as : List Addr) : D := .list (as.map fun o_ => .list [])
theorem rep_empties {X : List Addr} {h : Heap} : ∀ {as : List Addr} {vs : List Value}, RepAll X h (as.map refD) vs → (∀ X', (∀ a ∈ as, a ∉ X' ∧ ∃ n, h.get? a = some (listO [] n)) → RepAll X' h (as.map fun o_ => .list []) vs)
 | [], _, r, _, _ => by cases r; exact rfl
 | a :: as, _, r, X', hh => by
  obtain ⟨v, vs, rfl, rfl, r2⟩ := r
  obtain ⟨h1, n, h2⟩ := hh a (.head _)
  exact ⟨_, _, rfl, ⟨a, [], n, rfl, h1, h2, rfl⟩, rep_empties r2 X' fun b hb => hh b (.tail _ hb)⟩
theorem rep_empties2 {X : List Addr} {h : Heap} : ∀ {ass : List (List Addr)} {vs : List Value}, RepAll X h (ass.map refsD) vs → (∀ X', (∀ a ∈ X', a ∈ X) → (∀ a ∈ ass.flatten, a ∉ X' ∧ ∃ n, h.get? a = some (listO [] n)) → RepAll X' h (ass.map emptiesD) vs)
 | [], _, r, _, _, _ => by cases r; exact rfl
 | as :: ass, _, r, X', hs, hh => by
  refine cutG fun P_ hP_ => ?_
  obtain ⟨v, vs, rfl, ⟨a, ws, n, rfl, ha, hg, hw⟩, r2⟩ := r
  refine hP_ ?_
  clear hP_ P_
  refine ⟨_, _, rfl, ⟨a, ws, n, rfl, fun z => ha (hs a z), hg, rep_empties hw X' fun b hb => hh b ?_⟩, rep_empties2 r2 X' hs fun b hb => hh b ?_⟩
  ·rw [List.flatten_cons]; exact List.mem_append_left _ hb
  ·rw [List.flatten_cons]; exact List.mem_append_right _ hb
theorem Sx.release {fl : List Addr} {V' : List (Str × D)} (S : Sx { c with X := fl ++ c.X, own := ownM fl fun o_ => [] } s₀ O s) (hx : ∀ a ∈ homes c.env, a ∈ c.X) (hfl : ∀ a ∈ fl, a ∉ c.X)
  (hV : ∀ y d, V'.lookup y = some d → c.vars.lookup y = some d ∨ ∃ ass : List (List Addr), (∀ a ∈ ass.flatten, a ∈ fl) ∧ c.vars.lookup y = some (.list (ass.map refsD)) ∧ d = .list (ass.map emptiesD)) :
  Sx { c with vars := V', own := [] } s₀ O s := by
 have emp : ∀ a ∈ fl, ∃ n, s.heap.get? a = some (listO [] n) := fun a ha => by
  refine cutG fun P_ hP_ => ?_
  obtain ⟨_, vs, n, hg, hr⟩ := S.ok.own (a, []) (List.mem_map.mpr ⟨a, ha, rfl⟩)
  refine hP_ ?_
  clear hP_ P_
  cases hr
  exact ⟨n, hg⟩
 refine ⟨⟨S.ok.base, S.ok.frames, fun a ha => S.ok.xin a (List.mem_append_right _ ha), fun y d hy => ?_, fun o_ h => (nomatch h), S.ok.home⟩, S.kp, fun a ha => ?_, fun a ha => ⟨hx a ha, (S.hx a ha).2⟩, off_nil, List.nodup_nil, S.fr, S.cap⟩
 ·rcases hV y d hy with z | ⟨ass, h1, h2, rfl⟩
  ·obtain ⟨v, hv, hr⟩ := S.ok.vars y d z
   exact ⟨v, hv, hr.sub fun a ha => List.mem_append_right _ ha⟩
  ·refine cutG fun P_ hP_ => ?_
   obtain ⟨v, hv, a, vs, n, rfl, ha, hg, hr⟩ := S.ok.vars y _ h2
   refine hP_ ?_
   clear hP_ P_
   exact ⟨_, hv, a, vs, n, rfl, fun z => ha (List.mem_append_right _ z), hg, rep_empties2 hr _ (fun a ha => List.mem_append_right _ ha) fun b hb => ⟨hfl b (h1 b hb), emp b (h1 b hb)⟩⟩
 ·rcases List.mem_append.mp ha with z | z
  ·exact S.free a (List.mem_append_left _ z)
  ·cases z
end
end Mine
end
section
open PySem PySem.W PyProof.Rows
namespace Mine
open PySem.Calls
noncomputable abbrev lawEnv (L : Addr) : Env := fnEnv (fName 18) (fScope 18) L 105 (.ref 104)
noncomputable def ordD (o : List Nat) : D := .tup (o.map dI)
theorem ordD_inj : ∀ x y, ordD x = ordD y → x = y := fun x y h => by
 unfold ordD at h; injection h with h
 exact map_inj dI_inj _ _ h
noncomputable abbrev lawC (c : Cx) (L : Addr) (X : List Addr) (vars : List (Str × D)) (own : List (Addr × List D)) : Cx :=
 { prog := c.prog, w := c.w, A := c.A.deeper (lawEnv L), hb := c.hb, env := lawEnv L, X := X ++ (homes (lawEnv L) ++ c.X), vars := vars, own := own }
theorem dNs_strs (l : List Nat) : dNs l = dStrs (l.map nm) := by unfold dNs dStrs; rw [List.map_map]; rfl
inductive LitI : List Expr → List D → Prop
 | nil : LitI [] []
 | cons {es ds i a p} : LitI es ds → LitI (.Constant (.int i) a p :: es) (.int i :: ds)
inductive LitT : List Expr → List D → Prop
 | nil : LitT [] []
 | cons {es ds xs ys k p} : LitI xs ys → ys.length ≤ 100 → LitT es ds → LitT (.Tuple xs k p :: es) (.tup ys :: ds)
theorem evs_litI {c : Cx} {es : List Expr} {ds : List D} (h : LitI es ds) : Evs c es ds := by
 induction h with
 | nil => exact evs_nil
 | cons h ih => exact evs_cons ev_int ih rfl
theorem evs_litT {c : Cx} {es : List Expr} {ds : List D} (h : LitT es ds) : Evs c es ds := by
 induction h with
 | nil => exact evs_nil
 | cons h1 h2 h3 ih => exact evs_cons (ev_tuple (evs_litI h1) (by unfold sizeLine; grind)) ih rfl
theorem ev_lit {c : Cx} {e : Expr} {es : List Expr} {p : Pos} {ds : List D} (he : .List es p = e) (h : LitT es ds) (hl : ds.length ≤ 100) : Ev c e (.list ds) :=
 he ▸ ev_list (evs_litT h) (by unfold sizeLine; grind)
set_option maxHeartbeats 4000000 in
theorem law_one {c : Cx} {k : Nat} (hr : Room c.A (k + 6)) (G : Gl c.hb) {script : List Int} (hs : script.length ≤ 1000) {rows : List (List Nat)} (hrows : rowsF script = rows) (h3 : rows.length = 3) (h6 : ∀ row ∈ rows, ∀ t ∈ row, t < 6) (hlen : ∀ row ∈ rows, row.length ≤ 6) {L : Addr} {s₀ s : Shared} {Q : Flow → Shared → Prop} {E : Value → Shared → Prop}
  {O : List Addr} (S : Sx (fnCx c (lawEnv L) [("script", .list (script.map .int))] []) s₀ O s)
  (h : ∀ s' (ass : List (List Addr)) (ct : Addr → List Str), ass.flatten.Nodup → (∀ b ∈ ass.flatten, b ∉ homes (lawEnv L) ++ c.X) → ass.map (·.map ct) = ordL.map (ordN rows) →
   Sx (lawC c L ass.flatten [("handed", .list (ass.map refsD)), ("orders", .list (ordL.map ordD)), ("ahead", dIs (aheadF rows)), ("rows", dRows rows), ("script", .list (script.map .int))] (ownM ass.flatten ct)) s₀ O s' →
   wpAny (model c.prog c.w) (c.A.deeper (lawEnv L)) (execs ((fBody 18).drop 4) (lawEnv L)) Q E s') :
  wpAny (model c.prog c.w) (c.A.deeper (lawEnv L)) (execs (fBody 18) (lawEnv L)) Q E s := by
 dsimp only [fnCx] at S
 have hr' := hr.deeper (lawEnv L)
 obtain hget : ∀ k, k < 3 → (rows.map dIs)[k]? = some (dIs (rows.getD k [])) := fun k hk => by
  rw [List.getElem?_map, List.getD_eq_getElem?_getD, List.getElem?_eq_getElem (by grind)]; rfl
 have hgm : ∀ k, k < 3 → rows.getD k [] ∈ rows := fun k hk => by
  rw [List.getD_eq_getElem?_getD, List.getElem?_eq_getElem (by grind)]; exact List.getElem_mem _
 refine ex_cons ?_
 refine ex_assign S (d := dRows rows) (by rw [← hrows]; exact ev_call (ev_gl G rfl) (evs_cons (ev_var rfl) evs_nil) (FnAt.kpr (G.fn 13 76 (by simp))) (rows_spec hr' G hs)) (fun s₁ S₁ => ?_) rfl rfl rfl
 dsimp only at S₁
 refine ex_cons ?_
 refine ex_assign S₁ (ev_call (ev_gl G rfl) (evs_cons (ev_var rfl) evs_nil) (FnAt.kpr (G.fn 14 83 (by simp))) (ahead_spec hr' G h6 (fun r hr => Nat.le_trans (hlen r hr) (by grind)) (by grind))) (fun s₂ S₂ => ?_) rfl rfl rfl
 dsimp only at S₂
 refine ex_cons ?_
 generalize hl : Expr.List _ _ = el
 obtain he : Ev { c with A := c.A.deeper (lawEnv L), env := lawEnv L, X := homes (lawEnv L) ++ c.X, vars := [("ahead", dIs (aheadF rows)), ("rows", dRows rows), ("script", .list (script.map .int))], own := [] } el (.list (ordL.map ordD)) := by
  exact ev_lit hl (by repeat constructor) (by decide)
 obtain hw : swapsWith el (some (.Name "orders" ⟨130, 4, 130, 10⟩)) (⟨130, 4, 130, 79⟩ : Pos).line (lawEnv L) = pure false := by subst hl; rfl
 refine ex_assign S₂ he (fun s₃ S₃ => ?_) rfl rfl hw
 clear hl
 dsimp only at S₃
 refine ex_cons ?_
 refine ex_handed (gs := ordL.map (ordN rows)) S₃ (src_list (ds := ordL.map ordD) hr' (ev_var rfl)) ?_ (fun s₄ ass ct h1 h2 h3 S₄ => h s₄ ass ct h1 h2 h3 ?_) (names_of_block (x := "order") rfl) rfl rfl rfl
 ·obtain e : ((ordL.map (ordN rows)).map fun g => D.list (g.map dStrs)) = (ordL.filter fun o_ => true).map fun o => .list ((o.filter fun o_ => true).map fun k => dNs (rows.getD k [])) := by
   rw [List.filter_eq_self.mpr (fun o_ o_ => rfl), List.map_map]
   refine List.map_congr_left fun o o_ => ?_
   rw [List.filter_eq_self.mpr (fun o_ o_ => rfl)]
   show D.list ((ordN rows o).map dStrs) = _
   unfold ordN
   rw [List.map_map]
   congr 1
   exact List.map_congr_left fun k o_ => (dNs_strs _).symm
  rw [e]
  refine @runs_TA _ _ (tree_TL (tree_TL tree_noT)) _ ordD (fun o => .list ((o.filter fun o_ => true).map fun k => dNs (rows.getD k []))) ordL (fun o_ => true) _ _ _ _ _ _ _ ordD_inj (by rfl) ?_ (fun o C Dd I ho => tests_nil) (fun o C Dd I ho o_ => ?_) (by decide)
  ·exact fun q hq => nomatch hq
  have ho3 : ∀ k ∈ o, k < 3 := (by decide : ∀ o ∈ ordL, ∀ k ∈ o, k < 3) o ho
  obtain hol : o.length = 3 := (by decide : ∀ o ∈ ordL, o.length = 3) o ho
  refine evoT_comp (tree_TL tree_noT) (src_tup (ds := o.map dI) hr' (ev_var rfl)) ?_ (names_of_block (x := "k") rfl) (@runs_TA _ _ (tree_TL tree_noT) _ dI (fun k => dNs (rows.getD k [])) o (fun o_ => true) _ _ _ _ _ _ _ dI_inj (by rfl) ?_ (fun k C2 D2 I2 hk => tests_nil) (fun k C2 D2 I2 hk o_ => ?_) ?_)
  ·exact fun q hq => nomatch hq
  ·exact fun q hq => nomatch hq
  rotate_left
  ·grind
  exact evoT_named hr' G (h6 _ (hgm k (ho3 k hk))) (Nat.le_trans (hlen _ (hgm k (ho3 k hk))) (by grind)) (ev_gl G rfl) (ev_item (k := (k : Int)) (ev_var rfl) .val (ev_var rfl) (by grind) (by have := ho3 k hk; grind) (by rw [Int.toNat_natCast]; exact hget k (ho3 k hk)))
 ·dsimp only at S₄
  rw [List.append_nil] at S₄
  exact S₄
end Mine
end
section
open PySem PySem.W PyProof.Rows
namespace Mine
open PySem.Calls
noncomputable abbrev scD (script : List Int) : D := .list (script.map .int)
noncomputable abbrev ordsD : D := .list (ordL.map ordD)
noncomputable abbrev V5 (dm dh : D) (rows : List (List Nat)) (script : List Int) : List (Str × D) := [("merges", dm), ("handed", dh), ("orders", ordsD), ("ahead", dIs (aheadF rows)), ("rows", dRows rows), ("script", scD script)]
noncomputable def ifB (i : Nat) : List Stmt := match (fBody 18)[i]? with | some (.If _ b _ _) => b | _ => []
section
variable {c : Cx} {k : Nat} {rows : List (List Nat)} {script : List Int} {L : Addr} {fl : List Addr} {s₀ s : Shared} {O : List Addr} {Q : Flow → Shared → Prop} {E : Value → Shared → Prop}
theorem ahead_len (rows : List (List Nat)) : (aheadF rows).length = 6 := aTurns_len rows 6
set_option maxHeartbeats 4000000 in
theorem law_if5 (hr : Room c.A (k + 6)) (G : Gl c.hb) {dm dh : D} (S : Sx (lawC c L fl (V5 dm dh rows script) []) s₀ O s)
  (h1 : selfL rows ≠ [] → ∀ s', Sx (lawC c L fl (V5 dm dh rows script) []) s₀ O s' → wpAny (model c.prog c.w) (c.A.deeper (lawEnv L)) (execs (ifB 5) (lawEnv L)) (fun f s' => match f with | .next => False | f => Q f s') E s')
  (h2 : selfL rows = [] → ∀ s', Sx (lawC c L fl (V5 dm dh rows script) []) s₀ O s' → wpAny (model c.prog c.w) (c.A.deeper (lawEnv L)) (execs ((fBody 18).drop 6) (lawEnv L)) Q E s') :
  wpAny (model c.prog c.w) (c.A.deeper (lawEnv L)) (execs ((fBody 18).drop 5) (lawEnv L)) Q E s := by
 obtain hr' := hr.deeper (lawEnv L)
 refine ex_cons ?_
 refine ex_if S (b := decide (selfL rows ≠ [])) ?_ (fun hb s' S' => wpAny_mono (h1 (by simpa using hb) s' S') (fun f s'' hf => ?_) fun o_ o_ e => e) (fun hb s' S' => ex_nil (h2 (by simpa using hb) s' S'))
 ·refine et_cmp (ev_compA (l := List.range 6) (g := dI) (f := dI) (p := fun t => ((aheadF rows).getD t 0).testBit t) dI_inj ((src_range1 (n := 6) (Ob := []) hr' (ev_bi G rfl) ev_int (by omega)).as (range_dI 6)) rfl (fun q hq => nomatch hq) (fun t C Dd I ht => tests_one ?_) (fun t C Dd I ht o_ => ev_var rfl) (by decide)) (ev_list evs_nil (by decide)) (cmp_neS hr' (simp_dIs _) rfl (depth_dIs _) ?_)
  ·obtain ht6 : t < 6 := List.mem_range.mp ht
   obtain hl := ahead_len rows
   exact Et.as (et_int (ev_and (ev_shr (ev_item (x := dI ((aheadF rows).getD t 0)) (ev_var rfl) .val (ev_var rfl) (by omega) (by omega) (by rw [Int.toNat_natCast]; exact getD_dI (by omega))) (ev_var rfl) (by omega)) ev_int)) (bit_py _ _)
  ·simp [dIs, selfL]
 ·cases f <;> first | exact hf.elim | exact hf
noncomputable def refusedD : D := .list (ordL.map fun o_ => .str c3Msg)
noncomputable def mergesD (rows : List (List Nat)) : D := .list (ordL.map fun o => dNs (dueF rows o))
noncomputable def emptiesL : D := .list (ordL.map fun o_ => .list [.list [], .list [], .list []])
theorem msg_ok : PyData.strOk c3Msg = true := by decide +kernel
set_option maxHeartbeats 4000000 in
theorem law_no (hr : Room c.A (k + 6)) {dh : D} (S : Sx (lawC c L fl (V5 refusedD dh rows script) []) s₀ O s)
  (h : ∀ s', Sx (lawC c L fl (V5 refusedD dh rows script) []) s₀ O s' → Q (.ret (.bool true)) s') :
  wpAny (model c.prog c.w) (c.A.deeper (lawEnv L)) (execs (ifB 5) (lawEnv L)) Q E s := by
 obtain hr' := hr.deeper (lawEnv L)
 refine ex_cons ?_
 refine ex_return S (d := .bool true) (ev_cmp (ev_var rfl) (ev_times (d := .str c3Msg) (ev_list (evs_cons ev_str evs_nil) (by decide)) .val ev_int (by grind) (by grind)) (cmp_eqS hr' (simps_map (g := fun o_ => D.str c3Msg) (fun o_ => msg_ok) ordL) (simps_map (g := fun o_ => D.str c3Msg) (fun o_ => msg_ok) ordL) (by decide) ?_)) (fun s' v S' hv => ?_)
 ·exact ⟨fun o_ => rfl, fun o_ => rfl⟩
 ·cases hv; exact h s' S'
theorem three_of {as : List Addr} (h : as.length = 3) : emptiesD as = .list [.list [], .list [], .list []] := by
 match as, h with
 | [a, b, c], _ => rfl
set_option maxHeartbeats 4000000 in
theorem law_two (hr : Room c.A (k + 6)) (G : Gl c.hb) (H : RowsOk rows) {ass : List (List Addr)} {ct : Addr → List Str} (hnd : ass.flatten.Nodup) (hX : ∀ b ∈ ass.flatten, b ∉ homes (lawEnv L) ++ c.X) (hct : ass.map (·.map ct) = ordL.map (ordN rows))
  (S : Sx (lawC c L ass.flatten [("handed", .list (ass.map refsD)), ("orders", .list (ordL.map ordD)), ("ahead", dIs (aheadF rows)), ("rows", dRows rows), ("script", .list (script.map .int))] (ownM ass.flatten ct)) s₀ O s)
  (h1 : ∀ c' s', c'.hb = c.hb → Sx c' s₀ O s' → Q (.ret (.bool true)) s')
  (h2 : selfL rows = [] → ∀ s', Sx (lawC c L [] (V5 (mergesD rows) emptiesL rows script) []) s₀ O s' → wpAny (model c.prog c.w) (c.A.deeper (lawEnv L)) (execs ((fBody 18).drop 6) (lawEnv L)) Q E s') :
  wpAny (model c.prog c.w) (c.A.deeper (lawEnv L)) (execs ((fBody 18).drop 4) (lawEnv L)) Q E s := by
 obtain hr' := hr.deeper (lawEnv L)
 obtain hl6 : ass.length = 6 := by have := congrArg List.length hct; simpa [ordL] using this
 have hat : ∀ as ∈ ass, ∃ o ∈ ordL, as.map ct = ordN rows o := fun as ha => by
  obtain this : as.map ct ∈ ass.map (·.map ct) := List.mem_map.mpr ⟨as, ha, rfl⟩
  rw [hct] at this
  obtain ⟨o, ho, e⟩ := List.mem_map.mp this
  exact ⟨o, ho, e.symm⟩
 have has3 : ∀ as ∈ ass, as.length = 3 := fun as ha => by
  obtain ⟨o, ho, e⟩ := hat as ha
  have := congrArg List.length e
  simp only [List.length_map, ordN] at this
  rw [this]; exact (by decide : ∀ o ∈ ordL, o.length = 3) o ho
 have hin : ∀ a ∈ ass.flatten, ∃ r, rowOk r ∧ ct a = r.map nm := fun a ha => by
  obtain ⟨as, h1, h2⟩ := List.mem_flatten.mp ha
  obtain ⟨o, ho, e⟩ := hat as h1
  obtain this : ct a ∈ as.map ct := List.mem_map.mpr ⟨a, h2, rfl⟩
  rw [e, ordN_is] at this
  obtain ⟨r, hr, e2⟩ := List.mem_map.mp this
  exact ⟨r, H.ok r ((ordR_mem H ho).mp hr), e2.symm⟩
 have hlen : ∀ a ∈ ass.flatten, (ct a).length ≤ 6 := fun a ha => by
  obtain ⟨r, h1, e⟩ := hin a ha
  rw [e, List.length_map]; exact nodup_lt_len h1
 have hok : ∀ a ∈ ass.flatten, ∀ x ∈ ct a, PyData.strOk x = true := fun a ha x hx => by
  obtain ⟨r, h1, e⟩ := hin a ha
  rw [e] at hx
  obtain ⟨t, _, rfl⟩ := List.mem_map.mp hx
  have := simp_dN t
  exact this
 have hsz : ∀ as ∈ ass, c3len (as.map ct) ≤ 900 := fun as ha => by
  obtain h3 := has3 as ha
  have hm : ∀ a ∈ as, (ct a).length ≤ 6 := fun a hx => hlen a (List.mem_flatten.mpr ⟨as, ha, hx⟩)
  unfold c3len
  match as, h3 with
  | [a, b, d], _ =>
   obtain ha := hm a (.head _)
   obtain hb := hm b (.tail _ (.head _))
   obtain hd := hm d (.tail _ (.tail _ (.head _)))
   simp only [List.map_cons, List.map_nil, List.sum_cons, List.sum_nil]; grind
 have hmap : ∀ g : List (List Str) → D, (ass.map fun as => g (as.map ct)) = ordL.map fun o => g (ordN rows o) := fun g => by
  obtain e1 : (ass.map fun as => g (as.map ct)) = (ass.map (·.map ct)).map g := by rw [List.map_map]; rfl
  rw [e1, hct, List.map_map]; rfl
 have hfl : ∀ a ∈ ass.flatten, a ∈ ownA (lawC c L ass.flatten [("handed", .list (ass.map refsD)), ("orders", .list (ordL.map ordD)), ("ahead", dIs (aheadF rows)), ("rows", dRows rows), ("script", .list (script.map .int))] (ownM ass.flatten ct)) := fun a ha => by
  show a ∈ (ownM ass.flatten ct).map (·.1)
  rw [ownM_keys]; exact ha
 refine ex_cons ?_
 by_cases hc : selfL rows = []
 ·obtain hac := self_none H hc
  obtain hR : ∀ as ∈ ass, c3R as ct ≠ none := fun as ha => by
   obtain ⟨o, ho, e⟩ := hat as ha
   unfold c3R; rw [e, c3_yes H hac ho]; nofun
  obtain hm : (ass.map fun as => mergedD (c3R as ct)) = ordL.map fun o => dNs (dueF rows o) := by
   refine (hmap fun g => mergedD (c3F (c3len g + 1) g)).trans (List.map_congr_left fun o ho => ?_)
   rw [c3_yes H hac ho]
   show D.list _ = _
   unfold dNs; rw [List.map_map]; rfl
  refine ex_merges (ass := ass) (ct := ct) (own := fun i => ownM ass.flatten (ctI ass ct i)) (hb₀ := c.hb) S hr' G (by rw [ctI_zero]) (src_list hr' (ev_var rfl)) hnd hfl (step_told hnd hR) (fun i q hq => ?_) (by rw [ownM_keys]; exact hnd) hok hsz (fun a ha => Nat.le_trans (hlen a ha) (by grind)) (fun as ha => by rw [has3 as ha]; grind) (by grind) (fun s' S' => ?_)
   (by rfl) (fun i d C Dd I => ev_gl G rfl) (fun C => rfl) (fun C => rfl) (fun C => rfl) (fun C => rfl) (by decide) (by decide) (by rfl) (by rfl) (by rfl)
  ·obtain ⟨b, hb, rfl⟩ := List.mem_map.mp hq
   exact hfl b hb
  ·dsimp only at S'
   rw [hm, ownM_end] at S'
   refine law_if5 hr G (fl := []) (Sx.release (c := lawC c L [] [("merges", mergesD rows), ("handed", .list (ass.map refsD)), ("orders", ordsD), ("ahead", dIs (aheadF rows)), ("rows", dRows rows), ("script", scD script)] []) S' (fun a ha => List.mem_append_right _ (List.mem_append_left _ ha)) hX fun y d hy => ?_) (fun hn => absurd hc hn) h2
   by_cases hyh : y = "handed"
   ·subst hyh
    refine .inr ⟨ass, fun a ha => ha, rfl, ?_⟩
    obtain this : d = emptiesL := by cases hy; rfl
    rw [this]
    unfold emptiesL
    congr 1
    obtain e3 : ass.map emptiesD = ass.map fun o_ => D.list [.list [], .list [], .list []] := List.map_congr_left fun as ha => three_of (has3 as ha)
    rw [e3]
    exact (hmap fun o_ => D.list [.list [], .list [], .list []]).symm
   ·left
    rw [← hy]
    simp only [List.lookup_cons, List.lookup_nil]
    obtain this : (y == "handed") = false := by simpa using hyh
    simp only [this]
 ·obtain hm : (ass.map fun as => mergedD (c3R as ct)) = ordL.map fun o_ => .str c3Msg := by
   refine (hmap fun g => mergedD (c3F (c3len g + 1) g)).trans (List.map_congr_left fun o ho => ?_)
   rw [c3_no H hc ho]; rfl
  refine ex_merges (ass := ass) (ct := ct) (own := fun i => ownM (ass.drop i).flatten ct) (hb₀ := c.hb) S hr' G rfl (src_list hr' (ev_var rfl)) hnd hfl (step_refused hnd) (fun i q hq => ?_) (by rw [List.drop_length]; exact List.nodup_nil) hok hsz (fun a ha => Nat.le_trans (hlen a ha) (by grind)) (fun as ha => by rw [has3 as ha]; grind) (by grind) (fun s' S' => ?_)
   (by rfl) (fun i d C Dd I => ev_gl G rfl) (fun C => rfl) (fun C => rfl) (fun C => rfl) (fun C => rfl) (by decide) (by decide) (by rfl) (by rfl) (by rfl)
  ·obtain ⟨b, hb, rfl⟩ := List.mem_map.mp hq
   refine hfl b ?_
   obtain ⟨as, h1, h2⟩ := List.mem_flatten.mp hb
   exact List.mem_flatten.mpr ⟨as, List.mem_of_mem_drop h1, h2⟩
  ·dsimp only at S'
   rw [hm, List.drop_length] at S'
   exact law_if5 hr G S' (fun o_ s₂ S₂ => law_no hr S₂ fun s₃ S₃ => h1 _ s₃ (by rfl) S₃) (fun hn => absurd hn hc)
end
end Mine
end
section
open PySem PySem.W PyProof.Rows
namespace Mine
open PySem.Calls
noncomputable def duesL (rows : List (List Nat)) : List (List Nat) := ordL.map (dueF rows)
noncomputable def dueD (rows : List (List Nat)) : D := .list ((duesL rows).map dIs)
theorem mergesD_is (rows : List (List Nat)) : mergesD rows = .list ((duesL rows).map dNs) := by unfold mergesD duesL; rw [List.map_map]; rfl
theorem depth_of {l : List D} {n : Nat} (h : PyData.depthAll (D.pys l) ≤ n) (hn : n ≤ 50) : (D.list l).py.depth ≤ 60 := by dsimp only [D.py, PyData.depth]; grind
theorem depth_dNs (l : List Nat) : (dNs l).py.depth ≤ 20 := by
 obtain this := depth_map (g := dN) (n := 2) (fun t => by simp [dN, D.py, PyData.depth]) l
 dsimp only [dNs, D.py, PyData.depth]; grind
theorem depth_dNss (l : List (List Nat)) : (D.list (l.map dNs)).py.depth ≤ 60 := depth_of (depth_map depth_dNs l) (by grind)
noncomputable abbrev V6 (rows : List (List Nat)) (script : List Int) : List (Str × D) := ("due", dueD rows) :: V5 (mergesD rows) emptiesL rows script
section
variable {c : Cx} {k : Nat} {rows : List (List Nat)} {script : List Int} {L : Addr} {s₀ s : Shared} {O : List Addr} {Q : Flow → Shared → Prop} {E : Value → Shared → Prop}
theorem ranked_ord {c : Cx} {k : Nat} (hr : Room c.A (k + 1)) {hb₀ : Heap} (G : Gl hb₀) {rows : List (List Nat)} (H : RowsOk rows) (hac : ∀ t, ¬ Lt rows t t) {o : List Nat} (ho : o ∈ ordL) (hh : c.hb = hb₀ := by rfl) :
  CallP c (.ref 88) [.list (o.map fun k => dIs (rows.getD k [])), dIs (aheadF rows)] (dIs (dueF rows o)) := by
 have h3 : o.length = 3 := (by decide : ∀ o ∈ ordL, o.length = 3) o ho
 obtain h6 := flat6 (h6_ord H ho)
 obtain hl : (ordR rows o).flatten.length ≤ 1000 := by
  have : ∀ r ∈ ordR rows o, r.length ≤ 6 := fun r hr => nodup_lt_len (H.ok r ((ordR_mem H ho).mp hr))
  have h3' : (ordR rows o).length = 3 := by unfold ordR; rw [List.length_map, h3]
  generalize ordR rows o = z at this h3' ⊢
  match z, h3' with
  | [a, b, d], _ =>
   obtain ha := this a (.head _)
   obtain hb := this b (.tail _ (.head _))
   obtain hd := this d (.tail _ (.tail _ (.head _)))
   simp only [List.flatten_cons, List.flatten_nil, List.length_append, List.length_nil]; grind
 match o, h3 with
 | [x, y, z], _ =>
  obtain e : (ordR rows [x, y, z]).flatten = rows.getD x [] ++ rows.getD y [] ++ rows.getD z [] := by simp [ordR]
  exact ranked_spec hr G e.symm h6 hl (ahead_len rows) (fun left hne o_ => free_ord H hac hne) hh
set_option maxHeartbeats 4000000 in
theorem law_due (hr : Room c.A (k + 6)) (G : Gl c.hb) (H : RowsOk rows) (hac : ∀ t, ¬ Lt rows t t) (S : Sx (lawC c L [] (V5 (mergesD rows) emptiesL rows script) []) s₀ O s)
  (h : ∀ s', Sx (lawC c L [] (V6 rows script) []) s₀ O s' → wpAny (model c.prog c.w) (c.A.deeper (lawEnv L)) (execs ((fBody 18).drop 7) (lawEnv L)) Q E s') :
  wpAny (model c.prog c.w) (c.A.deeper (lawEnv L)) (execs ((fBody 18).drop 6) (lawEnv L)) Q E s := by
 obtain hr' := hr.deeper (lawEnv L)
 obtain hl3 := H.l3
 refine ex_cons ?_
 refine ex_assign S (ev_compA (l := ordL) (g := ordD) (f := fun o => dIs (dueF rows o)) (p := fun o_ => true) ordD_inj (src_list hr' (ev_var rfl)) rfl (fun q hq => nomatch hq) (fun o C Dd I ho => tests_nil) (fun o C Dd I ho o_ => ?_) (by decide)) (fun s' S' => h s' ?_) rfl rfl rfl
 ·obtain ho3 : ∀ k ∈ o, k < 3 := (by decide : ∀ o ∈ ordL, ∀ k ∈ o, k < 3) o ho
  obtain hol : o.length = 3 := (by decide : ∀ o ∈ ordL, o.length = 3) o ho
  refine ev_call (ev_gl G rfl) (evs_cons (ev_compA (l := o) (g := dI) (f := fun k => dIs (rows.getD k [])) (p := fun o_ => true) dI_inj (src_tup (ds := o.map dI) hr' (ev_var rfl)) rfl (fun q hq => nomatch hq) (fun k C2 D2 I2 hk => tests_nil) (fun k C2 D2 I2 hk o_ => ?_) (by grind)) (evs_cons (ev_var rfl) evs_nil)) (FnAt.kpr (G.fn 15 88 (by simp))) ?_
  ·refine ev_item (k := (k : Int)) (ev_var rfl) .val (ev_var rfl) (by grind) (by have := ho3 k hk; grind) ?_
   rw [Int.toNat_natCast, List.getElem?_map, List.getD_eq_getElem?_getD, List.getElem?_eq_getElem (by have := ho3 k hk; grind)]; rfl
  ·rw [List.filter_eq_self.mpr (fun o_ o_ => rfl)]
   exact ranked_ord hr' G H hac ho
 ·obtain e : dueD rows = .list ((ordL.filter fun o_ => true).map fun o => dIs (dueF rows o)) := by
   unfold dueD duesL; rw [List.filter_eq_self.mpr (fun o_ o_ => rfl), List.map_map]; rfl
  dsimp only [V6]
  rw [e]
  exact S'
set_option maxHeartbeats 4000000 in
theorem law_if7 (hr : Room c.A (k + 6)) (G : Gl c.hb) (H : RowsOk rows) (hac : ∀ t, ¬ Lt rows t t) (S : Sx (lawC c L [] (V6 rows script) []) s₀ O s)
  (h : ∀ s', Sx (lawC c L [] (V6 rows script) []) s₀ O s' → wpAny (model c.prog c.w) (c.A.deeper (lawEnv L)) (execs ((fBody 18).drop 8) (lawEnv L)) Q E s') :
  wpAny (model c.prog c.w) (c.A.deeper (lawEnv L)) (execs ((fBody 18).drop 7) (lawEnv L)) Q E s := by
 obtain hr' := hr.deeper (lawEnv L)
 have hd6 : ∀ one ∈ duesL rows, (∀ t ∈ one, t < 6) ∧ one.length ≤ 6 := fun one ho => by
  obtain ⟨o, ho', rfl⟩ := List.mem_map.mp ho
  exact ⟨due_lt H hac ho', due_len H hac ho'⟩
 refine ex_cons ?_
 refine ex_if S (b := false || (false || false)) (et_or (et_cmp (ev_var rfl) (ev_compA (l := duesL rows) (g := dIs) (f := dNs) (p := fun o_ => true) dIs_inj (src_list hr' (ev_var rfl)) rfl (fun q hq => nomatch hq) (fun one C Dd I ho => tests_nil) (fun one C Dd I ho o_ => ?_) (by unfold duesL; rw [List.length_map]; decide)) (cmp_neS hr' ?_ ?_ ?_ ?_)) (fun o_ => et_or (et_cmp (ev_var rfl) (ev_compA (l := ordL) (g := ordD) (f := fun o_ => .list [.list [], .list [], .list []]) (p := fun o_ => true) ordD_inj (src_list hr' (ev_var rfl)) rfl (fun q hq => nomatch hq) (fun o C Dd I ho => tests_nil) (fun o C Dd I ho o_ => ?_) (by decide)) (cmp_neS hr' ?_ ?_ ?_ ?_)) (fun o_ => et_or_nil))) (fun hb => nomatch hb) (fun o_ s' S' => ex_nil (h s' S'))
 ·exact ev_call (ev_gl G rfl) (evs_cons (ev_var rfl) evs_nil) (FnAt.kpr (G.fn 17 100 (by simp))) (named_spec hr' G (hd6 one ho).1 (Nat.le_trans (hd6 one ho).2 (by grind)))
 ·rw [mergesD_is]; exact simps_map simp_dNs _
 ·exact simps_map simp_dNs _
 ·rw [mergesD_is]; exact depth_dNss _
 ·rw [mergesD_is, List.filter_eq_self.mpr (fun o_ o_ => rfl)]; simp
 ·exact ev_list (evs_cons (ev_list evs_nil (by decide)) (evs_cons (ev_list evs_nil (by decide)) (evs_cons (ev_list evs_nil (by decide)) evs_nil))) (by decide)
 ·exact simps_map (g := fun o_ => D.list [.list [], .list [], .list []]) (fun o_ => rfl) ordL
 ·exact simps_map (g := fun o_ => D.list [.list [], .list [], .list []]) (fun o_ => rfl) _
 ·decide
 ·rw [List.filter_eq_self.mpr (fun o_ o_ => rfl)]; simp [emptiesL]
end
end Mine
end
section
open PySem PySem.W PyProof.Rows
namespace Mine
open PySem.Calls
structure Lc (c : Cx) (L : Addr) : Prop where
 hA : c.A = callerA
 sys : ∃ o, c.hb.get? sysModules = some o
 x16 : 16 ∈ c.X
 x102 : 102 ∈ c.X
 b16 : c.hb.get? 16 = none
 b102 : c.hb.get? 102 = none
 h16 : 16 ∉ homes (lawEnv L)
 h102 : 102 ∉ homes (lawEnv L)
 f16 : 16 ∉ framesOf (c.A.deeper (lawEnv L))
 f102 : 102 ∉ framesOf (c.A.deeper (lawEnv L))
 code : CodeAt c.hb 104 102
 red : ReduceAt c.hb
 ded : DedupAt c.hb
structure Tb (sI : Shared) (p16 p102 : Array Value) (s₀ : Shared) (O : List Addr) : Prop where
 rest : ∃ h tk, s₀ = { sI with heap := h, toks := tk }
 t16 : s₀.heap.get? 16 = some (tabObj p16)
 t102 : s₀.heap.get? 102 = some (tabObj p102)
 n16 : 16 ∉ O
 n102 : 102 ∉ O
theorem notFrame_tab {ps : Array Value} : notFrame (tabObj ps) := fun o_ o_ h => by cases h
theorem Kp.restTo {hb : Heap} {O : List Addr} {sI s s' : Shared} (k : Kp hb O s s') (h : ∃ h tk, s = { sI with heap := h, toks := tk }) : ∃ h tk, s' = { sI with heap := h, toks := tk } := by
 obtain ⟨h1, t1, rfl⟩ := h
 obtain ⟨h2, t2, rfl⟩ := k.rest
 exact ⟨h2, t2, rfl⟩
theorem Tb.now {sI : Shared} {p16 p102 : Array Value} {s₀ s : Shared} {O : List Addr} {hb : Heap} (T : Tb sI p16 p102 s₀ O) (k : Kp hb O s₀ s) : Tb sI p16 p102 s O :=
 ⟨k.restTo T.rest, k.get T.t16 notFrame_tab T.n16, k.get T.t102 notFrame_tab T.n102, T.n16, T.n102⟩
theorem Tb.to {sI : Shared} {p16 p102 : Array Value} {s₀ : Shared} {O O' : List Addr} (T : Tb sI p16 p102 s₀ O) (h : 16 ∉ O') (h' : 102 ∉ O') : Tb sI p16 p102 s₀ O' := ⟨T.rest, T.t16, T.t102, h, h'⟩
section
variable {c : Cx} {s₀ s s' : Shared} {O : List Addr} {P : Addr}
theorem Sx.jump (S : Sx c s₀ O s) (k : Kp c.hb [P] s s') (o : Ok c s') (hP : P ∉ homes c.env) : Sx c s' (mine c) s' :=
 ⟨o, Kp.refl _ _ _, fun o_ ha => .inl ha, S.hx, S.offs, S.nd, S.fr.kp k fun a ha hm => hP (by rw [List.mem_singleton.mp hm] at ha; exact ha), S.cap⟩
theorem Sx.isNew {a : Addr} (S : Sx c s₀ O s) (h : s.heap.get? a = none) : a ∉ c.X ∧ a ∉ framesOf c.A := ⟨(S.freshAddr h).1, (S.freshAddr h).2.2.2.1⟩
theorem ReduceAt.up {hb hb' : Heap} (R : ReduceAt hb) (k : ∀ b o, hb.get? b = some o → hb'.get? b = some o) (nl : hb'.NoLimit) : ReduceAt hb' := by
 obtain ⟨dV, kV, F, h⟩ := R
 obtain ⟨fo, name, doc, pm, an, ct, e, d⟩ := F.obj
 refine ⟨dV, kV, ⟨⟨fo, name, doc, pm, an, ct, k _ _ e, d⟩, F.code.at fun o => k _ o, nl⟩, fun s v u name doc pm an ct st => h s v u name doc pm an ct fun b o e => st b o (k b o e)⟩
theorem Gl.nl {hb : Heap} (G : Gl hb) : hb.NoLimit := by
 obtain ⟨_, _, N, _⟩ := G.names; exact N.nolimit
end
noncomputable abbrev wholeL (rows : List (List Nat)) : List Str := rows.flatten.map nm
noncomputable abbrev V8 (rows : List (List Nat)) (script : List Int) : List (Str × D) := ("whole", dStrs (wholeL rows)) :: V6 rows script
theorem flat_len {rows : List (List Nat)} (H : RowsOk rows) : rows.flatten.length ≤ 18 := by
 obtain h3 := H.l3
 obtain h6 : ∀ r ∈ rows, r.length ≤ 6 := fun r hr => nodup_lt_len (H.ok r hr)
 match rows, h3 with
 | [a, b, d], _ =>
  obtain ha := h6 a (.head _)
  obtain hb := h6 b (.tail _ (.head _))
  obtain hd := h6 d (.tail _ (.tail _ (.head _)))
  simp only [List.flatten_cons, List.flatten_nil, List.length_append, List.length_nil]; grind
theorem cat_whole {rows : List (List Nat)} {l0 : List D} {ls : List (List D)} (e : l0 :: ls = rows.map (·.map dN)) : D.list (catTo (l0 :: ls) (ls.length + 1)) = dStrs (wholeL rows) := by
 unfold catTo
 rw [show ls.length + 1 = (l0 :: ls).length from rfl, List.take_length, e]
 unfold dStrs wholeL
 rw [List.map_map, List.map_flatten]; rfl
section
variable {c : Cx} {k : Nat} {rows : List (List Nat)} {script : List Int} {L : Addr} {s₀ s sI : Shared} {O : List Addr} {Q : Flow → Shared → Prop} {E : Value → Shared → Prop}
set_option maxHeartbeats 4000000 in
theorem law_whole (hr : Room c.A (k + 6)) (G : Gl c.hb) (K : Lc c L) (H : RowsOk rows) (T : Tb sI #[] #[] s₀ O) (S : Sx (lawC c L [] (V6 rows script) []) s₀ O s)
  (h : ∀ s₁ s' c', Tb sI #[] #[rawInt 138, rawInt 19, .ref c'] s₁ (mine (lawC c L [] (V8 rows script) [])) → Sx (lawC c L [] (V8 rows script) []) s₁ (mine (lawC c L [] (V8 rows script) [])) s' →
   wpAny (model c.prog c.w) (c.A.deeper (lawEnv L)) (execs ((fBody 18).drop 9) (lawEnv L)) Q E s') :
  wpAny (model c.prog c.w) (c.A.deeper (lawEnv L)) (execs ((fBody 18).drop 8) (lawEnv L)) Q E s := by
 have hr' := hr.deeper (lawEnv L)
 have hl3 := H.l3
 obtain ⟨dV, kV, FR, _⟩ := K.red
 have hm16 : 16 ∉ mine (lawC c L [] (V6 rows script) []) := fun hm => (List.mem_append.mp hm).elim K.h16 (fun z => nomatch z)
 have hm102 : 102 ∉ mine (lawC c L [] (V6 rows script) []) := fun hm => (List.mem_append.mp hm).elim K.h102 (fun z => nomatch z)
 refine ex_cons ?_
 refine wpAny_Assign_Name (Call_Name rfl (wpAny_mono ((ev_gl G rfl : Ev (lawC c L [] (V6 rows script) []) (.Name "reduce" _) (.val (.ref 30))) s _ S.ok) (fun f' s₁ h₁ => ?_) fun o_ o_ e => e)) rfl
 obtain ⟨k₁, rfl⟩ := h₁
 have S₁ := S.step k₁
 have T₁ := T.now S₁.kp
 have hoff : Off (lawC c L [] (V6 rows script) []) [102] :=
  ⟨fun a ha => by rw [List.mem_singleton.mp ha]; exact List.mem_append_right _ (List.mem_append_right _ K.x102), fun a ha => by rw [List.mem_singleton.mp ha]; exact K.h102, fun a ha => by rw [List.mem_singleton.mp ha]; exact K.b102, fun a ha => by rw [List.mem_singleton.mp ha]; exact K.f102⟩
 refine callWith_any (c := lawC c L [] (V6 rows script) []) (R := fun vs s' => ∃ lam c' pm ctv v sJ, vs = [.ref lam, v] ∧ Tb sI #[] #[rawInt 138, rawInt 19, .ref c'] sJ (mine (lawC c L [] (V6 rows script) [])) ∧ Sx (lawC c L [] (V6 rows script) []) sJ (mine (lawC c L [] (V6 rows script) [])) s' ∧
   s₁.heap.get? lam = none ∧ s₁.heap.get? c' = none ∧ s'.heap.get? lam = some (kla_obj "<lambda>" ((lawEnv L).qual ++ "<lambda>") (lamP 8) (lamB 8) (lamS 8) [] pm c' ctv) ∧ s'.heap.CodeRec (.ref c') ((lawEnv L).qual ++ "<lambda>") ∧
   Rep (lawC c L [] (V6 rows script) []).X s'.heap (.list (rows.map dNs)) v) S₁.ok (FnAt.kpr FR) ?_ (fun s₂ vs o₂ hR => ?_) rfl rfl
 ·refine spliced_more (lam_at (c := lawC c L [] (V6 rows script) []) S₁.ok K.code hoff T₁.t102 trivial rfl rfl rfl rfl (fun x hx hf => by rcases hx with _ | ⟨_, _ | ⟨_, hx⟩⟩ <;> first | cases hf | cases hx) (fun lam c' ctv pm s₂ k₂ o₂ n1 n2 hne hl hcr ht => ?_)) rfl
  have S₂ := S₁.jump k₂ o₂ K.h102
  have T₂ : Tb sI #[] #[rawInt 138, rawInt 19, .ref c'] s₂ (mine (lawC c L [] (V6 rows script) [])) := ⟨k₂.restTo T₁.rest, k₂.get T₁.t16 notFrame_tab (by decide), ht, hm16, hm102⟩
  refine spliced_more (wpAny_mono ((?_ : Ev (lawC c L [] (V6 rows script) []) _ (.list ((rows.filter fun o_ => true).map dNs))) s₂ _ S₂.ok) (fun v s₃ q₃ => ?_) fun o_ o_ e => e) rfl
  ·refine ev_compA (l := rows) (g := dIs) (f := dNs) (p := fun o_ => true) dIs_inj (src_list hr' (ev_var rfl)) rfl (fun q hq => nomatch hq) (fun r C Dd I hr => tests_nil) (fun r C Dd I hrr o_ => ?_) (by grind)
   exact ev_call (ev_gl G rfl) (evs_cons (ev_var rfl) evs_nil) (FnAt.kpr (G.fn 17 100 (by simp))) (named_spec hr' G (H.ok r hrr).1 (Nat.le_trans (nodup_lt_len (H.ok r hrr)) (by grind)))
  ·obtain ⟨k₃, r₃⟩ := q₃
   rw [List.filter_eq_self.mpr (fun o_ o_ => rfl)] at r₃
   have S₃ := S₂.step k₃
   refine spliced_none ⟨S₃.ok, lam, c', pm, ctv, v, s₂, rfl, T₂, S₃, n1, n2, ?_, ?_, r₃⟩
   ·exact k₃.get hl (fun o_ o_ z => by cases z) (fun h => nomatch h)
   ·obtain ⟨cc, oc, vs, t, e1, e2, e3, e4⟩ := hcr
    exact ⟨cc, oc, vs, t, e1, k₃.get e2 (fun o_ o_ z => by cases e3.symm.trans z) (fun h => nomatch h), e3, e4⟩
 ·obtain ⟨lam, c', pm, ctv, v, sJ, rfl, T₂, S₂, n1, n2, hl, hcr, hv⟩ := hR
  have S₃ := S₂.freeze
  have up : ∀ b o, c.hb.get? b = some o → (baseOf (lawC c L [] (V6 rows script) []) s₂.heap).get? b = some o := fun b o e => baseOf_old (c := lawC c L [] (V6 rows script) []) S₂.ok.base e
  have G₃ := G.up up
  have hl' := baseOf_new hl (S₁.isNew n1).1 (S₁.isNew n1).2
  have hcr' := hcr.at (h' := baseOf (lawC c L [] (V6 rows script) []) s₂.heap) fun o e => baseOf_new e (S₁.isNew n2).1 (S₁.isNew n2).2
  obtain ⟨l0, ls, els⟩ : ∃ l0 ls, rows.map (·.map dN) = l0 :: ls := by
   match rows, hl3 with
   | a :: r, _ => exact ⟨_, _, rfl⟩
  have eD : D.list (rows.map dNs) = .list ((l0 :: ls).map .list) := by rw [← els, List.map_map]; rfl
  have hsum : ((l0 :: ls).map List.length).sum = rows.flatten.length := by
   rw [← els, List.map_map, List.length_flatten]; congr 1; exact List.map_congr_left fun r o_ => List.length_map ..
  have hfl := flat_len H
  have hll : ls.length ≤ 100 := by have := congrArg List.length els; rw [List.length_map, List.length_cons] at this; grind
  have C := reduce_call (c := { lawC c L [] (V6 rows script) [] with hb := baseOf (lawC c L [] (V6 rows script) []) s₂.heap }) (k := k + 3) hr' G₃ (K.red.up up G₃.nl) G₃.nl hl' hcr' (l0 := l0) (ls := ls) (by grind) hll
  refine wpAny_mono (C s₂ E [.ref lam, v] S₃.ok ⟨_, _, rfl, rfl, _, _, rfl, eD ▸ hv, rfl⟩) (fun w s₄ q₄ => ?_) fun o_ o_ e => e
  obtain ⟨k₄, r₄⟩ := q₄
  have S₄ := (S₃.step k₄).hbDown (hb := c.hb) up
  have S₅ := S₂.back S₄ rfl
  rw [cat_whole els.symm] at r₄
  exact st_name (c := lawC c L [] (V6 rows script) []) S₅ rfl (mayBind_of rfl) r₄ fun s₆ S₆ => h sJ s₆ c' T₂ S₆
end
end Mine
end
section
open PySem PySem.W PyProof.Rows
namespace Mine
open PySem.Calls
theorem simp_dStrs {l : List Str} (h : ∀ x ∈ l, PyData.strOk x = true) : (dStrs l).simp = true := simp_str h
theorem depth_dStrs (l : List Str) : (dStrs l).py.depth ≤ 20 := by
 obtain this := depth_map (g := D.str) (n := 2) (fun t => by simp [D.py, PyData.depth]) l
 dsimp only [dStrs, D.py, PyData.depth]; grind
theorem depth_two (a b : List Str) : (D.tup [dStrs a, dStrs b]).py.depth ≤ 60 := by
 obtain h1 := depth_dStrs a
 obtain h2 := depth_dStrs b
 dsimp only [D.py, D.pys, PyData.depth, PyData.depthAll] at *; grind
theorem nms_ok {l : List Nat} : ∀ x ∈ l.map nm, PyData.strOk x = true := fun x hx => by
 obtain ⟨t, _, rfl⟩ := List.mem_map.mp hx
 exact simp_dN t
theorem getD_str {l : List Str} {i : Nat} (h : i < l.length) : (l.map D.str)[i]? = some (.str (l.getD i "")) := by
 rw [List.getElem?_map, List.getD_eq_getElem?_getD, List.getElem?_eq_getElem h]; rfl
theorem dStrs_inj {a b : List Str} (h : dStrs a = dStrs b) : a = b := by
 unfold dStrs at h; injection h with h; exact map_inj str_inj _ _ h
noncomputable abbrev V10 (rows : List (List Nat)) (script : List Int) : List (Str × D) := ("lost", dStrs (lostF (wholeL rows))) :: V8 rows script
noncomputable abbrev V11 (rows : List (List Nat)) (script : List Int) : List (Str × D) := ("over", dStrs (overF (wholeL rows))) :: V10 rows script
section
variable {c : Cx} {k : Nat} {rows : List (List Nat)} {script : List Int} {L : Addr} {s₀ s : Shared} {O : List Addr} {Q : Flow → Shared → Prop} {E : Value → Shared → Prop}
theorem whole_len (H : RowsOk rows) : (wholeL rows).length ≤ 18 := by rw [List.length_map]; exact flat_len H
set_option maxHeartbeats 4000000 in
theorem law_if9 (hr : Room c.A (k + 6)) (G : Gl c.hb) (H : RowsOk rows) (S : Sx (lawC c L [] (V8 rows script) []) s₀ O s)
  (h : ∀ s', Sx (lawC c L [] (V8 rows script) []) s₀ O s' → wpAny (model c.prog c.w) (c.A.deeper (lawEnv L)) (execs ((fBody 18).drop 10) (lawEnv L)) Q E s') :
  wpAny (model c.prog c.w) (c.A.deeper (lawEnv L)) (execs ((fBody 18).drop 9) (lawEnv L)) Q E s := by
 obtain hr' := hr.deeper (lawEnv L)
 obtain hl3 := H.l3
 obtain hfl := flat_len H
 obtain h6 := flat6 (h6_of H)
 obtain ⟨a, b, d, rfl⟩ : ∃ a b d, rows = [a, b, d] := by
  match rows, hl3 with
  | [a, b, d], _ => exact ⟨a, b, d, rfl⟩
 have e : [a, b, d].flatten = a ++ b ++ d := by simp
 obtain hl : a.length + b.length + d.length ≤ 18 := by rw [e] at hfl; simpa [Nat.add_assoc] using hfl
 refine ex_cons ?_
 refine ex_if S (b := false) (et_cmp (dr := dNs [a, b, d].flatten) (ev_var rfl) (ev_call (ev_gl G rfl) (evs_cons ((ev_cat (ev_cat (ev_item (k := 0) (ds := [dIs a, dIs b, dIs d]) (ev_var rfl) .val ev_int (by grind) (by grind) rfl) .val (ev_item (k := 1) (ds := [dIs a, dIs b, dIs d]) (ev_var rfl) .val ev_int (by grind) (by grind) rfl) .val (by simp; unfold sizeLine; grind)) .val (ev_item (k := 2) (ds := [dIs a, dIs b, dIs d]) (ev_var rfl) .val ev_int (by grind) (by grind) rfl) .val (by simp; unfold sizeLine; grind)).weak (d' := dIs [a, b, d].flatten) (by rw [e]; simp [dIs])) evs_nil) (FnAt.kpr (G.fn 17 100 (by simp))) (named_spec hr' G h6 (by grind))) (cmp_neS hr' (simp_dStrs nms_ok) (simp_dNs _) (by have := depth_dStrs (wholeL [a, b, d]); grind) ?_)) (fun hb => nomatch hb) (fun o_ s' S' => ex_nil (h s' S'))
 rw [dNs_strs]; simp
set_option maxHeartbeats 4000000 in
theorem law_lost (hr : Room c.A (k + 6)) (G : Gl c.hb) (H : RowsOk rows) (S : Sx (lawC c L [] (V8 rows script) []) s₀ O s)
  (h : ∀ s', Sx (lawC c L [] (V10 rows script) []) s₀ O s' → wpAny (model c.prog c.w) (c.A.deeper (lawEnv L)) (execs ((fBody 18).drop 11) (lawEnv L)) Q E s') :
  wpAny (model c.prog c.w) (c.A.deeper (lawEnv L)) (execs ((fBody 18).drop 10) (lawEnv L)) Q E s := by
 obtain hr' := hr.deeper (lawEnv L)
 obtain hfl := whole_len H
 obtain hok : ∀ x ∈ wholeL rows, PyData.strOk x = true := nms_ok
 obtain hml : ((wholeL rows).map D.str).length = (wholeL rows).length := List.length_map ..
 refine ex_cons ?_
 generalize hn : (wholeL rows).length = n at *
 have hsz : Builtin.Range.rangeSize ((n : Int) - 1) (-1) (-1) = n := by
  unfold Builtin.Range.rangeSize
  rw [if_neg (by grind)]
  obtain e1 : (-(-1) : Int) = 1 := rfl
  rw [e1, Int.ediv_one]
  split <;> grind
 refine ex_compA (l := List.range n) (g := fun (i : Nat) => .int ((n : Int) - 1 + i * (-1))) (f := fun (i : Nat) => .str ((wholeL rows).getD (n - 1 - i) "")) (p := fun (i : Nat) => decide ((wholeL rows).getD (n - 1 - i) "" ∈ (wholeL rows).drop (n - 1 - i + 1))) (fun x y q => by injection q with q; grind) S
  (src_range3 (n := n) (Ob := []) hr' (ev_bi G rfl) (ev_sub (ev_len (n := n) (ev_bi G rfl) (ev_var rfl) .val hml (by grind)) ev_int) (ev_neg ev_int) (ev_neg ev_int) ?_ ?_) (fun i C Dd I hi => tests_one ?_) (fun i C Dd I hi o_ => ?_) (by rw [List.length_range]; grind) (fun s' S' => h s' ?_) rfl rfl rfl rfl
 ·have fits : ∀ z : Int, -1000 ≤ z → z ≤ 1000 → Builtin.Range.rangeFitsLong z = true := fun z h1 h2 => by
   unfold Builtin.Range.rangeFitsLong; simp; grind
  unfold Builtin.Range.small
  simp only [hsz, fits ((n : Int) - 1) (by grind) (by grind), fits (-1) (by grind) (by grind), fits n (by grind) (by grind), Bool.and_self]
  rw [if_neg (by grind), fits (-1 + (-1 + 1)) (by grind) (by grind), Bool.or_true]; rfl
 ·exact hsz
 ·obtain hi' := List.mem_range.mp hi
  obtain ek : ((n : Int) - 1 + i * (-1)).toNat = n - 1 - i := by grind
  refine et_cmp (ev_item (ds := (wholeL rows).map .str) (k := (n : Int) - 1 + i * (-1)) (x := .str ((wholeL rows).getD (n - 1 - i) "")) (ev_var rfl) .val (ev_var rfl) (by grind) (by grind) (by rw [ek]; exact getD_str (by grind))) (ev_slice_from (ds := (wholeL rows).map .str) (k := n - 1 - i + 1) (ev_var rfl) .val ((ev_add (ev_var (d := .int ((n : Int) - 1 + i * (-1))) rfl) (ev_int (i := 1))).weak (by congr 1; grind)) (by rw [hml]; unfold sizeLine; grind)) (cmp_inS hr' .val (hok _ (mem_getD' (by grind))) ?_ (depth_str _) ?_)
  ·rw [← List.map_drop (f := D.str)]; exact simp_str fun x hx => hok x (List.mem_of_mem_drop hx)
  ·rw [← List.map_drop (f := D.str), mem_map_inj str_inj]; simp
 ·obtain hi' := List.mem_range.mp hi
  obtain ek : ((n : Int) - 1 + i * (-1)).toNat = n - 1 - i := by grind
  exact ev_item (ds := (wholeL rows).map .str) (k := (n : Int) - 1 + i * (-1)) (x := .str ((wholeL rows).getD (n - 1 - i) "")) (ev_var rfl) .val (ev_var rfl) (by grind) (by grind) (by rw [ek]; exact getD_str (by grind))
 ·obtain e : dStrs (lostF (wholeL rows)) = .list (((List.range n).filter fun i => decide ((wholeL rows).getD (n - 1 - i) "" ∈ (wholeL rows).drop (n - 1 - i + 1))).map fun i => .str ((wholeL rows).getD (n - 1 - i) "")) := by
   unfold dStrs lostF; rw [List.map_map, hn]; rfl
  dsimp only [V10]; rw [e]; exact S'
set_option maxHeartbeats 4000000 in
theorem law_over (hr : Room c.A (k + 6)) (G : Gl c.hb) (H : RowsOk rows) (S : Sx (lawC c L [] (V10 rows script) []) s₀ O s)
  (h : ∀ s', Sx (lawC c L [] (V11 rows script) []) s₀ O s' → wpAny (model c.prog c.w) (c.A.deeper (lawEnv L)) (execs ((fBody 18).drop 12) (lawEnv L)) Q E s') :
  wpAny (model c.prog c.w) (c.A.deeper (lawEnv L)) (execs ((fBody 18).drop 11) (lawEnv L)) Q E s := by
 obtain hr' := hr.deeper (lawEnv L)
 obtain hfl := whole_len H
 obtain hok : ∀ x ∈ wholeL rows, PyData.strOk x = true := nms_ok
 obtain hml : ((wholeL rows).map D.str).length = (wholeL rows).length := List.length_map ..
 refine ex_cons ?_
 generalize hn : (wholeL rows).length = n at *
 refine ex_compA (l := List.range n) (g := dI) (f := fun i => .str ((wholeL rows).getD i "")) (p := fun i => decide ((wholeL rows).getD i "" ∈ (wholeL rows).take i)) dI_inj S
  ((src_range1 (n := n) (Ob := []) hr' (ev_bi G rfl) (ev_len (n := n) (ev_bi G rfl) (ev_var rfl) .val hml (by grind)) (by grind)).as (range_dI n)) (fun i C Dd I hi => tests_one ?_) (fun i C Dd I hi o_ => ?_) (by rw [List.length_range]; grind) (fun s' S' => h s' ?_) rfl rfl rfl rfl
 ·obtain hi' := List.mem_range.mp hi
  refine et_cmp (ev_item (ds := (wholeL rows).map .str) (k := (i : Int)) (x := .str ((wholeL rows).getD i "")) (ev_var rfl) .val (ev_var rfl) (by grind) (by grind) (by rw [Int.toNat_natCast]; exact getD_str (by grind))) (ev_slice_upto (ds := (wholeL rows).map .str) (k := i) (ev_var rfl) .val (ev_var rfl) (by rw [hml]; unfold sizeLine; grind)) (cmp_inS hr' .val (hok _ (mem_getD' (by grind))) ?_ (depth_str _) ?_)
  ·rw [← List.map_take (f := D.str)]; exact simp_str fun x hx => hok x (List.mem_of_mem_take hx)
  ·rw [← List.map_take (f := D.str), mem_map_inj str_inj]; simp
 ·obtain hi' := List.mem_range.mp hi
  exact ev_item (ds := (wholeL rows).map .str) (k := (i : Int)) (x := .str ((wholeL rows).getD i "")) (ev_var rfl) .val (ev_var rfl) (by grind) (by grind) (by rw [Int.toNat_natCast]; exact getD_str (by grind))
 ·obtain e : dStrs (overF (wholeL rows)) = .list (((List.range n).filter fun i => decide ((wholeL rows).getD i "" ∈ (wholeL rows).take i)).map fun i => .str ((wholeL rows).getD i "")) := by
   unfold dStrs overF; rw [List.map_map, hn]; rfl
  dsimp only [V11]; rw [e]; exact S'
set_option maxHeartbeats 4000000 in
theorem law_for (hr : Room c.A (k + 6)) (G : Gl c.hb) (H : RowsOk rows) (hac : ∀ t, ¬ Lt rows t t) (hne : rows.flatten ≠ []) (S : Sx (lawC c L [] (V11 rows script) []) s₀ O s)
  (h : ∀ s', Sx (lawC c L [] (V11 rows script) []) s₀ O s' → wpAny (model c.prog c.w) (c.A.deeper (lawEnv L)) (execs ((fBody 18).drop 13) (lawEnv L)) Q E s') :
  wpAny (model c.prog c.w) (c.A.deeper (lawEnv L)) (execs ((fBody 18).drop 12) (lawEnv L)) Q E s := by
 have hr' := hr.deeper (lawEnv L)
 have hfl := whole_len H
 have hok : ∀ x ∈ wholeL rows, PyData.strOk x = true := nms_ok
 have hml : ((wholeL rows).map D.str).length = (wholeL rows).length := List.length_map ..
 refine ex_cons ?_
 refine ex_for (V := fun o_ => V11 rows script) (W := fun o_ => []) S (src_list (ds := ordL.map fun o => dNs (dueF rows o)) hr' (ev_var rfl)) (mine_sub S) lk_id rfl (fun o_ => rfl) ?_ (fun s' S' => ex_nil (h s' S')) rfl rfl
 intro i d I s₁ s' hd S'
 obtain ⟨o, ho, rfl⟩ := List.mem_map.mp (List.mem_of_getElem? hd)
 have hnd := one_nodup H hac ho
 have hmem := one_mem H hac ho
 have hcs := cmp_same H hac ho
 have hcl := cmp_less H hac ho (fun q => by
  obtain ⟨t, ht⟩ := List.exists_mem_of_ne_nil _ hne
  have := (due_mem H hac ho).mpr ht
  rw [q] at this; cases this)
 have hlen := due_len H hac ho
 rw [dNs_strs] at S'
 have hoo : ∀ x ∈ (dueF rows o).map nm, PyData.strOk x = true := nms_ok
 have hol : ((dueF rows o).map nm).length ≤ 6 := by rw [List.length_map]; exact hlen
 generalize (dueF rows o).map nm = one at *
 have hol2 : (one.map D.str).length ≤ 6 := by rw [List.length_map]; exact hol
 have hd1 : ∀ x ∈ one.drop 1, PyData.strOk x = true := fun x hx => hoo x (List.mem_of_mem_drop hx)
 have hld : (one.drop 1).length ≤ 1000 := by rw [List.length_drop]; grind
 dsimp only at S'
 have Fc := FnAt.kpr (c := { lawC c L [] (V11 rows script) [] with X := I :: (lawC c L [] (V11 rows script) []).X, vars := ("one", dStrs one) :: V11 rows script }) (G.fn 8 57 (.tail _ (.tail _ (.head _))))
 refine ex_cons ?_
 refine ex_if S' (b := false || (false || false)) (et_or ((et_cmp (ev_call (ev_gl G rfl) (evs_cons (ev_var rfl) (evs_cons (ev_var rfl) evs_nil)) Fc (compare_spec hr' G (l1 := one) (l2 := wholeL rows) hoo hok (by grind) (by grind))) ev_bool cmp_isnot_bool).weak (by rw [hcs.1]; rfl)) (fun o_ => et_or ((et_cmp (ev_call (ev_gl G rfl) (evs_cons (ev_var rfl) (evs_cons (ev_var rfl) evs_nil)) Fc (compare_spec hr' G (l1 := wholeL rows) (l2 := one) hok hoo (by grind) (by grind))) ev_bool cmp_isnot_bool).weak (by rw [hcs.2]; rfl)) (fun o_ => et_or_nil))) (fun hb => nomatch hb) (fun o_ s₂ S₂ => ex_nil ?_)
 refine ex_cons ?_
 have hsl : ∀ {p1 p2 p3 p4 p5 : Pos}, Ev { lawC c L [] (V11 rows script) [] with X := I :: (lawC c L [] (V11 rows script) []).X, vars := ("one", dStrs one) :: V11 rows script } (.Subscript (.Name "one" p1) (.Slice (some (.Constant (.int 1) 0 p2)) none none p3) p4) (.list ((one.drop 1).map .str)) := fun {_ _ _ _ _} => by
  refine (ev_slice_from (ds := one.map .str) (k := 1) (ev_var rfl) .val ev_int (by unfold sizeLine; grind)).weak ?_
  rw [List.map_drop]
 refine ex_if S₂ (b := false || (false || false)) (et_or ((et_cmp (ev_call (ev_gl G rfl) (evs_cons (hsl (p5 := ⟨0, 0, 0, 0⟩)) (evs_cons (ev_var rfl) evs_nil)) Fc (compare_spec hr' G (l1 := one.drop 1) (l2 := wholeL rows) hd1 hok hld (by grind))) ev_bool cmp_isnot_bool).weak (by rw [hcl.1]; rfl)) (fun o_ => et_or ((et_cmp (ev_call (ev_gl G rfl) (evs_cons (ev_var rfl) (evs_cons (hsl (p5 := ⟨0, 0, 0, 0⟩)) evs_nil)) Fc (compare_spec hr' G (l1 := wholeL rows) (l2 := one.drop 1) hok hd1 (by grind) hld)) ev_bool cmp_isnot_bool).weak (by rw [hcl.2]; rfl)) (fun o_ => et_or_nil))) (fun hb => nomatch hb) (fun o_ s₃ S₃ => ex_nil ?_)
 refine ex_cons ?_
 have dl := diff_lost (one := one) (whole := wholeL rows) hnd hmem
 have dO := diff_over (one := one) (whole := wholeL rows) hnd hmem
 have lok : ∀ x ∈ lostF (wholeL rows), PyData.strOk x = true := fun x hx => by
  obtain ⟨i, hi, rfl⟩ := List.mem_map.mp hx
  exact hok _ (mem_getD' (by have := List.mem_range.mp (List.mem_filter.mp hi).1; grind))
 have ook : ∀ x ∈ overF (wholeL rows), PyData.strOk x = true := fun x hx => by
  obtain ⟨i, hi, rfl⟩ := List.mem_map.mp hx
  exact hok _ (mem_getD' (List.mem_range.mp (List.mem_filter.mp hi).1))
 have two : ∀ {a b : List Str}, (∀ x ∈ a, PyData.strOk x = true) → (∀ x ∈ b, PyData.strOk x = true) → (D.tup [dStrs a, dStrs b]).simp = true := fun {a b} h1 h2 => by
  show D.simps [dStrs a, dStrs b] = true
  simp only [D.simps, simp_dStrs h1, simp_dStrs h2]; rfl
 have non : ∀ x ∈ ([] : List Str), PyData.strOk x = true := fun o_ h => nomatch h
 refine ex_if S₃ (b := false) (et_cmp (ev_diff hr' G (xs := wholeL rows) (ys := one) (ev_gl G rfl) (evn_call_list (ev_bi G rfl) (ev_var rfl) .val (by rw [hml]; unfold sizeLine; grind)) (evn_call_list (ev_bi G rfl) (ev_var rfl) .val (by unfold sizeLine; grind)) hok hoo (by grind) (by grind)) (ev_tuple (ds := [dStrs (lostF (wholeL rows)), dStrs []]) (evs_cons (ev_var rfl) (evs_cons (ev_list evs_nil (by decide)) evs_nil)) (by show 2 ≤ sizeLine; unfold sizeLine; grind)) (cmp_neS hr' ?_ (two lok non) (depth_two _ _) ?_)) (fun hb => nomatch hb) (fun o_ s₄ S₄ => ex_nil ?_)
 ·rw [dl]; exact two lok non
 ·rw [dl]; simp
 refine ex_cons ?_
 refine ex_if S₄ (b := false) (et_cmp (ev_diff hr' G (xs := one) (ys := wholeL rows) (ev_gl G rfl) (evn_call_list (ev_bi G rfl) (ev_var rfl) .val (by unfold sizeLine; grind)) (evn_call_list (ev_bi G rfl) (ev_var rfl) .val (by rw [hml]; unfold sizeLine; grind)) hoo hok (by grind) (by grind)) (ev_tuple (ds := [dStrs [], dStrs (overF (wholeL rows))]) (evs_cons (ev_list evs_nil (by decide)) (evs_cons (ev_var rfl) evs_nil)) (by show 2 ≤ sizeLine; unfold sizeLine; grind)) (cmp_neS hr' ?_ (two non ook) (depth_two _ _) ?_)) (fun hb => nomatch hb) (fun o_ s₅ S₅ => ex_nil ?_)
 ·rw [dO]; exact two non ook
 ·rw [dO]; simp
 refine ex_nil ?_
 exact S₅.vars (lk_skip lk_id)
end
end Mine
end
section
open PySem PySem.W PyProof.Rows
namespace Mine
open PySem.Calls
section
variable {c : Cx} {L : Addr} {hb' : Heap}
theorem CodeAt.up {hb hb' : Heap} {cd P : Addr} (K : CodeAt hb cd P) (up : ∀ b o, hb.get? b = some o → hb'.get? b = some o) (n : hb'.get? P = none) : CodeAt hb' cd P := by
 refine cutG fun P_ hP_ => ?_
 obtain ⟨mg, hmg, bm, ob, b1, b2, b3, b4, b5, b6⟩ := K.bt
 refine hP_ ?_
 clear hP_ P_
 exact ⟨CodeHd.stays K.code up, n, mg, hmg.keeps up, bm, ob, b1, b2, b3, b4, up _ _ b5, b6⟩
theorem DedupAt.up {hb hb' : Heap} (R : DedupAt hb) (k : ∀ b o, hb.get? b = some o → hb'.get? b = some o) (nl : hb'.NoLimit) : DedupAt hb' := by
 obtain ⟨dV, kV, F, h⟩ := R
 obtain ⟨fo, name, doc, pm, an, ct, e, d⟩ := F.obj
 exact ⟨dV, kV, ⟨⟨fo, name, doc, pm, an, ct, k _ _ e, d⟩, F.code.at fun o => k _ o, nl⟩, fun s v name doc pm an ct st => h s v name doc pm an ct fun b o e => st b o (k b o e)⟩
theorem Lc.up (K : Lc c L) (up : ∀ b o, c.hb.get? b = some o → hb'.get? b = some o) (n16 : hb'.get? 16 = none) (n102 : hb'.get? 102 = none) (nl : hb'.NoLimit) : Lc { c with hb := hb' } L where
 hA := K.hA
 sys := by obtain ⟨o, e⟩ := K.sys; exact ⟨o, up _ _ e⟩
 x16 := K.x16
 x102 := K.x102
 b16 := n16
 b102 := n102
 h16 := K.h16
 h102 := K.h102
 f16 := K.f16
 f102 := K.f102
 code := K.code.up up n102
 red := K.red.up up nl
 ded := K.ded.up up nl
end
theorem Ok.offFrames {c : Cx} {s : Shared} (o : Ok c s) {a : Addr} {ob : Obj} (e : s.heap.get? a = some ob) (hn : notFrame ob) : a ∉ framesOf c.A := fun hm => by
 obtain ⟨l, hl, hf⟩ := o.frames
 unfold framesOf at hm
 rw [hl] at hm
 obtain ⟨o', es, n, h1, h2⟩ := hf.2 a hm
 obtain rfl := Option.some.inj (e.symm.trans h1)
 exact hn es n h2
theorem tbl_of {c : Cx} {s : Shared} {d : Addr} {ks : List (List Str)} {as : List Addr} {xs : List (List Str × Addr × Value)} (o : Ok c s) (hd : d ∉ c.X ∧ d ∉ framesOf c.A) (hs : ¬ d = sysModules) (D : DFK.DSt c.prog c.w s.heap d ks as xs) (hk : ∀ a ∈ as, ∃ k : List Str, Rep c.X s.heap (tupS k) (.ref a)) :
  ∃ l : List (Int × Addr × List Str), TblAt (baseOf c s.heap) c.X d l ∧ l.map (·.2.2) = ks := by
 refine cutG fun P_ hP_ => ?_
 obtain ⟨ob, es, ep, e1, ⟨e2, e3, e4⟩, e5, e6, e7, _⟩ := D.dict
 refine hP_ ?_
 clear hP_ P_
 refine ⟨xs.map fun x => ((DFK.TK c.prog c.w).hash x.1, x.2.1, x.1), ⟨⟨ep, ?_⟩, fun e he => ?_, hs⟩, by rw [List.map_map]; exact D.keys⟩
 ·refine baseOf_new (e1.trans ?_) hd.1 hd.2
  refine cutG fun P_ hP_ => ?_
  obtain ⟨cc, dd, dt, sl⟩ := ob
  refine hP_ ?_
  clear hP_ P_
  dsimp only at e2 e3 e4 e5
  subst e2 e3 e4 e5
  obtain this : es = (List.map (fun e : Int × Addr × List Str => (⟨e.1, .ref e.2.1, .none⟩ : DictEntry)) (List.map (fun x => ((DFK.TK c.prog c.w).hash x.1, x.2.1, x.1)) xs)).toArray := by
   apply Array.ext'
   rw [e6, List.map_map]
   refine List.map_congr_left fun x hx => ?_
   show (⟨_, _, x.2.2⟩ : DictEntry) = _
   rw [(D.vals x hx).1]; rfl
  rw [this]
 ·refine cutG fun P_ hP_ => ?_
  obtain ⟨x, hx, rfl⟩ := List.mem_map.mp he
  refine hP_ ?_
  clear hP_ P_
  dsimp only
  refine cutG fun P_ hP_ => ?_
  obtain ⟨k, a, us, n, ea, ha, hg, hr⟩ := hk _ (D.vals x hx).2
  refine hP_ ?_
  clear hP_ P_
  have ea' : x.2.1 = a := by injection ea
  obtain hks : k = x.1 := (DFK.TK c.prog c.w).inj (h := s.heap) (a := a) ⟨_, us.toArray, n, hg, rfl, rfl, by simpa using itemsAre hr⟩ (ea' ▸ e7 x hx)
  rw [ea', ← hks]
  exact ⟨a, us, n, rfl, ha, baseOf_new hg ha (o.offFrames hg notFrame_tup), strs_any hr⟩
noncomputable abbrev V13 (d : Addr) (rows : List (List Nat)) (script : List Int) : List (Str × D) := ("told", .val (.ref d)) :: V11 rows script
noncomputable abbrev mineL (L : Addr) : List Addr := homes (lawEnv L) ++ []
section
variable {c : Cx} {k : Nat} {rows : List (List Nat)} {script : List Int} {L : Addr} {s₀ s sI : Shared} {O : List Addr} {Q : Flow → Shared → Prop} {E : Value → Shared → Prop} {p16 p102 : Array Value}
noncomputable abbrev oneL (rows : List (List Nat)) : List (List Str) := (duesL rows).map (List.map nm)
theorem mergesD_one (rows : List (List Nat)) : mergesD rows = .list ((oneL rows).map dStrs) := by
 rw [mergesD_is]; unfold oneL; rw [List.map_map]
 congr 1
 exact List.map_congr_left fun l o_ => dNs_strs l
theorem one_len (rows : List (List Nat)) : (oneL rows).length = 6 := by unfold oneL duesL; rw [List.length_map, List.length_map]; rfl
set_option maxHeartbeats 4000000 in
theorem law_told (hr : Room c.A (k + 6)) (G : Gl c.hb) (K : Lc c L) (hlen : ∀ o ∈ oneL rows, (o.map D.str).length ≤ sizeLine) (T : Tb sI p16 p102 s₀ O) (S : Sx (lawC c L [] (V11 rows script) []) s₀ O s)
  (h : ∀ hb' s₁ s' d l, (∀ b o, c.hb.get? b = some o → hb'.get? b = some o) → Gl hb' → Lc { c with hb := hb' } L → TblAt hb' (homes (lawEnv L) ++ c.X) d l → l.map (·.2.2) = fsS [] (oneL rows) →
   Tb sI p16 p102 s₁ (mineL L) → Sx (lawC { c with hb := hb' } L [] (V13 d rows script) []) s₁ (mineL L) s' →
   wpAny (model c.prog c.w) (c.A.deeper (lawEnv L)) (execs ((fBody 18).drop 14) (lawEnv L)) Q E s') :
  wpAny (model c.prog c.w) (c.A.deeper (lawEnv L)) (execs ((fBody 18).drop 13) (lawEnv L)) Q E s := by
 have hr' := hr.deeper (lawEnv L)
 refine cutG fun P_ hP_ => ?_
 obtain ⟨dV, kV, FD, _⟩ := K.ded
 refine hP_ ?_
 clear hP_ P_
 obtain hm16 : 16 ∉ mineL L := fun hm => (List.mem_append.mp hm).elim K.h16 (fun z => nomatch z)
 obtain hm102 : 102 ∉ mineL L := fun hm => (List.mem_append.mp hm).elim K.h102 (fun z => nomatch z)
 refine ex_cons ?_
 refine wpAny_Assign_Name (Call_Name rfl (wpAny_mono ((ev_gl G rfl : Ev (lawC c L [] (V11 rows script) []) (.Name "_deduplicate" _) (.val (.ref 43))) s _ S.ok) (fun f' s₁ h₁ => ?_) fun o_ o_ e => e)) rfl
 obtain ⟨k₁, rfl⟩ := h₁
 have S₁ := S.step k₁
 refine callWith_data (c := lawC c L [] (V11 rows script) []) (ds := [.list ((oneL rows).map tupS)]) S₁.ok (FnAt.kpr FD) (evs_cons ?_ evs_nil) (fun s₂ vs k₂ hvs => ?_) rfl rfl
 ·have e : D.list ((oneL rows).map tupS) = .list (((oneL rows).filter fun o_ => true).map tupS) := by rw [List.filter_eq_self.mpr (fun o_ o_ => rfl)]
  rw [e]
  refine ev_compA (l := oneL rows) (g := dStrs) (f := tupS) (p := fun o_ => true) (fun o_ o_ => dStrs_inj) (src_list hr' ((ev_var (d := mergesD rows) rfl).weak (mergesD_one rows))) rfl (fun q hq => nomatch hq) (fun o C Dd I ho => tests_nil) (fun o C Dd I ho o_ => ?_) (by rw [one_len]; decide)
  exact ev_call (ev_bi G rfl) (evs_cons (ev_var rfl) evs_nil) kpr_type (call_tuple (ds := o.map .str) .val (hlen o ho))
 ·have S₂ := S₁.step k₂
  refine wpAny_mono (dedup_call (c := lawC c L [] (V11 rows script) []) (e0 := lawEnv L) (k := k + 4) hr' G K.ded (by show c.A.deeper _ = _; rw [K.hA]) (ks := oneL rows) (by rw [one_len]; decide) S₂.ok hvs) (fun v s₃ q₃ => ?_) fun o_ o_ e => e
  refine cutG fun P_ hP_ => ?_
  obtain ⟨k₃, d, xs, as, rfl, hd, D, hk⟩ := q₃
  have S₃ := S₂.step k₃
  obtain S₄ := S₃.freeze
  have up : ∀ b o, c.hb.get? b = some o → (baseOf (lawC c L [] (V11 rows script) []) s₃.heap).get? b = some o := fun b o e => baseOf_old (c := lawC c L [] (V11 rows script) []) S₃.ok.base e
  have G₄ := G.up up
  obtain ⟨osys, esys⟩ := K.sys
  refine hP_ ?_
  clear hP_ P_
  obtain ⟨l, TA, hl⟩ := tbl_of S₃.ok (S₂.isNew hd) (fun q => by rw [q, S₂.ok.base _ _ esys] at hd; cases hd) D hk
  obtain e2 : DFK.dedupK (oneL rows) = fsS [] (oneL rows) := by unfold DFK.dedupK; rw [putK_fs]; rfl
  obtain n16 : (baseOf (lawC c L [] (V11 rows script) []) s₃.heap).get? 16 = none := baseOf_none K.b16 (.inl (List.mem_append_right _ (List.mem_append_right _ K.x16)))
  obtain n102 : (baseOf (lawC c L [] (V11 rows script) []) s₃.heap).get? 102 = none := baseOf_none K.b102 (.inl (List.mem_append_right _ (List.mem_append_right _ K.x102)))
  exact st_name (c := { lawC c L [] (V11 rows script) [] with hb := baseOf (lawC c L [] (V11 rows script) []) s₃.heap }) S₄ rfl (mayBind_of rfl) (d := .val (.ref d)) rfl fun s₅ S₅ => h _ s₃ s₅ d l up G₄ (K.up up n16 n102 G₄.nl) TA (hl.trans e2) ((T.now S₃.kp).to hm16 hm102) S₅
end
end Mine
end
section
open PySem PySem.W PyProof.Rows
namespace Mine
open PySem.Calls
theorem ev_compR {c : Cx} {Ob : List Addr} {elt iter : Expr} {x : Str} {px : Pos} {ifs : List Expr} {scope : Scope} {pos : Pos} {xs out : List D} (hsrc : Src c Ob iter xs) (hown : ∀ q ∈ c.own, q.1 ∈ c.X) (N : NamesOk scope c.env)
  (R : CompRuns noT c [] (fun o_ => c.own) elt iter x px ifs scope pos xs out) (hs : ∀ v, foldedSetIterable iter c.env v = pure v := by intro _; rfl) : Ev c (.ListComp elt [⟨.Name x px, iter, ifs, 0⟩] scope pos) (.list out) := fun s E o =>
 wpAny_mono (evo_compR tree_noT (own := fun o_ => c.own) rfl hsrc (by intro a h; cases h) (fun o_ => hown) N R hs s E o) (fun v s' q => by
  refine cutG fun P_ hP_ => ?_
  obtain ⟨k, ⟨a, ys, n, rfl, g0, hg, hy, _⟩, _⟩ := q
  refine hP_ ?_
  clear hP_ P_
  exact ⟨k, rep_of_new o.xin g0 hg hy⟩) fun o_ o_ e => e
theorem fsS_pos {α : Type} [DecidableEq α] : ∀ {l : List α}, l ≠ [] → 1 ≤ (fsS [] l).length
 | [], h => absurd rfl h
 | x :: r, _ => by rw [fsS, if_neg (by simp), List.length_cons]; grind
theorem cmp_neB {c : Cx} {k : Nat} (hr : Room c.A k) {p q : Bool} : Cmp c .NotEq (.bool p) (.bool q) (p != q) :=
 (cmp_ne hr (dl := .bool p) (dr := .bool q) rfl rfl (by simp [D.py, PyData.depth])).as (by cases p <;> cases q <;> rfl)
section
variable {c : Cx} {k : Nat} {rows : List (List Nat)} {script : List Int} {L : Addr} {s₀ s : Shared} {O : List Addr} {Q : Flow → Shared → Prop} {E : Value → Shared → Prop} {d : Addr} {l : List (Int × Addr × List Str)}
theorem fs_one (H : RowsOk rows) (hac : ∀ t, ¬ Lt rows t t) : fsS [] (oneL rows) = (fsS [] (duesL rows)).map (List.map nm) := by
 have := fsS_map (f := List.map nm) (p := fun l : List Nat => ∀ t ∈ l, t < 6) (fun x y hx hy e => ?_) (duesL rows) [] (fun x hx => ?_) (fun o_ h => nomatch h)
 ·exact this
 ·have go : ∀ (x y : List Nat), (∀ t ∈ x, t < 6) → (∀ t ∈ y, t < 6) → x.map nm = y.map nm → x = y := fun x => by
   induction x with
   | nil => intro y _ _ e; cases y with
    | nil => rfl
    | cons => cases e
   | cons a x ih => intro y h1 h2 e; cases y with
    | nil => cases e
    | cons b y =>
     rw [List.map_cons, List.map_cons] at e
     injection e with e1 e2
     rw [nm_inj a b (h1 a (.head _)) (h2 b (.head _)) e1, ih y (fun t ht => h1 t (.tail _ ht)) (fun t ht => h2 t (.tail _ ht)) e2]
  exact go x y hx hy e
 ·obtain ⟨o, ho, rfl⟩ := List.mem_map.mp hx
  exact due_lt H hac ho
theorem dues_ne (rows : List (List Nat)) : duesL rows ≠ [] := fun h => by have := congrArg List.length h; simp [duesL, ordL] at this
noncomputable def pairD (t : List Nat) : D := .tup [tupS (t.map nm), .none]
theorem simp_pair (t : List Nat) : (pairD t).simp = true := by
 show D.simps [tupS (t.map nm), .none] = true
 obtain this : (tupS (t.map nm)).simp = true := simp_str nms_ok
 simp only [D.simps, this]; rfl
theorem depth_pair (t : List Nat) : (pairD t).py.depth ≤ 20 := by
 obtain this := depth_map (g := D.str) (n := 2) (fun t => by simp [D.py, PyData.depth]) (t.map nm)
 dsimp only [pairD, tupS, D.py, D.pys, PyData.depth, PyData.depthAll] at *; grind
theorem dues_at (rows : List (List Nat)) {i : Nat} (h : i < 6) : ((duesL rows).map dIs)[i]? = some (dIs ((duesL rows).getD i [])) := by
 obtain this : i < (duesL rows).length := by unfold duesL; rw [List.length_map]; exact h
 rw [List.getElem?_map, List.getD_eq_getElem?_getD, List.getElem?_eq_getElem this]; rfl
theorem ones_at (rows : List (List Nat)) {i : Nat} (h : i < 6) : ((oneL rows).map dStrs)[i]? = some (dStrs (((duesL rows).getD i []).map nm)) := by
 obtain this : i < (duesL rows).length := by unfold duesL; rw [List.length_map]; exact h
 rw [List.map_map, List.getElem?_map, List.getD_eq_getElem?_getD, List.getElem?_eq_getElem this]; rfl
set_option maxHeartbeats 4000000 in
theorem law_if14 (hr : Room c.A (k + 6)) (G : Gl c.hb) (K : Lc c L) (H : RowsOk rows) (hac : ∀ t, ¬ Lt rows t t) (TA : TblAt c.hb (homes (lawEnv L) ++ c.X) d l) (hl : l.map (·.2.2) = fsS [] (oneL rows)) (S : Sx (lawC c L [] (V13 d rows script) []) s₀ O s)
  (h : ∀ s', Sx (lawC c L [] (V13 d rows script) []) s₀ O s' → wpAny (model c.prog c.w) (c.A.deeper (lawEnv L)) (execs ((fBody 18).drop 15) (lawEnv L)) Q E s') :
  wpAny (model c.prog c.w) (c.A.deeper (lawEnv L)) (execs ((fBody 18).drop 14) (lawEnv L)) Q E s := by
 obtain hr' := hr.deeper (lawEnv L)
 obtain hll : l.length = (fsS [] (duesL rows)).length := by
  have := congrArg List.length hl
  rw [List.length_map, fs_one H hac, List.length_map] at this; exact this
 obtain h1 := fsS_pos (dues_ne rows)
 obtain h6 := fsS_len (duesL rows) []
 have hdl : (duesL rows).length = 6 := by unfold duesL; rw [List.length_map]; rfl
 obtain hA : (lawC c L [] (V13 d rows script) []).A = callerA.deeper (lawEnv L) := by show c.A.deeper _ = _; rw [K.hA]
 obtain hd6 : ∀ i, i < 6 → ((duesL rows).getD i []).length ≤ 6 := fun i hi => by
  obtain hm := mem_getD' (l := duesL rows) (z := []) (i := i) (by grind)
  obtain ⟨o, ho, e⟩ := List.mem_map.mp hm
  rw [← e]; exact due_len H hac ho
 obtain eL : (l.map fun e => D.tup [tupS e.2.2, .none]) = (fsS [] (duesL rows)).map pairD := by
  obtain e1 : (l.map fun e => D.tup [tupS e.2.2, .none]) = (l.map (·.2.2)).map fun t => D.tup [tupS t, .none] := by rw [List.map_map]; rfl
  rw [e1, hl, fs_one H hac, List.map_map]; rfl
 obtain eR : ((List.range 6).filter fun k => decide ((duesL rows).getD k [] ∉ (duesL rows).take k)).map (fun k => pairD ((duesL rows).getD k [])) = (fsS [] (duesL rows)).map pairD := by
  have := fs_at ([] : List Nat) pairD (duesL rows) []
  rw [hdl] at this
  rw [← this]
  congr 1
  refine List.filter_congr fun k o_ => ?_
  simp
 refine ex_cons ?_
 refine ex_if S (b := false) (et_cmp (dl := .list ((fsS [] (duesL rows)).map pairD)) (dr := .list ((fsS [] (duesL rows)).map pairD)) ?_ ?_ (cmp_neS hr' (simps_map simp_pair _) (simps_map simp_pair _) (depth_of (depth_map depth_pair _) (by grind)) (by simp))) (fun hb => nomatch hb) (fun o_ s' S' => ex_nil (h s' S'))
 ·exact (ev_items hA TA (by grind) (by grind) (ev_bi G rfl) (ev_var rfl) rfl).weak (by rw [eL])
 ·refine Ev.weak (ev_compA (l := List.range 6) (g := dI) (f := fun k => pairD ((duesL rows).getD k [])) (p := fun k => decide ((duesL rows).getD k [] ∉ (duesL rows).take k)) dI_inj ((src_range1 (n := 6) (Ob := []) hr' (ev_bi G rfl) ev_int (by grind)).as (range_dI 6)) rfl (by intro q hq; cases hq) (fun i C Dd I hi => tests_one ?_) (fun i C Dd I hi o_ => ?_) (by decide)) (by rw [eR])
  ·obtain hi' := List.mem_range.mp hi
   refine et_cmp (ev_item (ds := (duesL rows).map dIs) (k := (i : Int)) (x := dIs ((duesL rows).getD i [])) (ev_var rfl) .val (ev_var rfl) (by grind) (by grind) (by rw [Int.toNat_natCast]; exact dues_at rows hi')) (ev_slice_upto (ds := (duesL rows).map dIs) (k := i) (ev_var rfl) .val (ev_var rfl) (by rw [List.length_map, hdl]; unfold sizeLine; grind)) (cmp_notinS hr' .val (simp_dIs _) ?_ (depth_dIs _) ?_)
   ·rw [← List.map_take]; exact simps_map simp_dIs _
   ·rw [← List.map_take, mem_map_inj dIs_inj]; simp
  ·obtain hi' := List.mem_range.mp hi
   refine ev_tuple (ds := [tupS (((duesL rows).getD i []).map nm), .none]) (evs_cons (ev_call (ev_bi G rfl) (evs_cons (ev_item (ds := (oneL rows).map dStrs) (k := (i : Int)) (x := dStrs (((duesL rows).getD i []).map nm)) ((ev_var (d := mergesD rows) rfl).weak (mergesD_one rows)) .val (ev_var rfl) (by grind) (by grind) (by rw [Int.toNat_natCast]; exact ones_at rows hi')) evs_nil) kpr_type (call_tuple .val ?_)) (evs_cons ev_none evs_nil)) (by show 2 ≤ sizeLine; unfold sizeLine; grind)
   have := hd6 i hi'
   rw [List.length_map, List.length_map]; unfold sizeLine; grind
noncomputable def apartL (rows : List (List Nat)) : List Nat := (List.range ((dueF rows [0, 1, 2]).length - 1)).filter fun i => decide ((rows.filter fun r => decide ((dueF rows [0, 1, 2]).getD i 0 ∈ r) && (decide ((dueF rows [0, 1, 2]).getD (i + 1) 0 ∈ r) && true)) = [])
noncomputable def dK (i : Nat) : D := .int (1 + (i : Int) * 1)
theorem dK_inj : ∀ x y, dK x = dK y → x = y := fun x y h => by unfold dK at h; injection h with h; grind
noncomputable abbrev V15 (d : Addr) (rows : List (List Nat)) (script : List Int) : List (Str × D) := ("apart", .list ((apartL rows).map dK)) :: V13 d rows script
theorem apart_nil (H : RowsOk rows) (hac : ∀ t, ¬ Lt rows t t) : apartL rows = [] ↔ (fsS [] (duesL rows)).length = 1 := by
 obtain e1 : duesL rows = dueF rows [0, 1, 2] :: [[0, 2, 1], [1, 0, 2], [1, 2, 0], [2, 0, 1], [2, 1, 0]].map (dueF rows) := rfl
 rw [e1, fsS_one, ← e1]
 obtain e2 : (∀ x ∈ duesL rows, x = dueF rows [0, 1, 2]) ↔ ∀ o ∈ ordL, dueF rows o = dueF rows [0, 1, 2] := by unfold duesL; simp only [List.forall_mem_map]
 rw [e2, apart_iff H hac]
 unfold apartL
 rw [List.filter_eq_nil_iff]
 constructor
 ·intro h i x y hx hy
  obtain ⟨kx, ex⟩ := List.getElem?_eq_some_iff.mp hx
  obtain ⟨ky, ey⟩ := List.getElem?_eq_some_iff.mp hy
  have := h i (List.mem_range.mpr (by grind))
  rw [List.getD_eq_getElem?_getD, hx, List.getD_eq_getElem?_getD, hy] at this
  simp only [Option.getD_some, decide_eq_true_eq] at this
  obtain ⟨r, hr⟩ := List.exists_mem_of_ne_nil _ this
  obtain hr2 := List.mem_filter.mp hr
  simp only [Bool.and_true, Bool.and_eq_true, decide_eq_true_eq] at hr2
  exact ⟨r, hr2.1, hr2.2.1, hr2.2.2⟩
 ·intro h i hi
  obtain hi' := List.mem_range.mp hi
  obtain hx : (dueF rows [0, 1, 2])[i]? = some ((dueF rows [0, 1, 2]).getD i 0) := by rw [List.getD_eq_getElem?_getD, List.getElem?_eq_getElem (by grind)]; rfl
  obtain hy : (dueF rows [0, 1, 2])[i + 1]? = some ((dueF rows [0, 1, 2]).getD (i + 1) 0) := by rw [List.getD_eq_getElem?_getD, List.getElem?_eq_getElem (by grind)]; rfl
  obtain ⟨r, hr, h1, h2⟩ := h i _ _ hx hy
  rw [decide_eq_true_eq]
  intro q
  have : r ∈ rows.filter fun r => decide ((dueF rows [0, 1, 2]).getD i 0 ∈ r) && (decide ((dueF rows [0, 1, 2]).getD (i + 1) 0 ∈ r) && true) := List.mem_filter.mpr ⟨hr, by simp only [Bool.and_true, Bool.and_eq_true, decide_eq_true_eq]; exact ⟨h1, h2⟩⟩
  rw [q] at this; cases this
set_option maxHeartbeats 4000000 in
theorem law_apart (hr : Room c.A (k + 6)) (G : Gl c.hb) (H : RowsOk rows) (hac : ∀ t, ¬ Lt rows t t) (S : Sx (lawC c L [] (V13 d rows script) []) s₀ O s)
  (h : ∀ s', Sx (lawC c L [] (V15 d rows script) []) s₀ O s' → wpAny (model c.prog c.w) (c.A.deeper (lawEnv L)) (execs ((fBody 18).drop 16) (lawEnv L)) Q E s') :
  wpAny (model c.prog c.w) (c.A.deeper (lawEnv L)) (execs ((fBody 18).drop 15) (lawEnv L)) Q E s := by
 have hr' := hr.deeper (lawEnv L)
 obtain hl3 := H.l3
 obtain hm6 := due_len H hac (o := [0, 1, 2]) (.head _)
 refine ex_cons ?_
 refine ex_assign_compR (out := (apartL rows).map dK) S ((src_range2 (a := 1) (b := ((dueF rows [0, 1, 2]).length : Nat)) (Ob := []) hr' (ev_bi G rfl) ev_int (ev_len (n := (dueF rows [0, 1, 2]).length) (ev_bi G rfl) (ev_item (ds := (duesL rows).map dIs) (k := 0) (x := dIs (dueF rows [0, 1, 2])) (ev_var rfl) .val ev_int (by grind) (by grind) rfl) .val (List.length_map ..) (by grind)) (by grind) (by grind) (by grind) (by grind)).as (ys := (List.range ((dueF rows [0, 1, 2]).length - 1)).map dK) ?_)
  (runs_cellA (l := List.range ((dueF rows [0, 1, 2]).length - 1)) (g := dK) (f := dK) (p := fun i => decide ((rows.filter fun r => decide ((dueF rows [0, 1, 2]).getD i 0 ∈ r) && (decide ((dueF rows [0, 1, 2]).getD (i + 1) 0 ∈ r) && true)) = [])) dK_inj rfl ⟨fun o_ o_ => rfl, fun o_ => rfl⟩ (by intro q hq; cases hq) (fun i C K Dd I hi => tests_one ?_) (fun i C K Dd I hi o_ => ev_var rfl) (by rw [List.length_range]; grind))
  (fun s' S' => h s' S') (namesK (x := "k") rfl) rfl rfl rfl
 ·unfold rangeD
  have : (((dueF rows [0, 1, 2]).length : Int) - 1).toNat = (dueF rows [0, 1, 2]).length - 1 := by grind
  rw [this]; rfl
 ·obtain hi' := List.mem_range.mp hi
  refine et_cmp (ev_compA (l := rows) (g := dIs) (f := dIs) (p := fun r => decide ((dueF rows [0, 1, 2]).getD i 0 ∈ r) && (decide ((dueF rows [0, 1, 2]).getD (i + 1) 0 ∈ r) && true)) dIs_inj (src_list hr' (ev_var rfl)) rfl (by intro q hq; cases hq) (fun r C2 D2 I2 hrr => tests_one (et_and (et_cmp (dl := dI ((dueF rows [0, 1, 2]).getD i 0)) ?_ (ev_var rfl) (cmp_inS hr' .val (simp_dI _) (simps_map simp_dI _) (depth_dI _) (by rw [mem_map_inj dI_inj]; simp))) (fun o_ => et_and (et_cmp (dl := dI ((dueF rows [0, 1, 2]).getD (i + 1) 0)) ?_ (ev_var rfl) (cmp_inS hr' .val (simp_dI _) (simps_map simp_dI _) (depth_dI _) (by rw [mem_map_inj dI_inj]; simp))) (fun o_ => et_and_nil)))) (fun r C2 D2 I2 hrr o_ => ev_var rfl) (by grind)) (ev_list evs_nil (by decide)) (cmp_eqS hr' (simps_map simp_dIs _) rfl (depth_of (depth_map (n := 20) (fun l => by have := depth_map (g := dI) (n := 2) (fun t => by simp [dI, D.py, PyData.depth]) l; dsimp only [dIs, D.py, PyData.depth]; grind) _) (by grind)) (by simp))
  ·refine ev_item (ds := (dueF rows [0, 1, 2]).map dI) (k := 1 + (i : Int) * 1 - 1) (x := dI ((dueF rows [0, 1, 2]).getD i 0)) (ev_item (ds := (duesL rows).map dIs) (k := 0) (x := dIs (dueF rows [0, 1, 2])) (ev_var rfl) .val ev_int (by grind) (by grind) rfl) .val (ev_sub (ev_var (d := dK i) rfl) ev_int) (by grind) (by grind) ?_
   have : (1 + (i : Int) * 1 - 1).toNat = i := by grind
   rw [this]; exact getD_dI (by grind)
  ·refine ev_item (ds := (dueF rows [0, 1, 2]).map dI) (k := 1 + (i : Int) * 1) (x := dI ((dueF rows [0, 1, 2]).getD (i + 1) 0)) (ev_item (ds := (duesL rows).map dIs) (k := 0) (x := dIs (dueF rows [0, 1, 2])) (ev_var rfl) .val ev_int (by grind) (by grind) rfl) .val (ev_var (d := dK i) rfl) (by grind) (by grind) ?_
   obtain this : (1 + (i : Int) * 1).toNat = i + 1 := by grind
   rw [this]; exact getD_dI (by grind)
set_option maxHeartbeats 4000000 in
theorem law_if16 (hr : Room c.A (k + 6)) (G : Gl c.hb) (K : Lc c L) (H : RowsOk rows) (hac : ∀ t, ¬ Lt rows t t) (TA : TblAt c.hb (homes (lawEnv L) ++ c.X) d l) (hl : l.map (·.2.2) = fsS [] (oneL rows)) (S : Sx (lawC c L [] (V15 d rows script) []) s₀ O s)
  (h : ∀ s', Sx (lawC c L [] (V15 d rows script) []) s₀ O s' → wpAny (model c.prog c.w) (c.A.deeper (lawEnv L)) (execs ((fBody 18).drop 17) (lawEnv L)) Q E s') :
  wpAny (model c.prog c.w) (c.A.deeper (lawEnv L)) (execs ((fBody 18).drop 16) (lawEnv L)) Q E s := by
 obtain hr' := hr.deeper (lawEnv L)
 obtain hll : l.length = (fsS [] (duesL rows)).length := by
  have := congrArg List.length hl
  rw [List.length_map, fs_one H hac, List.length_map] at this; exact this
 obtain h6 := fsS_len (duesL rows) []
 obtain hdl : (duesL rows).length = 6 := by unfold duesL; rw [List.length_map]; rfl
 obtain hA : (lawC c L [] (V15 d rows script) []).A = callerA.deeper (lawEnv L) := by show c.A.deeper _ = _; rw [K.hA]
 obtain hap := apart_nil H hac
 refine ex_cons ?_
 refine ex_if S (b := (((l.length : Nat) : Int) == 1) != decide (apartL rows = [])) (et_cmp (ev_cmp (ev_len_d hA TA (by grind) (ev_bi G rfl) (ev_var rfl)) ev_int cmp_eq_int) (ev_cmp (ev_var rfl) (ev_list evs_nil (by decide)) (cmp_eqS hr' (simps_map (g := dK) (fun o_ => rfl) _) rfl (depth_of (depth_map (n := 2) (fun i => by simp [dK, D.py, PyData.depth]) _) (by grind)) (by simp))) (cmp_neB hr')) (fun hb => ?_) (fun o_ s' S' => ex_nil (h s' S'))
 exfalso
 obtain this : (((l.length : Nat) : Int) == 1) = decide (apartL rows = []) := by
  rw [Bool.eq_iff_iff, beq_iff_eq, decide_eq_true_iff, hap, ← hll]; grind
 rw [this] at hb
 simp at hb
noncomputable abbrev cntL (rows : List (List Nat)) : List Nat := (List.range 6).map (cnt (aheadF rows))
noncomputable abbrev V17 (d : Addr) (rows : List (List Nat)) (script : List Int) : List (Str × D) := ("counts", dIs (cntL rows)) :: V15 d rows script
set_option maxHeartbeats 4000000 in
theorem law_counts (hr : Room c.A (k + 6)) (G : Gl c.hb) (S : Sx (lawC c L [] (V15 d rows script) []) s₀ O s)
  (h : ∀ s', Sx (lawC c L [] (V17 d rows script) []) s₀ O s' → wpAny (model c.prog c.w) (c.A.deeper (lawEnv L)) (execs ((fBody 18).drop 18) (lawEnv L)) Q E s') :
  wpAny (model c.prog c.w) (c.A.deeper (lawEnv L)) (execs ((fBody 18).drop 17) (lawEnv L)) Q E s := by
 obtain hr' := hr.deeper (lawEnv L)
 obtain hal := ahead_len rows
 obtain e : dIs (cntL rows) = .list (((List.range 6).filter fun o_ => true).map fun t => .int ((cnt (aheadF rows) t : Nat) : Int)) := by
  rw [List.filter_eq_self.mpr (fun o_ o_ => rfl)]; unfold dIs cntL; rw [List.map_map]; rfl
 refine ex_cons ?_
 refine ex_assign S (d := dIs (cntL rows)) (e ▸ ev_compR ((src_range1 (n := 6) (Ob := []) hr' (ev_bi G rfl) ev_int (by grind)).as (range_dI 6)) (by intro q hq; cases hq) (namesK (x := "t") rfl) (@runs_cellA _ _ dI (fun t => .int ((cnt (aheadF rows) t : Nat) : Int)) (List.range 6) (fun o_ => true) _ _ _ _ _ _ _ dI_inj (by rfl) ⟨fun o_ o_ => rfl, fun o_ => rfl⟩ (by intro q hq; cases hq) (fun t C K Dd I ht => tests_nil) (fun t C K Dd I ht o_ => ?_) (by decide))) (fun s' S' => h s' S') rfl rfl rfl
 obtain ht6 := List.mem_range.mp ht
 refine ev_len (ds := ((List.range 6).filter fun u => ((aheadF rows).getD t 0).testBit u).map dI) (ev_bi G rfl) (ev_compA (l := List.range 6) (g := dI) (f := dI) (p := fun u => ((aheadF rows).getD t 0).testBit u) dI_inj ((src_range1 (n := 6) (Ob := []) hr' (ev_bi G rfl) ev_int (by grind)).as (range_dI 6)) rfl (by intro q hq; cases hq) (fun u C₂ D₂ I₂ hu => tests_one ?_) (fun u C₂ D₂ I₂ hu o_ => ev_var rfl) (by decide)) .val (List.length_map ..) ?_
 ·exact Et.as (et_int (ev_and (ev_shr (ev_item (x := dI ((aheadF rows).getD t 0)) (ev_var rfl) .val (ev_var rfl) (by grind) (by grind) (by rw [Int.toNat_natCast]; exact getD_dI (by grind))) (ev_var rfl) (by grind)) ev_int)) (bit_py _ _)
 ·exact Nat.le_trans (List.length_filter_le _ _) (by simp)
end
end Mine
end
section
open PySem PySem.W PyProof.Rows
namespace Mine
open PySem.Calls
theorem any_of_call {M : Model} {A : Around} {c' : Code} {Q : Value → Shared → Prop} {E : Value → Shared → Prop} {s : Shared} (x : wpAny M A (.call c' none false [] Sem.pure) (fun r s' => match r with | .ok (.ret v) => Q v s' | _ => False) E s) : wpAny M A (runValue c') Q E s := fun Γ p hΓ => by
 refine cutG fun P_ hP_ => ?_
 obtain ⟨r, s', hr, hw⟩ := x Γ p hΓ
 refine hP_ ?_
 clear hP_ P_
 refine ⟨r, s', hr, ?_⟩
 match r, hw with
 | .ok (.ret v), hw => exact hw
set_option genInjectivity false in
set_option genSizeOf false in
structure KW where
 (a1 a2 a3 a4 : Int)
 (b1 b2 b3 b4 : Value)
 mn : Str
 q1 : Tok
 (pm c0 c3 : Value)
 (d0 d3 : Option Addr)
 (es0 es3 : List DictEntry)
 (n0 n3 : Nat)
 (s0 s3 : Array (Option Value))
 mg : Str → Option Value
 o1 : Obj
structure KWf (hb : Heap) (v : KW) : Prop where
 h21 : hb.get? 21 = some (o21 v.pm)
 h20 : hb.get? 20 = some o20
 h2 : hb.get? cStatics = some ⟨.none, none, .dict ⟨[]⟩ 0, #[]⟩
 h4 : hb.get? 4 = some ⟨.type "module", some 0, .plain, #[]⟩
 h3 : hb.get? mainGlobals = some ⟨v.c3, v.d3, .dict ⟨v.es3⟩ v.n3, v.s3⟩
 h0 : hb.get? 0 = some ⟨v.c0, v.d0, .dict ⟨v.es0⟩ v.n0, v.s0⟩
 l1 : LK (tK [95, 95, 98, 117, 105, 108, 100, 95, 99, 108, 97, 115, 115, 95, 95]) v.es0 (some ⟨v.a1, v.b1, .builtin "__build_class__"⟩)
 l2 : LK "object" v.es3 none
 l3 : LK "object" v.es0 (some ⟨v.a2, v.b2, .type "object"⟩)
 l4 : LK (tK [95, 95, 98, 117, 105, 108, 116, 105, 110, 115, 95, 95]) v.es3 (some ⟨v.a3, v.b3, .ref 4⟩)
 l5 : LK (tK [95, 95, 110, 97, 109, 101, 95, 95]) v.es3 (some ⟨v.a4, v.b4, .str v.mn v.q1⟩)
 hmg : hb.Ns mainGlobals v.mg
 hbt : hb.BuiltinsAt v.mg 16
 h1 : hb.get? sysModules = some v.o1
noncomputable def KeyAt (hb : Heap) : Prop := ∃ v, KWf hb v
theorem bt_up {h h' : Heap} {mg : Str → Option Value} {P : Addr} (b : h.BuiltinsAt mg P) (up : ∀ b o, h.get? b = some o → h'.get? b = some o) : h'.BuiltinsAt mg P :=
 let ⟨bm, ob, x1, x2, x3, x4, x5, x6⟩ := b; ⟨bm, ob, x1, x2, x3, x4, up _ _ x5, x6⟩
theorem KeyAt.up {hb hb' : Heap} (K : KeyAt hb) (up : ∀ b o, hb.get? b = some o → hb'.get? b = some o) : KeyAt hb' :=
 let ⟨v, K⟩ := K
 ⟨v, up _ _ K.h21, up _ _ K.h20, up _ _ K.h2, up _ _ K.h4, up _ _ K.h3, up _ _ K.h0, K.l1, K.l2, K.l3, K.l4, K.l5, K.hmg.keeps up, bt_up K.hbt up, up _ _ K.h1⟩
theorem call_key {prog : Program} {w : World} {A : Around} {e0 : Env} {hb : Heap} {lam : Addr} {lo : Obj} {s : Shared} {Q : Value → Shared → Prop} {E : Value → Shared → Prop} (hp : prog = Challenge.pw_op0050_01) (hA : A = callerA.deeper e0) (K : KeyAt hb) (st : hb.StaysIn s.heap)
  (h16 : s.heap.get? 16 = some (tabObj #[])) (hlam : s.heap.get? lam = some lo) (hQ : ∀ C h' tk' pm, CtkOut s.heap h' pm lam C → Q (.ref C) { s with heap := h', toks := tk' }) : wpAny (model prog w) A (call (.ref 21) [.ref lam]) Q E s := by
 subst hp hA
 obtain ⟨v, K⟩ := K.up st
 obtain ⟨h, g, d, tk, os⟩ := s
 exact any_of_call (ctk K.h21 K.h20 h16 K.h2 K.h4 K.h3 K.h0 K.l1 K.l2 K.l3 K.l4 K.l5 K.hmg K.hbt K.h1 hlam fun C h' tk' o => hQ C h' tk' _ o)
theorem cls_of {c : Cx} {h h' : Heap} {pm : Value} {lam C : Addr} (o : CtkOut h h' pm lam C) (hn : ∀ a, h.get? a = none → a ∉ c.X ∧ a ∉ framesOf c.A) : ClsAt (baseOf c h') pm lam C := by
 refine cutG fun P_ hP_ => ?_
 obtain ⟨_, _, v, hnew, K⟩ := o
 refine hP_ ?_
 clear hP_ P_
 exact ⟨v, K.up fun a ha o e => baseOf_new e (hn a (hnew a ha)).1 (hn a (hnew a ha)).2⟩
theorem CtkOut.kp {hb : Heap} {s : Shared} {h' : Heap} {tk : Nat} {pm : Value} {lam C : Addr} (o : CtkOut s.heap h' pm lam C) : Kp hb [16] s { s with heap := h', toks := tk } :=
 ⟨h', tk, rfl, fun b ob e hb => .inl (o.1 b ob (fun z => hb (by rw [z]; exact .head _)) e)⟩
theorem TblAt.up {hb hb' : Heap} {X : List Addr} {d : Addr} {l : List (Int × Addr × List Str)} (T : TblAt hb X d l) (up : ∀ b o, hb.get? b = some o → hb'.get? b = some o) : TblAt hb' X d l :=
 ⟨by obtain ⟨ep, e⟩ := T.obj; exact ⟨ep, up _ _ e⟩, fun e he => (T.keys e he).mono fun a o ha e o_ => ⟨ha, up _ _ e⟩, T.ne⟩
noncomputable abbrev V18 (C d : Addr) (rows : List (List Nat)) (script : List Int) : List (Str × D) := ("key", .val (.ref C)) :: V17 d rows script
section
variable {c : Cx} {k : Nat} {rows : List (List Nat)} {script : List Int} {L d : Addr} {s₀ s sI : Shared} {O : List Addr} {Q : Flow → Shared → Prop} {E : Value → Shared → Prop} {c₈ : Addr}
noncomputable def Lam18 (hb : Heap) (L lam : Addr) : Prop := ∃ pm c' ctv cc, (lawEnv L).cells.lookup ("counts" : Str) = some cc ∧ hb.get? lam = some (kla_obj "<lambda>" ((lawEnv L).qual ++ "<lambda>") (lamP 18) (lamB 18) (lamS 18) [("counts", cc)] pm c' ctv) ∧ hb.CodeRec (.ref c') ((lawEnv L).qual ++ "<lambda>")
set_option maxHeartbeats 4000000 in
theorem law_key (G : Gl c.hb) (K : Lc c L) (KA : KeyAt c.hb) (hp : c.prog = Challenge.pw_op0050_01) (T : Tb sI #[] #[rawInt 138, rawInt 19, .ref c₈] s₀ O) (S : Sx (lawC c L [] (V17 d rows script) []) s₀ O s)
  (h : ∀ hb' s₁ s' lam C pm p16 p102, (∀ b o, c.hb.get? b = some o → hb'.get? b = some o) → Gl hb' → Lc { c with hb := hb' } L → ClsAt hb' pm lam C → Lam18 hb' L lam →
   Tb sI p16 p102 s₁ (mineL L) → Sx (lawC { c with hb := hb' } L [] (V18 C d rows script) []) s₁ (mineL L) s' → wpAny (model c.prog c.w) (c.A.deeper (lawEnv L)) (execs ((fBody 18).drop 19) (lawEnv L)) Q E s') :
  wpAny (model c.prog c.w) (c.A.deeper (lawEnv L)) (execs ((fBody 18).drop 18) (lawEnv L)) Q E s := by
 have hm16 : 16 ∉ mineL L := fun hm => (List.mem_append.mp hm).elim K.h16 (fun z => nomatch z)
 have hm102 : 102 ∉ mineL L := fun hm => (List.mem_append.mp hm).elim K.h102 (fun z => nomatch z)
 have offP : ∀ P, P ∈ c.X → P ∉ homes (lawEnv L) → c.hb.get? P = none → P ∉ framesOf (c.A.deeper (lawEnv L)) → Off (lawC c L [] (V17 d rows script) []) [P] := fun P h1 h2 h3 h4 =>
  ⟨fun a ha => by rw [List.mem_singleton.mp ha]; exact List.mem_append_right _ (List.mem_append_right _ h1), fun a ha => by rw [List.mem_singleton.mp ha]; exact h2, fun a ha => by rw [List.mem_singleton.mp ha]; exact h3, fun a ha => by rw [List.mem_singleton.mp ha]; exact h4⟩
 have h21 : ∃ pm, c.hb.get? 21 = some (o21 pm) := let ⟨v, K⟩ := KA; ⟨v.pm, K.h21⟩
 obtain ⟨pm0, h21⟩ := h21
 refine ex_cons ?_
 refine wpAny_Assign_Name (Call_Name rfl (wpAny_mono ((ev_gl G rfl : Ev (lawC c L [] (V17 d rows script) []) (.Name "cmp_to_key" _) (.val (.ref 21))) s _ S.ok) (fun f' s₁ h₁ => ?_) fun o_ o_ e => e)) rfl
 obtain ⟨k₁, rfl⟩ := h₁
 have S₁ := S.step k₁
 have T₁ := T.now S₁.kp
 refine callWith_any (c := lawC c L [] (V17 d rows script) []) (R := fun vs s' => ∃ lam c' pm ctv cc, vs = [.ref lam] ∧ Tb sI #[] (#[rawInt 138, rawInt 19, .ref c₈] ++ #[rawInt 159, rawInt 21, .ref c']) s' (mineL L) ∧ Sx (lawC c L [] (V17 d rows script) []) s' (mineL L) s' ∧
   s₁.heap.get? lam = none ∧ s₁.heap.get? c' = none ∧ (lawEnv L).cells.lookup ("counts" : Str) = some cc ∧ s'.heap.get? lam = some (kla_obj "<lambda>" ((lawEnv L).qual ++ "<lambda>") (lamP 18) (lamB 18) (lamS 18) [("counts", cc)] pm c' ctv) ∧ s'.heap.CodeRec (.ref c') ((lawEnv L).qual ++ "<lambda>")) S₁.ok (kpr_fn h21 rfl) ?_ (fun s₂ vs o₂ hR => ?_) rfl rfl
 ·refine spliced_more (lam_at (c := lawC c L [] (V17 d rows script) []) S₁.ok K.code (offP 102 K.x102 K.h102 K.b102 K.f102) T₁.t102 trivial rfl rfl rfl rfl (fun x hx hf => ?_) (fun lam c' ctv pm s₂ k₂ o₂ n1 n2 hne hl hcr ht => ?_)) rfl
  ·simp only [List.mem_cons, List.not_mem_nil, or_false] at hx
   rcases hx with rfl | rfl | rfl | rfl <;> first | rfl | cases hf
  ·obtain S₂ := S₁.jump k₂ o₂ K.h102
   exact spliced_none ⟨o₂, lam, c', pm, ctv, _, rfl, ⟨k₂.restTo T₁.rest, k₂.get T₁.t16 notFrame_tab (by decide), ht, hm16, hm102⟩, S₂, n1, n2, rfl, hl, hcr⟩
 ·refine cutG fun P_ hP_ => ?_
  obtain ⟨lam, c', pm, ctv, cc, rfl, T₂, S₂, n1, n2, hcc, hl, hcr⟩ := hR
  refine hP_ ?_
  clear hP_ P_
  refine call_key hp (by show c.A.deeper _ = _; rw [K.hA]) KA S₂.ok.base T₂.t16 hl fun C h' tk' pmC oC => ?_
  have k₃ : Kp c.hb [16] s₂ { s₂ with heap := h', toks := tk' } := oC.kp
  obtain o₃ : Ok (lawC c L [] (V17 d rows script) []) { s₂ with heap := h', toks := tk' } := S₂.ok.off (own' := []) k₃ (offP 16 K.x16 K.h16 K.b16 K.f16) (fun a ha => by rw [List.mem_singleton.mp ha]; obtain ⟨_, ⟨ccx, e⟩, _⟩ := oC; exact ⟨_, e⟩) (fun o_ hh => nomatch hh)
  have S₃ := S₂.jump k₃ o₃ K.h16
  obtain S₄ := S₃.freeze
  have up : ∀ b o, c.hb.get? b = some o → (baseOf (lawC c L [] (V17 d rows script) []) h').get? b = some o := fun b o e => baseOf_old (c := lawC c L [] (V17 d rows script) []) S₃.ok.base e
  have G₄ := G.up up
  obtain n16 : (baseOf (lawC c L [] (V17 d rows script) []) h').get? 16 = none := baseOf_none K.b16 (.inl (List.mem_append_right _ (List.mem_append_right _ K.x16)))
  obtain n102 : (baseOf (lawC c L [] (V17 d rows script) []) h').get? 102 = none := baseOf_none K.b102 (.inl (List.mem_append_right _ (List.mem_append_right _ K.x102)))
  obtain cls := cls_of (c := lawC c L [] (V17 d rows script) []) oC fun a ha => S₂.isNew ha
  have ne16 : ∀ {a : Addr}, s₁.heap.get? a = none → a ≠ 16 := fun {a} e z => by rw [z, T₁.t16] at e; cases e
  obtain hl' := baseOf_new (c := lawC c L [] (V17 d rows script) []) (oC.1 _ _ (ne16 n1) hl) (S₁.isNew n1).1 (S₁.isNew n1).2
  obtain hcr' := hcr.at (h' := baseOf (lawC c L [] (V17 d rows script) []) h') fun o e => baseOf_new (oC.1 _ _ (ne16 n2) e) (S₁.isNew n2).1 (S₁.isNew n2).2
  have T₃ : ∃ p16, Tb sI p16 (#[rawInt 138, rawInt 19, .ref c₈] ++ #[rawInt 159, rawInt 21, .ref c']) { s₂ with heap := h', toks := tk' } (mineL L) := by
   refine cutG fun P_ hP_ => ?_
   obtain ⟨_, ⟨ccx, e⟩, _⟩ := oC
   refine hP_ ?_
   clear hP_ P_
   exact ⟨_, k₃.restTo T₂.rest, e, k₃.get T₂.t102 notFrame_tab (by decide), hm16, hm102⟩
  obtain ⟨p16, T₃⟩ := T₃
  exact st_name (c := { lawC c L [] (V17 d rows script) [] with hb := baseOf (lawC c L [] (V17 d rows script) []) h' }) S₄ rfl (mayBind_of rfl) (d := .val (.ref C)) rfl fun s₅ S₅ => h _ _ s₅ lam C pmC p16 _ up G₄ (K.up up n16 n102 G₄.nl) cls ⟨pm, c', ctv, cc, hcc, hl', hcr'⟩ T₃ S₅
end
end Mine
end
section
open PySem PySem.W PyProof.Rows
namespace Mine
open PySem.Calls
theorem Ok.bare {c : Cx} {s : Shared} (o : Ok c s) : Ok { c with A := c.A.in1.in1, hb := baseOf { c with X := [] } s.heap, X := [], vars := [], own := [] } s where
 base := fun b o e => baseOf_of e
 frames := by
  obtain ⟨l, hl, hf⟩ := o.frames
  refine ⟨l, hl, FunFrames.hb hf.1 fun a ha => baseOf_none (hf.mem ha).1 (.inr ?_), hf.2⟩
  unfold framesOf; rw [hl]; exact ha
 xin := fun o_ h => nomatch h
 vars := fun o_ o_ h => by cases h
 own := fun o_ h => nomatch h
 home := o.home
theorem room_in {e : Env} {n : Nat} (h : n ≤ 50) : Room (callerA.deeper e).in1.in1 n := by
 obtain h1 : callerA.depth ≤ 800 := by decide
 obtain h2 : callerA.units ≤ 100 := by decide
 refine ⟨rfl, ?_, ?_⟩
 ·show callerA.depth + 1 + n < 900; grind
 ·show callerA.units + 3 + 1 + 1 + 100 * n < 9700; grind
set_option maxHeartbeats 1000000 in
theorem key_cmp {c : Cx} {L lam C cc x y : Addr} {pm v : Value} {cn : List Nat} {a b : Nat} {s : Shared} (hA : c.A = callerA.deeper (lawEnv L)) (G : Gl c.hb) (cls : ClsAt c.hb pm lam C) (LA : Lam18 c.hb L lam) (o : Ok c s) (hcc : (lawEnv L).cells.lookup ("counts" : Str) = some cc)
  (hcell : s.heap.IsCell cc (some v)) (hv : Rep [] s.heap (dIs cn) v) (ha : a < cn.length) (hb : b < cn.length) (hl : cn.length ≤ 1000) (Ix : InstI (framesOf c.A) s.heap C x (a : Int)) (Iy : InstI (framesOf c.A) s.heap C y (b : Int)) :
  wpAny (model c.prog c.w) c.A.in1.in1 (keyLt' oneType' (.ref x) (.ref y)) (fun r s' => Kp c.hb [] s s' ∧ r = decide (((cn.getD a 0 : Nat) : Int) < ((cn.getD b 0 : Nat) : Int))) (fun o_ o_ => False) s := by
 have up : ∀ b o, c.hb.get? b = some o → (baseOf { c with X := [] } s.heap).get? b = some o := fun b ob e => baseOf_old (c := { c with X := [] }) o.base e
 have new : ∀ {b : Addr} {ob : Obj}, s.heap.get? b = some ob → notFrame ob → (baseOf { c with X := [] } s.heap).get? b = some ob := fun {b ob} e hn => baseOf_new e (fun h => nomatch h) (o.offFrames e hn)
 refine cutG fun P_ hP_ => ?_
 obtain ⟨pm', c', ctv, cc', hcc', hlam, hcr⟩ := LA
 obtain rfl := Option.some.inj (hcc.symm.trans hcc')
 have G₂ := G.up up
 have inst : ∀ {z : Addr} {i : Int}, InstI (framesOf c.A) s.heap C z i → InstI (framesOf c.A) (baseOf { c with X := [] } s.heap) C z i := fun {z i} h => by
  obtain ⟨dx, t, ob, e, ed, ec, hf⟩ := h
  exact ⟨dx, t, ob, new e (fun o_ o_ q => by cases q), baseOf_new ed (fun h => by cases h) hf, ec, hf⟩
 have hcell₂ : (baseOf { c with X := [] } s.heap).IsCell cc (some v) := by
  obtain ⟨ob, e, hd⟩ := hcell
  exact ⟨ob, new e (fun o_ o_ q => by cases hd.symm.trans q), hd⟩
 obtain ⟨a0, vs, n, rfl, _, hg, hr⟩ := hv
 refine hP_ ?_
 clear hP_ P_
 have hg₂ := new hg notFrame_list
 refine wpAny_mono (lt_call (c := { c with A := c.A.in1.in1, hb := baseOf { c with X := [] } s.heap, X := [], vars := [], own := [] }) (e0 := lawEnv L) (k := 20) (by show Room c.A.in1.in1 _; rw [hA]; exact room_in (by omega)) G₂.nl (by show c.A.in1.in1 = _; rw [hA]) (cls.up up) (inst Ix) (inst Iy) (up _ _ hlam) rfl
  (fun L2 f cdv cl q => lam18_call (k := 17) (Room.deeper (k := 19) (by show Room c.A.in1.in1 _; rw [hA]; exact room_in (by omega)) _) G₂ G₂.nl (up _ _ hlam) (hcr.at fun o => up _ o) hcell₂ (fun s₂ o₂ => ?_) ha hb hl) o.bare) (fun r s' h => ⟨h.1.hbMono up, h.2.trans ?_⟩) fun o_ o_ e => e
 ·have hne : a0 ≠ (envX q (kFnS 3) L2 f cdv cl).locals := fun z => by
   obtain ⟨l, hl, hf⟩ := o₂.frames
   have hm : (envX q (kFnS 3) L2 f cdv cl).locals ∈ l.filterMap (·.frame) := by
    have hl' : (c.A.in1.in1.deeper (envX q (kFnS 3) L2 f cdv cl)).frames = some l := hl
    rw [hA] at hl'
    cases hl'
    exact .head _
   have := (hf.mem hm).1
   rw [← z] at this
   exact no_some (this.symm.trans hg₂)
  refine ⟨a0, vs, n, rfl, fun hm => ?_, o₂.base _ _ hg₂, ?_⟩
  ·rcases List.mem_cons.mp hm with z | z
   ·exact hne z
   ·cases z
  ·rw [dI_int] at hr ⊢
   exact ints_rep (ints_are hr)
 ·rw [Bool.eq_iff_iff, decide_eq_true_iff, decide_eq_true_iff]
  by_cases h1 : ((cn.getD b 0 : Nat) : Int) < ((cn.getD a 0 : Nat) : Int) <;> by_cases h2 : ((cn.getD a 0 : Nat) : Int) < ((cn.getD b 0 : Nat) : Int) <;> simp [h1, h2, b2i] <;> omega
end Mine
end
section
open PySem PySem.W PyProof.Rows
namespace Mine
open PySem.Calls
section
variable {c : Cx}
theorem eval_key {s : Shared} {x y : Str} {id : String} {p pos ap kp : Pos} {e : Expr} {d dk : D} {Q : Value → Shared → Prop} {E : Value → Shared → Prop} (o : Ok c s) (hf : Ev c (.Name x p) (.val (.builtin id))) (he : Ev c e d) (hk : Ev c (.Name y ap) dk)
  (h : ∀ s' v u, Kp c.hb [] s s' → Rep c.X s'.heap d v → Rep c.X s'.heap dk u → wpAny (model c.prog c.w) c.A (call (.builtin id) [v] [(Str.ofString "key", u)]) Q E s')
  (h1 : starEach [e] c.env = [(false, eval e c.env)] := by rfl) : wpAny (model c.prog c.w) c.A (eval (.Call (.Name x p) [e] [⟨some "key", .Name y ap, kp⟩] pos) c.env) Q E s := by
 rw [show eval (.Call (.Name x p) [e] [⟨some "key", .Name y ap, kp⟩] pos) c.env = (do callWith pos (← eval (.Name x p) c.env) [] (backTo pos (starEach [e] c.env)) (backToKw pos (keywordEach [⟨some "key", .Name y ap, kp⟩] c.env))) from rfl]
 refine wpAny_bind (wpAny_mono (hf s E o) (fun f' s₁ h₁ => ?_) fun o_ o_ e => e)
 obtain ⟨k₁, rfl⟩ := h₁
 refine callWith_kw (wpAny_mono (evs_cons he evs_nil h1 pos s₁ E (o.kp k₁)) (fun vs s₂ h₂ => ?_) fun o_ o_ e => e) (by rw [h1]; rfl) (by rw [h1]; rfl)
 obtain ⟨k₂, v, _, rfl, hv, rfl⟩ := h₂
 have o₂ := (o.kp k₁).kp k₂
 refine kws_cons (wpAny_mono (hk s₂ E o₂) (fun u s₃ h₃ => kws_nil ?_) fun o_ o_ e => e)
 obtain ⟨k₃, hu⟩ := h₃
 exact h s₃ v u ((k₁.trans k₂).trans k₃) (k₃.rep (fun o_ h => (nomatch h)) hv) hu
theorem ev_c3 {k : Nat} (hr : Room c.A (k + 1)) {hb₀ : Heap} (G : Gl hb₀) {x : Str} {p pos : Pos} {e : Expr} {g : List (List Str)} {res : List Str} (hf : Ev c (.Name x p) (.val (.ref 35))) (he : EvoT (TL (TL noT)) c [] c.own e (.list (g.map dStrs)))
  (hok : ∀ s ∈ g, ∀ x ∈ s, PyData.strOk x = true) (hsz : c3len g ≤ 900) (hlen : ∀ s ∈ g, s.length ≤ 1000) (hgl : g.length ≤ 1000) (hres : c3F (c3len g + 1) g = some res) (hh : c.hb = hb₀ := by rfl)
  (h1 : starEach [e] c.env = (false, eval e c.env) :: starEach [] c.env := by rfl) (h2 : (starEach [e] c.env).any (·.1) = false := by rfl) : Ev c (.Call (.Name x p) [e] [] pos) (dStrs res) := fun s E o => by
 subst hh
 refine Call_Name rfl (wpAny_mono (hf s E o) (fun f' s₁ h₁ => ?_) fun o_ o_ e => e)
 obtain ⟨k₁, rfl⟩ := h₁
 have o₁ := o.kp k₁
 refine callWith_gen (R := fun vs s' => ∃ v N, vs = [v] ∧ Rep c.X s'.heap (.list (g.map dStrs)) v ∧ TL (TL noT) s'.heap v N ∧ N.Nodup ∧ ∀ a ∈ N, s₁.heap.get? a = none) o₁ (FnAt.kpr (G.fn 4 35 (.head _))) ?_ (fun s₂ vs k₂ q => ?_) h1 h2
 ·refine spliced_more (wpAny_mono (he s₁ E o₁) (fun v s₂ q => ?_) fun o_ o_ e => e) h1
  refine cutG fun P_ hP_ => ?_
  obtain ⟨k₂, hv, _, N, ht, hn, hw⟩ := q
  refine hP_ ?_
  clear hP_ P_
  exact spliced_none ⟨k₂, v, N, rfl, hv, ht, hn, hw⟩
 ·refine cutG fun P_ hP_ => ?_
  obtain ⟨v, N, rfl, hrep, ⟨a, ys, n, Ns, rfl, hga, htr, rfl⟩, hnd, hnew⟩ := q
  obtain ⟨a', ys', n', ea, hax, hga', hr'⟩ := hrep
  refine hP_ ?_
  clear hP_ P_
  cases ea
  refine cutG fun P_ hP_ => ?_
  obtain ⟨rfl, rfl⟩ := listO_inj hga hga'
  obtain ⟨e1, e2, e3⟩ := new_one htr hr'
  refine hP_ ?_
  clear hP_ P_
  have hmap := e2
  have hnd' := (List.nodup_cons.mp hnd)
  have hin : ∀ b ∈ Ns.flatten, strsAt s₂.heap b ∈ g := fun b hb => by rw [← e2]; exact List.mem_map.mpr ⟨b, hb, rfl⟩
  obtain hlenN : Ns.flatten.length = g.length := by rw [← e2, List.length_map]
  have hnw : ∀ b ∈ Ns.flatten, s₁.heap.get? b = none := fun b hb => hnew b (.tail _ hb)
  obtain hex : ∀ b ∈ Ns.flatten, ∃ ob, s₂.heap.get? b = some ob := fun b hb => by obtain ⟨ws, m, e, _⟩ := e3 b hb; exact ⟨_, e⟩
  obtain ok' := o₁.temp (N := Ns.flatten) (M := ownM Ns.flatten (strsAt s₂.heap)) k₂ hnw hex (fun q hq => by obtain ⟨b, hb, rfl⟩ := List.mem_map.mp hq; exact hb) (fun q hq => by
   refine cutG fun P_ hP_ => ?_
   obtain ⟨b, hb, rfl⟩ := List.mem_map.mp hq
   obtain ⟨ws, m, e, r⟩ := e3 b hb
   refine hP_ ?_
   clear hP_ P_
   exact ⟨ws, m, e, strs_any r⟩)
  have hR : c3R Ns.flatten (strsAt s₂.heap) = some res := by unfold c3R; rw [hmap]; exact hres
  refine wpAny_mono (c3_call (c := { c with X := Ns.flatten ++ c.X, own := ownM Ns.flatten (strsAt s₂.heap) }) (k := k) hr G hnd'.2 (fun b hb => ownM_mem hb) (o₁.newOff hnw fun b hb => List.mem_append_left _ hb) (fun b hb => hok _ (hin b hb)) (by rw [hmap]; exact hsz) (fun b hb => hlen _ (hin b hb)) (by rw [hlenN]; exact hgl) ok' (vs := [.ref a]) ⟨_, _, rfl, ⟨a, _, _, rfl, fun hm => ?_, hga, ?_⟩, rfl⟩) (fun v s₃ q => ?_) fun e s' h => ?_
  ·rcases List.mem_append.mp hm with z | z
   ·exact hnd'.1 z
   ·exact hax z
  ·rw [e1]; exact rep_refs _
  ·refine cutG fun P_ hP_ => ?_
   obtain ⟨res', er, k₃, hv, _⟩ := q
   obtain rfl := Option.some.inj (hR.symm.trans er)
   refine hP_ ?_
   clear hP_ P_
   exact ⟨k₁.trans (Kp.dropNew k₂ k₃ hnw), hv.sub fun b hb => List.mem_append_right _ hb⟩
  ·rw [hR] at h; cases h.1
end
theorem ord_all {p : List Nat} {n : Nat} (h1 : p.length = n) (h2 : p.Nodup) (h3 : ∀ i ∈ p, i < n) : ∀ i, i < n → i ∈ p := fun i hi => by
 by_cases hm : i ∈ p
 ·exact hm
 ·obtain this := nodup_sub_len (l := i :: p) (l' := List.range n) (List.nodup_cons.mpr ⟨hm, h2⟩) (fun x hx => List.mem_range.mpr ((List.mem_cons.mp hx).elim (fun e => e ▸ hi) (h3 x)))
  rw [List.length_cons, List.length_range] at this; grind
noncomputable abbrev V19 (l : List Nat) (C d : Addr) (rows : List (List Nat)) (script : List Int) : List (Str × D) := ("by_need", dIs l) :: V18 C d rows script
section
variable {c : Cx} {k : Nat} {rows : List (List Nat)} {script : List Int} {L d lam C : Addr} {pm : Value} {s₀ s sI : Shared} {O : List Addr} {Q : Flow → Shared → Prop} {E : Value → Shared → Prop}
structure NeedL (rows : List (List Nat)) (l : List Nat) : Prop where
 up : l.Pairwise fun a b => cnt (aheadF rows) a ≤ cnt (aheadF rows) b
 nd : l.Nodup
 mem : ∀ t, t ∈ l ↔ t ∈ rows.flatten
theorem need_of {left p : List Nat} (hl : left.Nodup) (hm : ∀ t, t ∈ left ↔ t ∈ rows.flatten) (hO : Ord (fun i => ((cnt (aheadF rows) (left.getD i 0) : Nat) : Int)) left.length p) : NeedL rows (p.map fun i => left.getD i 0) := by
 obtain ⟨h1, h2, h3, h4⟩ := hO
 refine ⟨?_, ?_, fun t => ?_⟩
 ·rw [List.pairwise_map]
  exact h4.imp fun h => Int.ofNat_le.mp h
 ·unfold List.Nodup
  rw [List.pairwise_map]
  refine List.Pairwise.imp_of_mem ?_ h2
  intro i j hi hj hne e
  obtain hi' := h3 i hi
  obtain hj' := h3 j hj
  rw [List.getD_eq_getElem?_getD, List.getElem?_eq_getElem hi', List.getD_eq_getElem?_getD, List.getElem?_eq_getElem hj'] at e
  exact hne ((List.getElem_inj hl).mp e)
 ·rw [← hm, List.mem_map]
  constructor
  ·rintro ⟨i, hi, rfl⟩; exact mem_getD (h3 i hi)
  ·intro ht
   obtain ⟨i, hi, e⟩ := List.getElem_of_mem ht
   exact ⟨i, ord_all h1 h2 h3 i hi, by rw [List.getD_eq_getElem?_getD, List.getElem?_eq_getElem hi, Option.getD_some, e]⟩
theorem rep_pick {X : List Addr} {h h' : Heap} {left : List Nat} {vs : List Value} (hr : RepAll X h (left.map dI) vs) : ∀ p : List Nat, (∀ i ∈ p, i < left.length) → RepAll X h' ((p.map fun i => left.getD i 0).map dI) (p.map fun i => vs.getD i .none)
 | [], _ => rfl
 | i :: p, hp => by
  refine cutG fun P_ hP_ => ?_
  obtain ⟨v, e, t, rfl⟩ := hr.get (getD_dI (hp i (.head _)))
  refine hP_ ?_
  clear hP_ P_
  refine ⟨_, _, rfl, ⟨t, ?_⟩, rep_pick hr p fun j hj => hp j (.tail _ hj)⟩
  show vs.getD i .none = _
  rw [List.getD_eq_getElem?_getD, e]; rfl
set_option maxHeartbeats 4000000 in
theorem law_need (hr : Room c.A (k + 6)) (G : Gl c.hb) (K : Lc c L) (KA : KeyAt c.hb) (H : RowsOk rows) (hac : ∀ t, ¬ Lt rows t t) (h012 : ∀ t, t < 3 → t ∈ rows.flatten) (cls : ClsAt c.hb pm lam C) (LA : Lam18 c.hb L lam) (S : Sx (lawC c L [] (V18 C d rows script) []) s₀ O s)
  (h : ∀ s' l, NeedL rows l → Sx (lawC c L [] (V19 l C d rows script) []) s₀ O s' → wpAny (model c.prog c.w) (c.A.deeper (lawEnv L)) (execs ((fBody 18).drop 20) (lawEnv L)) Q E s') :
  wpAny (model c.prog c.w) (c.A.deeper (lawEnv L)) (execs ((fBody 18).drop 19) (lawEnv L)) Q E s := by
 have hr' := hr.deeper (lawEnv L)
 have hA : (lawC c L [] (V18 C d rows script) []).A = callerA.deeper (lawEnv L) := by show c.A.deeper _ = _; rw [K.hA]
 obtain hm0 : ∀ t, t ∈ dueF rows [0, 1, 2] ↔ t ∈ rows.flatten := fun t => due_mem H hac (.head _)
 obtain h6 : ∀ t ∈ dueF rows [0, 1, 2], t < 6 := due_lt H hac (.head _)
 have hlm : ∀ t, t ∈ left0 (dueF rows [0, 1, 2]) ↔ t ∈ rows.flatten := fun t => (left0_mem h6).trans (hm0 t)
 obtain hln := left0_nodup (dueF rows [0, 1, 2])
 obtain hl6 : (left0 (dueF rows [0, 1, 2])).length ≤ 6 := Nat.le_trans (List.length_filter_le _ _) (by simp)
 obtain hl3 : 3 ≤ (left0 (dueF rows [0, 1, 2])).length := nodup_sub_len (l := [0, 1, 2]) (by decide) (fun x hx => (hlm x).mpr (h012 x (by simp at hx; grind)))
 have hlt : ∀ t ∈ left0 (dueF rows [0, 1, 2]), t < 6 := fun t ht => List.mem_range.mp (List.mem_filter.mp ht).1
 refine ex_cons ?_
 refine wpAny_Assign_Name (eval_key S.ok (ev_bi G rfl) (d := dIs (left0 (dueF rows [0, 1, 2]))) (ev_compA (l := List.range 6) (g := dI) (f := dI) (p := fun t => decide (t ∈ dueF rows [0, 1, 2])) dI_inj ((src_range1 (n := 6) (Ob := []) hr' (ev_bi G rfl) ev_int (by grind)).as (range_dI 6)) rfl (by intro q hq; cases hq) (fun t C Dd I ht => tests_one (et_cmp (ev_var rfl) (ev_item (ds := (duesL rows).map dIs) (k := 0) (x := dIs (dueF rows [0, 1, 2])) (ev_var rfl) .val ev_int (by grind) (by grind) rfl) (cmp_inS hr' .val (simp_dI _) (simps_map simp_dI _) (depth_dI _) (by rw [mem_map_inj dI_inj]; simp)))) (fun t C Dd I ht o_ => ev_var rfl) (by decide)) (ev_var (d := .val (.ref C)) rfl) (fun s₁ v u k₁ hv hu => ?_) rfl) rfl
 cases hu
 refine cutG fun P_ hP_ => ?_
 obtain ⟨a, vs, n, rfl, hax, hg, hvs⟩ := hv
 have hvl := hvs.length
 rw [List.length_map] at hvl
 have S₁ := S.step k₁
 obtain ⟨vc, hvc, hrc⟩ := S₁.ok.vars "counts" (dIs (cntL rows)) rfl
 obtain ⟨pm', c', ctv, cc, hcc, hlam, hcr⟩ := id LA
 refine hP_ ?_
 clear hP_ P_
 obtain hcell : s₁.heap.IsCell cc (some vc) := by
  rcases hvc with ⟨hk, _⟩ | ⟨_, cc', hcc', hcl⟩
  ·cases hk
  ·have : (lawEnv L).cells.lookup ("counts" : Str) = some cc' := hcc'
   obtain rfl := Option.some.inj (hcc.symm.trans this); exact hcl
 obtain hcl6 : (cntL rows).length = 6 := by unfold cntL; rw [List.length_map, List.length_range]
 have hcg : ∀ t, t < 6 → (cntL rows).getD t 0 = cnt (aheadF rows) t := fun t ht => by
  unfold cntL
  rw [List.getD_eq_getElem?_getD, List.getElem?_map, List.getElem?_range ht]; rfl
 refine sorted_K (fr := framesOf (lawC c L [] (V18 C d rows script) []).A) (hb := c.hb) (C := C) (kf := fun i => (((left0 (dueF rows [0, 1, 2])).getD i 0 : Nat) : Int)) (c := fun i => ((cnt (aheadF rows) ((left0 (dueF rows [0, 1, 2])).getD i 0) : Nat) : Int)) hg (by grind) (by grind) (fun i v s' hv k' => ?_) (fun i j x y s' hi hj k' Ix Iy => ?_) (fun D p s' n' hO k' hD hg' => ?_)
 ·obtain hi : i < (left0 (dueF rows [0, 1, 2])).length := by have := (List.getElem?_eq_some_iff.mp hv).1; grind
  refine cutG fun P_ hP_ => ?_
  obtain ⟨v', e1, t, rfl⟩ := hvs.get (getD_dI hi)
  obtain rfl := Option.some.inj (hv.symm.trans e1)
  have st := (S₁.step k').ok.base
  obtain ⟨kv, K1⟩ := cls
  refine hP_ ?_
  clear hP_ P_
  show wpAny _ (lawC c L [] (V18 C d rows script) []).A.in1.in1 _ _ _ _
  rw [hA]
  refine newK (K1.up fun a o_ => st a) (G.nl.keeps st) fun v s'' q => ?_
  refine cutG fun P_ hP_ => ?_
  obtain ⟨x, dx, hh, tk, rfl, rfl, keep, _, hx, hd, hn⟩ := q
  refine hP_ ?_
  clear hP_ P_
  refine ⟨Kp.of_all ⟨hh, tk, rfl⟩ keep, x, rfl, dx, t, _, hx, hd, rfl, fun hm => ?_⟩
  obtain ⟨l, hl, hf⟩ := (S₁.step k').ok.frames
  unfold framesOf at hm
  rw [show (callerA.deeper (lawEnv L)).frames = some l by rw [← hA]; exact hl] at hm
  refine cutG fun P_ hP_ => ?_
  obtain ⟨_, _, _, h1, _⟩ := hf.2 dx hm
  refine hP_ ?_
  clear hP_ P_
  exact no_some (hn.symm.trans h1)
 ·obtain hi' : i < (left0 (dueF rows [0, 1, 2])).length := by grind
  obtain hj' : j < (left0 (dueF rows [0, 1, 2])).length := by grind
  obtain hi6 := hlt _ (mem_getD hi')
  obtain hj6 := hlt _ (mem_getD hj')
  obtain o' := (S₁.step k').ok
  obtain hcell' : s'.heap.IsCell cc (some vc) := by
   obtain ⟨ob, e, hd⟩ := hcell
   exact ⟨ob, k'.get e (fun o_ o_ q => by cases hd.symm.trans q) (fun h => nomatch h), hd⟩
  obtain hrc' : Rep [] s'.heap (dIs (cntL rows)) vc := (k'.rep (X := (lawC c L [] (V18 C d rows script) []).X) (fun o_ h => nomatch h) hrc).sub fun o_ h => nomatch h
  have key := key_cmp (c := lawC c L [] (V18 C d rows script) []) hA G cls LA o' hcc hcell' hrc' (by grind) (by grind) (by grind) Ix Iy
  rw [hcg _ hi6, hcg _ hj6] at key
  exact key
 ·rw [hvl] at hO
  obtain S₂ := S₁.step k'
  obtain hDx := (S₁.isNew hD).1
  refine st_name (c := lawC c L [] (V18 C d rows script) []) S₂ rfl (mayBind_of rfl) (d := dIs (p.map fun i => (left0 (dueF rows [0, 1, 2])).getD i 0)) ⟨D, _, n', rfl, hDx, hg', rep_pick hvs p hO.2.2.1⟩ fun s₃ S₃ => h s₃ _ (need_of hln hlm hO) S₃
set_option maxHeartbeats 4000000 in
theorem law_if20 (hr : Room c.A (k + 6)) (G : Gl c.hb) (K : Lc c L) (H : RowsOk rows) (hac : ∀ t, ¬ Lt rows t t) {l : List (Int × Addr × List Str)} {nl : List Nat} (TA : TblAt c.hb (homes (lawEnv L) ++ c.X) d l) (hl : l.map (·.2.2) = fsS [] (oneL rows)) (N : NeedL rows nl)
  (S : Sx (lawC c L [] (V19 nl C d rows script) []) s₀ O s)
  (h : ∀ s', Sx (lawC c L [] (V19 nl C d rows script) []) s₀ O s' → wpAny (model c.prog c.w) (c.A.deeper (lawEnv L)) (execs ((fBody 18).drop 21) (lawEnv L)) Q E s') :
  wpAny (model c.prog c.w) (c.A.deeper (lawEnv L)) (execs ((fBody 18).drop 20) (lawEnv L)) Q E s := by
 have hr' := hr.deeper (lawEnv L)
 have hll : l.length = (fsS [] (duesL rows)).length := by
  have := congrArg List.length hl
  rw [List.length_map, fs_one H hac, List.length_map] at this; exact this
 have h6 := fsS_len (duesL rows) []
 have hdl : (duesL rows).length = 6 := by unfold duesL; rw [List.length_map]; rfl
 have hA : (lawC c L [] (V19 nl C d rows script) []).A = callerA.deeper (lawEnv L) := by show c.A.deeper _ = _; rw [K.hA]
 refine ex_cons ?_
 refine ex_if S (b := (((l.length : Nat) : Int) == 1) && (decide (nl ≠ dueF rows [0, 1, 2]) && true)) (et_and (et_cmp (ev_len_d hA TA (by grind) (ev_bi G rfl) (ev_var rfl)) ev_int cmp_eq_int) (fun o_ => et_and (et_cmp (ev_var rfl) (ev_item (ds := (duesL rows).map dIs) (k := 0) (x := dIs (dueF rows [0, 1, 2])) (ev_var rfl) .val ev_int (by grind) (by grind) rfl) (cmp_neS hr' (simp_dIs _) (simp_dIs _) (depth_dIs _) ?_)) (fun o_ => et_and_nil))) (fun hb => ?_) (fun o_ s' S' => ex_nil (h s' S'))
 ·rw [decide_eq_true_iff]
  exact not_congr ⟨fun e => by rw [e], fun e => dIs_inj _ _ e⟩
 ·exfalso
  rw [Bool.and_true, Bool.and_eq_true, beq_iff_eq, decide_eq_true_iff] at hb
  obtain ⟨h1, h2⟩ := hb
  have e1 : duesL rows = dueF rows [0, 1, 2] :: [[0, 2, 1], [1, 0, 2], [1, 2, 0], [2, 0, 1], [2, 1, 0]].map (dueF rows) := rfl
  have h3 : (fsS [] (duesL rows)).length = 1 := by grind
  rw [e1, fsS_one, ← e1] at h3
  exact h2 (need_is H hac N.up N.nd N.mem fun o ho => h3 _ (List.mem_map.mpr ⟨o, ho, rfl⟩))
set_option maxHeartbeats 4000000 in
theorem law_last (hr : Room c.A (k + 6)) (G : Gl c.hb) (H : RowsOk rows) (hac : ∀ t, ¬ Lt rows t t) {nl : List Nat} (N : NeedL rows nl)
  (S : Sx (lawC c L [] (V19 nl C d rows script) []) s₀ O s) (h : ∀ s', Sx (lawC c L [] (V19 nl C d rows script) []) s₀ O s' → Q (.ret (.bool true)) s') :
  wpAny (model c.prog c.w) (c.A.deeper (lawEnv L)) (execs ((fBody 18).drop 21) (lawEnv L)) Q E s := by
 have hr' := hr.deeper (lawEnv L)
 obtain h6 := h6_of H
 have hl3 := H.l3
 have nok : rowOk nl := ⟨fun t ht => flat6 h6 t ((N.mem t).mp ht), N.nd⟩
 have hall : ∀ r ∈ nl :: rows, rowOk r := fun r hr => (List.mem_cons.mp hr).elim (fun e => e ▸ nok) (H.ok r)
 have hlen : ∀ r ∈ nl :: rows, r.length ≤ 6 := fun r hr => nodup_lt_len (hall r hr)
 obtain hg : (nl :: rows).map dNs = ((nl :: rows).map (List.map nm)).map dStrs := by rw [List.map_map]; exact List.map_congr_left fun r o_ => dNs_strs r
 obtain hc3 : c3len ((nl :: rows).map (List.map nm)) ≤ 24 := by
  rw [c3len_map]
  unfold c3len
  match rows, hl3 with
  | [a, b, d], _ =>
   obtain h0 := hlen nl (.head _)
   obtain ha := hlen a (.tail _ (.head _))
   obtain hb := hlen b (.tail _ (.tail _ (.head _)))
   obtain hd := hlen d (.tail _ (.tail _ (.tail _ (.head _))))
   simp only [List.map_cons, List.map_nil, List.sum_cons, List.sum_nil]; grind
 refine ex_cons ?_
 refine ex_return S (d := .bool true) (ev_cmp (dl := dStrs (nl.map nm)) (dr := dStrs (nl.map nm)) (ev_c3 (k := k + 4) hr' G (g := (nl :: rows).map (List.map nm)) (ev_gl G rfl) ?_ ?_ (by grind) ?_ ?_ (c3_need H hac N.up N.nd N.mem rfl)) ?_ (cmp_eqS hr' (simp_dStrs nms_ok) (simp_dStrs nms_ok) (by have := depth_dStrs (nl.map nm); grind) (by simp))) (fun s' v S' hv => ?_)
 ·rw [← hg]
  obtain e : (nl :: rows).map dNs = (((nl :: rows).filter fun o_ => true).map dNs) := by rw [List.filter_eq_self.mpr (fun o_ o_ => rfl)]
  rw [e]
  refine evoT_comp (tree_TL tree_noT) (src_list (ds := (nl :: rows).map dIs) hr' ((ev_cat (xs := [dIs nl]) (ys := rows.map dIs) (ev_list (evs_cons (ev_var rfl) evs_nil) (by show 1 ≤ sizeLine; unfold sizeLine; grind)) .val (ev_var rfl) .val (by rw [List.length_map, hl3]; show 1 + 3 ≤ sizeLine; unfold sizeLine; grind)).weak rfl)) (by intro q hq; cases hq) (names_of_block (x := "row") rfl) (@runs_TA _ _ (tree_TL tree_noT) _ dIs dNs (nl :: rows) (fun o_ => true) _ _ _ _ _ _ _ dIs_inj (by rfl) (by intro q hq; cases hq) (fun r C2 D2 I2 hk => tests_nil) (fun r C2 D2 I2 hk o_ => ?_) ?_)
  ·exact evoT_named hr' G (hall r hk).1 (Nat.le_trans (hlen r hk) (by grind)) (ev_gl G rfl) (ev_var rfl)
  ·rw [List.length_cons, hl3]; grind
 ·intro s hs x hx
  obtain ⟨r, _, rfl⟩ := List.mem_map.mp hs
  exact nms_ok x hx
 ·intro s hs
  obtain ⟨r, hr2, rfl⟩ := List.mem_map.mp hs
  have := hlen r hr2
  rw [List.length_map]; grind
 ·rw [List.length_map, List.length_cons, hl3]; grind
 ·rw [← dNs_strs]
  exact ev_call (ev_gl G rfl) (evs_cons (ev_var rfl) evs_nil) (FnAt.kpr (G.fn 17 100 (by simp))) (named_spec hr' G nok.1 (Nat.le_trans (nodup_lt_len nok) (by grind)))
 ·cases hv; exact h s' S'
end
end Mine
end
section
open PySem PySem.W PyProof.Rows
namespace Mine
open PySem.Calls
structure LawEnd (hb : Heap) (sI : Shared) (f : Flow) (s' : Shared) : Prop where
 val : f = .ret (.bool true)
 keep : hb.StaysIn s'.heap
 rest : ∃ h tk, s' = { sI with heap := h, toks := tk }
 t16 : ∃ ps, s'.heap.get? 16 = some (tabObj ps)
 t102 : ∃ ps, s'.heap.get? 102 = some (tabObj ps)
theorem LawEnd.of {c : Cx} {hb : Heap} {sI s₀ s' : Shared} {O : List Addr} {p16 p102 : Array Value} (T : Tb sI p16 p102 s₀ O) (S : Sx c s₀ O s') (up : ∀ b o, hb.get? b = some o → c.hb.get? b = some o) : LawEnd hb sI (.ret (.bool true)) s' :=
 have T' := T.now S.kp
 ⟨rfl, fun b o e => S.ok.base b o (up b o e), T'.rest, ⟨_, T'.t16⟩, ⟨_, T'.t102⟩⟩
section
variable {c : Cx} {k : Nat} {script : List Int} {L : Addr} {s₀ s sI : Shared} {O : List Addr}
set_option maxHeartbeats 4000000 in
theorem law_body (hr : Room c.A (k + 6)) (G : Gl c.hb) (K : Lc c L) (KA : KeyAt c.hb) (hp : c.prog = Challenge.pw_op0050_01) (hs : script.length ≤ 1000) (T : Tb sI #[] #[] s₀ O)
  (S : Sx (fnCx c (lawEnv L) [("script", .list (script.map .int))] []) s₀ O s) : wpAny (model c.prog c.w) (c.A.deeper (lawEnv L)) (execs (fBody 18) (lawEnv L)) (LawEnd c.hb sI) (fun o_ o_ => False) s := by
 have H := rowsF_ok script
 have h012 := rows_three script
 refine law_one hr G hs rfl H.l3 (h6_of H) (fun r hr => nodup_lt_len (H.ok r hr)) S fun s₁ ass ct n1 n2 n3 S₁ => ?_
 refine law_two hr G H n1 n2 n3 S₁ (fun c' s' e S' => LawEnd.of T S' fun b o q => e ▸ q) fun hself s₂ S₂ => ?_
 have hac := self_none H hself
 obtain hne : (rowsF script).flatten ≠ [] := fun q => by have := h012 0 (by grind); rw [q] at this; cases this
 obtain hol : ∀ o ∈ oneL (rowsF script), (o.map D.str).length ≤ sizeLine := fun o ho => by
  obtain ⟨t, ht, rfl⟩ := List.mem_map.mp ho
  obtain ⟨z, hz, rfl⟩ := List.mem_map.mp ht
  have := due_len H hac hz
  rw [List.length_map, List.length_map]; unfold sizeLine; grind
 refine law_due hr G H hac S₂ fun s₃ S₃ => law_if7 hr G H hac S₃ fun s₄ S₄ => ?_
 refine law_whole hr G K H T S₄ fun s₅ s₆ c₈ T₆ S₆ => ?_
 refine law_if9 hr G H S₆ fun s₇ S₇ => law_lost hr G H S₇ fun s₈ S₈ => law_over hr G H S₈ fun s₉ S₉ => law_for hr G H hac hne S₉ fun sa Sa => ?_
 refine law_told hr G K hol T₆ Sa fun hb₁ sb sc d l up₁ G₁ K₁ TA hl Tc Sc => ?_
 have KA₁ := KA.up up₁
 refine law_if14 (c := { c with hb := hb₁ }) hr G₁ K₁ H hac TA hl Sc fun sd Sd => law_apart (c := { c with hb := hb₁ }) hr G₁ H hac Sd fun se Se => law_if16 (c := { c with hb := hb₁ }) hr G₁ K₁ H hac TA hl Se fun sf Sf => law_counts (c := { c with hb := hb₁ }) hr G₁ Sf fun sg Sg => ?_
 refine law_key (c := { c with hb := hb₁ }) G₁ K₁ KA₁ hp Tc Sg fun hb₂ sh si lam C pm p16 p102 up₂ G₂ K₂ cls LA Ti Si => ?_
 obtain KA₂ := KA₁.up up₂
 refine law_need (c := { c with hb := hb₂ }) hr G₂ K₂ KA₂ H hac h012 cls LA Si fun sj nl N Sj => ?_
 refine law_if20 (c := { c with hb := hb₂ }) hr G₂ K₂ H hac (TA.up up₂) hl N Sj fun sk Sk => ?_
 exact law_last (c := { c with hb := hb₂ }) hr G₂ H hac N Sk fun sl Sl => LawEnd.of Ti Sl fun b o q => up₂ b o (up₁ b o q)
end
end Mine
end
section
open PySem PySem.W PyProof.Rows
namespace Mine
noncomputable def cdV (vs : Array Value) : Option Str := match (vs[1]? : Option Value) with
 | some (Value.str q _) => some q
 | _ => none
noncomputable def cdN (h : Heap) (a : Addr) : Option Str := match h.get? a with
 | some o => match o.data with
  | .fields vs => cdV vs
  | _ => none
 | none => none
noncomputable def dk36 (h : Heap) : Option (Value × Option Addr × List (Value × Value) × Nat × Array (Option Value)) := match h.get? 36 with
 | some ⟨c, d, .dict es n, sl⟩ => some (c, d, es.toList.map (fun e => (e.key, e.val)), n, sl)
 | _ => none
noncomputable abbrev foO (i : Nat) (a : Addr) (dV kV pm : Value) : Obj := ⟨.type "function", none, .func (fnX (fName i) (fName i) (fArgs i) (fBody i) (fScope i) [] dV kV .none pm none (.ref (a - 1)) .none), #[]⟩
noncomputable abbrev pmF : Value := .str "cpy313.functools" 187
noncomputable abbrev pmT : Value := .str "cpy313.typing" 217
noncomputable abbrev pmU : Value := .str "cpy313.unittest.util" 249
noncomputable abbrev pmL : Value := .str "law_op0050_01" 269
noncomputable abbrev o104 : Obj := ⟨.type "code", none, .fields #[.str "law" 308, .str "law" 309, .str "/claim/cut.py" 310, .int 127 0, .int 1 0, .int 0 0, .int 0 0, .int 3 0, .ref 101, .bool true, .int 181 0, .ref 102, .none, .none, .none, .ref 103, .int 311 0, .int 127 0, .str "/claim/cut.py" 312], #[]⟩
noncomputable def kObjs : List (Addr × Obj) := [(2, ⟨.none, none, .dict ⟨[]⟩ 0, #[]⟩), (4, ⟨.type "module", some 0, .plain, #[]⟩), (16, tabObj #[]), (20, o20), (21, o21 pmF), (23, tupO [.ref 22] 0), (30, foO 3 30 (.ref 23) .none pmF), (35, foO 4 35 .none .none pmF),
 (43, foO 6 43 .none (.ref 36) pmT), (50, foO 7 50 .none .none pmT), (57, foO 8 57 .none .none pmT), (64, foO 10 64 .none .none pmU), (71, foO 11 71 .none .none pmU), (76, foO 13 76 .none .none pmL), (83, foO 14 83 .none .none pmL),
 (88, foO 15 88 .none .none pmL), (95, foO 16 95 .none .none pmL), (100, foO 17 100 .none .none pmL), (102, tabObj #[]), (104, o104), (105, foO 18 105 .none .none pmL)]
noncomputable def kCodes : List (Addr × Nat) := [(29, 3), (34, 4), (42, 6), (49, 7), (56, 8), (63, 10), (70, 11), (75, 13), (82, 14), (87, 15), (94, 16), (99, 17), (104, 18)]
noncomputable def kGl : List (Str × Option Value) := glList.map (fun p => (p.1, some (.ref p.2))) ++ biList.map (fun p => (p.1, none)) ++ [(Str.ofString "__builtins__", some (Value.ref 4)), (Str.ofString "__name__", some pmL)]
noncomputable def kBi : List (Str × Option Value) := biList.map (fun p => (p.1, some p.2)) ++ [(Str.ofString "__build_class__", some (Value.builtin "__build_class__"))]
noncomputable abbrev KObs : Type := List (Option Obj) × List (Option Str) × List (Option Value) × List (Option Value) × Option (Value × Option Addr × List (Value × Value) × Nat × Array (Option Value)) × (Bool × Bool × Bool)
noncomputable def kObs (h : Heap) : KObs := (kObjs.map fun p => h.get? p.1, kCodes.map fun p => cdN h p.1, kGl.map fun p => h.nsMap mainGlobals p.1, kBi.map fun p => h.nsMap builtinsNs p.1, dk36 h, (h.isNs mainGlobals, h.isNs builtinsNs, (h.get? sysModules).isSome))
noncomputable def kVal : KObs := (kObjs.map fun p => some p.2, kCodes.map fun p => some (fName p.2), kGl.map fun p => p.2, kBi.map fun p => p.2, some (.type "dict", none, [(.str "unhashable_fallback" 219, .bool false)], 1, #[]), (true, true, true))
noncomputable def kHk : Hook where
 α := KObs
 obs := fun s => kObs s.heap
 val := fun o_ => kVal
 says := fun o_ h => ∃ h₀ : Heap, kObs h₀ = kVal ∧ h₀.StaysIn h
 of := fun o_ s e => ⟨s.heap, e, fun o_ o_ e => e⟩
 keeps := fun _ _ _ ⟨h₀, e, st⟩ k => ⟨h₀, e, fun b o q => k b o (st b o q)⟩
noncomputable def kQ : Program := { Challenge.pw_op0050_01 with main := { Challenge.pw_op0050_01.main with body := [stAt 18] } }
noncomputable def kLoose : List Str := (glList.map (·.1)).filter fun x => x != "law"
noncomputable abbrev kD : DefRec := { name := "law", params := fArgs 18, body := fBody 18, scope := fScope 18, pos := ⟨127, 0, 163, 90⟩ }
set_option maxRecDepth 100000 in
set_option maxHeartbeats 8000000 in
theorem looks_ok : looksOpen Challenge.rw_op0050_01.row.prog = true := by
 unfold looksOpen
 repeat (with_reducible refine look_both ?_ ?_; rotate_left; (· decide +kernel))
 decide +kernel
set_option maxRecDepth 100000 in
set_option maxHeartbeats 8000000 in
theorem row_said : OpenRow.wellSaid Challenge.rw_op0050_01.row = true := by
 unfold OpenRow.wellSaid OpenRow.partSaid
 repeat (with_reducible refine look_both ?_ ?_; rotate_left; (· decide +kernel))
 exact looks_ok
set_option maxRecDepth 100000 in
set_option maxHeartbeats 8000000 in
theorem law_said : OpenLaw.wellSaid Challenge.rw_op0050_01 = true := by
 unfold OpenLaw.wellSaid
 repeat (with_reducible refine look_both ?_ ?_; rotate_left; (· decide +kernel))
 exact row_said
set_option maxRecDepth 100000 in
set_option maxHeartbeats 8000000 in
theorem hl_ok : LeftO Challenge.rw_op0050_01.row.prog kQ kLoose (fun s => xlAt kQ [] s && recOk (RowW.records Challenge.rw_op0050_01.row.toRowW) s) kHk.obs kHk.val 1096 := by
 show ∀ w, _ = _
 intro w
 kernel_rfl
set_option maxRecDepth 100000 in
set_option maxHeartbeats 8000000 in
theorem hd3 (hc : WalkO kQ kLoose (XL kQ []) kHk.says Challenge.rw_op0050_01.row.toRowW kD [] fun f vs => PySem.call f vs) : Challenge.rw_op0050_01.Holds := by
 w_on
 refine holds_law law_said fun said => ?_
 refine holds_open (q := kQ) (loose := kLoose) (Xt := fun s => xlAt kQ [] s && recOk (RowW.records Challenge.rw_op0050_01.row.toRowW) s) (XP := XL kQ []) (Yf := kHk.obs) (Ya := kHk.val) (YP := kHk.says) (d := kD) (kwd := []) (N := 1096) hl_ok kHk.of kHk.keeps (fun s e => xl_of s (Bool.and_eq_true_iff.mp e).1) XL.keeps (by rfl) (by rfl) (by rfl) (fun s e => recFacts_of (Bool.and_eq_true_iff.mp e).2) (by rfl) (by first | assumption | decide +kernel) (by decide +kernel) ⟨rfl, rfl, rfl, rfl, rfl, by decide +kernel⟩ ?hw hc
 case hw => w_witness2
end Mine
end
section
open PySem PySem.W PyProof.Rows
namespace Mine
open PySem.Calls
theorem lk_snd (k : Nat) (l : List Nat) : ∀ (es : List DictEntry) (b : Bool), (∀ e ∈ es, e.refKey = false) → (nsNameIn k l es b).2 = b
 | [], _, _ => rfl
 | e :: r, b, h => by
  unfold nsNameIn
  split
  ·rfl
  ·rw [lk_snd k l r _ fun x hx => h x (.tail _ hx), h e (.head _), Bool.or_false]
theorem lk_of {l : List DictEntry} {x : Str} (hs : StrKeys ⟨l⟩) : (∀ v, nsFind ⟨l⟩ x = some v → ∃ a b, LK x l (some ⟨a, b, v⟩)) ∧ (nsFind ⟨l⟩ x = none → LK x l none) := by
 obtain h2 : (nsNameIn x.cps.size x.cps.toList l false).2 = false := lk_snd _ _ l false fun e he => by
  obtain ⟨n, t, q⟩ := hs e (List.mem_toArray.mpr he)
  unfold DictEntry.refKey; rw [q]
 obtain h1 := nsNameIn_fst x ⟨l⟩
 have go : ∀ r, (nsNameIn x.cps.size x.cps.toList l false).1 = r → LK x l r := fun r e => by
  show XFast.xw3451499830137702736 _ _ _ _ = _
  rw [← XFast.xe3451499830137702736]
  exact Prod.ext e h2
 constructor
 ·intro v hv
  unfold nsFind findBy at hv
  obtain ⟨e, he, rfl⟩ := Option.map_eq_some_iff.mp hv
  exact ⟨e.hash, e.key, go _ (h1.trans he)⟩
 ·intro hv
  unfold nsFind findBy at hv
  exact go _ (h1.trans (Option.map_eq_none_iff.mp hv))
structure KAll (h : Heap) : Prop where
 obj : ∀ p ∈ kObjs, p.1 ≠ 16 → p.1 ≠ 102 → h.get? p.1 = some p.2
 code : ∀ p ∈ kCodes, h.CodeRec (.ref p.1) (fName p.2)
 gl : ∃ mg, h.Ns mainGlobals mg ∧ ∀ p ∈ kGl, mg p.1 = p.2
 bi : ∃ mb, h.Ns builtinsNs mb ∧ ∀ p ∈ kBi, mb p.1 = p.2
 kw : ∃ x, h.get? 36 = some ⟨.type "dict", none, .dict ⟨[⟨x, .str "unhashable_fallback" 219, .bool false⟩]⟩ 1, #[]⟩
 sys : ∃ o, h.get? sysModules = some o
theorem cdV_str {vs : Array Value} {q : Str} (e : cdV vs = some q) : ∃ t, vs[1]? = some (.str q t) := by
 unfold cdV at e
 cases hq : vs[1]? with
 | none => rw [hq] at e; exact no_some e
 | some v =>
  rw [hq] at e
  cases v with
  | str q' t => cases e; exact ⟨t, rfl⟩
  | _ => exact no_some e
theorem cdN_rec {h : Heap} {a : Addr} {q : Str} (e : cdN h a = some q) : h.CodeRec (.ref a) q := by
 unfold cdN at e
 cases ho : h.get? a with
 | none => rw [ho] at e; exact no_some e
 | some o =>
  rw [ho] at e
  obtain ⟨c, d, dt, sl⟩ := o
  cases dt with
  | fields vs =>
   obtain ⟨t, hq⟩ := cdV_str e
   exact ⟨a, _, vs, t, rfl, ho, rfl, hq⟩
  | _ => exact no_some e
theorem ns_at1 {h h' : Heap} {a : Addr} {m : Str → Option Value} (x : h.Ns a m) (k : ∀ o, h.get? a = some o → h'.get? a = some o) : h'.Ns a m :=
 let ⟨o, es, ep, e, r⟩ := x; ⟨o, es, ep, k o e, r⟩
theorem dk_one {l : List DictEntry} {k v : Value} (q : l.map (fun e => (e.key, e.val)) = [(k, v)]) : ∃ x, l = [⟨x, k, v⟩] := by
 obtain ⟨⟨x, k', v'⟩, rfl, e⟩ := List.map_eq_singleton_iff.mp q
 cases e
 exact ⟨x, rfl⟩
theorem dk36_of {h₀ : Heap} (e5 : dk36 h₀ = some (.type "dict", none, [(.str "unhashable_fallback" 219, .bool false)], 1, #[])) : ∃ x, h₀.get? 36 = some ⟨.type "dict", none, .dict ⟨[⟨x, .str "unhashable_fallback" 219, .bool false⟩]⟩ 1, #[]⟩ := by
 unfold dk36 at e5
 cases ho : h₀.get? 36 with
 | none => rw [ho] at e5; exact no_some e5
 | some o =>
  rw [ho] at e5
  obtain ⟨c, d, dt, sl⟩ := o
  cases dt with
  | dict es n =>
   obtain ⟨l⟩ := es
   obtain e6 := Option.some.inj e5
   obtain ⟨x, rfl⟩ := dk_one (congrArg (fun z => z.2.2.1) e6)
   cases congrArg (fun z => z.1) e6
   cases congrArg (fun z => z.2.1) e6
   cases congrArg (fun z => z.2.2.2.1) e6
   cases congrArg (fun z => z.2.2.2.2) e6
   exact ⟨x, rfl⟩
  | _ => exact no_some e5
theorem kAll_of {h₀ h : Heap} (e : kObs h₀ = kVal) (st : ∀ b o, b ≠ 16 → b ≠ 102 → h₀.get? b = some o → h.get? b = some o) : KAll h := by
 unfold kObs kVal at e
 simp only [Prod.mk.injEq] at e
 obtain ⟨e1, e2, e3, e4, e5, e6, e7, e9⟩ := e
 obtain f1 := List.map_inj_left.mp e1
 obtain f2 := List.map_inj_left.mp e2
 obtain f3 := List.map_inj_left.mp e3
 obtain f4 := List.map_inj_left.mp e4
 refine ⟨fun p hp h1 h2 => st _ _ h1 h2 (f1 p hp), fun p hp => (cdN_rec (f2 p hp)).at fun o => st _ o ?_ ?_, ⟨_, ns_at1 (Heap.Ns.of_isNs e6) fun o => st _ o (by decide) (by decide), f3⟩, ⟨_, ns_at1 (Heap.Ns.of_isNs e7) fun o => st _ o (by decide) (by decide), f4⟩, ?_, ?_⟩
 ·exact (by decide : ∀ p ∈ kCodes, p.1 ≠ 16) p hp
 ·exact (by decide : ∀ p ∈ kCodes, p.1 ≠ 102) p hp
 ·obtain ⟨x, e⟩ := dk36_of e5
  exact ⟨x, st _ _ (by decide) (by decide) e⟩
 ·obtain ⟨o, q⟩ := Option.isSome_iff_exists.mp e9
  exact ⟨o, st _ _ (by decide) (by decide) q⟩
theorem kTabs {h₀ : Heap} (e : kObs h₀ = kVal) : h₀.get? 16 = some (tabObj #[]) ∧ h₀.get? 102 = some (tabObj #[]) := by
 unfold kObs kVal at e
 obtain f1 := List.map_inj_left.mp (Prod.mk.inj e).1
 exact ⟨f1 (16, tabObj #[]) (List.mem_of_getElem? (i := 2) rfl), f1 (102, tabObj #[]) (List.mem_of_getElem? (i := 18) rfl)⟩
section
variable {h : Heap} (K : KAll h)
include K
theorem k_at (i : Nat) {a : Addr} {o : Obj} (hi : kObjs[i]? = some (a, o)) (h1 : a ≠ 16 := by decide) (h2 : a ≠ 102 := by decide) : h.get? a = some o := K.obj (a, o) (List.mem_of_getElem? hi) h1 h2
theorem k_nl : h.NoLimit := ⟨fun o_ => none, ⟨_, ⟨[]⟩, 0, k_at K 0 rfl, rfl, fun e he => by simp at he, fun o_ => rfl⟩, rfl⟩
theorem k_fn (i j k : Nat) {a : Addr} {dV kV pm : Value} (hi : kObjs[i]? = some (a, foO j a dV kV pm)) (hc : kCodes[k]? = some (a - 1, j)) (h1 : a ≠ 16 := by decide) (h2 : a ≠ 102 := by decide) : FnAt h a (fName j) (fArgs j) (fBody j) (fScope j) dV kV (.ref (a - 1)) :=
 ⟨⟨_, fName j, .none, pm, none, .none, k_at K i hi h1 h2, rfl⟩, K.code (a - 1, j) (List.mem_of_getElem? hc), k_nl K⟩
theorem k_gl : Gl h := by
 obtain ⟨mg, hg, fg⟩ := K.gl
 obtain ⟨mb, hb, fb⟩ := K.bi
 refine ⟨⟨mg, mb, ⟨hg, hb, k_nl K⟩, fun x v hx => ?_, fun x a hx => ?_⟩, fun i f hm => ?_⟩
 ·obtain hm := mem_of_lookup' hx
  refine ⟨fg (x, none) ?_, fb (x, some v) ?_⟩
  ·exact List.mem_append_left _ (List.mem_append_right _ (List.mem_map.mpr ⟨(x, v), hm, rfl⟩))
  ·exact List.mem_append_left _ (List.mem_map.mpr ⟨(x, v), hm, rfl⟩)
 ·exact fg (x, some (.ref a)) (List.mem_append_left _ (List.mem_append_left _ (List.mem_map.mpr ⟨(x, a), mem_of_lookup' hx, rfl⟩)))
 ·simp only [List.mem_cons, Prod.mk.injEq, List.not_mem_nil, or_false] at hm
  rcases hm with ⟨rfl, rfl⟩ | ⟨rfl, rfl⟩ | ⟨rfl, rfl⟩ | ⟨rfl, rfl⟩ | ⟨rfl, rfl⟩ | ⟨rfl, rfl⟩ | ⟨rfl, rfl⟩ | ⟨rfl, rfl⟩ | ⟨rfl, rfl⟩ | ⟨rfl, rfl⟩
  ·exact k_fn K 7 4 1 rfl rfl
  ·exact k_fn K 9 7 3 rfl rfl
  ·exact k_fn K 10 8 4 rfl rfl
  ·exact k_fn K 11 10 5 rfl rfl
  ·exact k_fn K 12 11 6 rfl rfl
  ·exact k_fn K 13 13 7 rfl rfl
  ·exact k_fn K 14 14 8 rfl rfl
  ·exact k_fn K 15 15 9 rfl rfl
  ·exact k_fn K 16 16 10 rfl rfl
  ·exact k_fn K 17 17 11 rfl rfl
theorem k_bt {P : Addr} (hP : 4 ≠ P) : ∃ mg, h.Ns mainGlobals mg ∧ h.BuiltinsAt mg P ∧ ∀ p ∈ kGl, mg p.1 = p.2 := by
 obtain ⟨mg, hg, fg⟩ := K.gl
 exact ⟨mg, hg, ⟨4, _, fg (Str.ofString "__builtins__", some (.ref 4)) (List.mem_append_right _ (.head _)), by decide, by decide, hP, k_at K 1 rfl, rfl, rfl, rfl⟩, fg⟩
theorem k_code104 : CodeHd h 104 102 := ⟨_, _, _, _, _, _, _, _, _, k_at K 19 rfl, rfl, rfl, rfl, rfl, rfl, rfl, rfl, rfl, by decide⟩
theorem k_code20 : CodeHd h 20 16 := ⟨_, _, _, _, _, _, _, _, _, k_at K 3 rfl, rfl, rfl, rfl, rfl, rfl, rfl, rfl, rfl, by decide⟩
theorem k_codeAt (n : h.get? 102 = none) : CodeAt h 104 102 := by
 obtain ⟨mg, h1, h2, _⟩ := k_bt K (P := 102) (by decide)
 exact ⟨k_code104 K, n, mg, h1, h2⟩
theorem k_red : ReduceAt h := ⟨.ref 23, .none, k_fn K 6 3 0 rfl rfl, fun s v u name doc pm an ct st => BindsTo.of_defaults (T := 23) rfl (st _ _ (k_at K 5 rfl)) rfl rfl rfl⟩
omit K in
theorem any_load {α : Type} {M : Model} {A : Around} {E : Value → Shared → Prop} {Q : α → Shared → Prop} {s : Shared} {a : Addr} {q : Option Value} {k : Obj → Sem α} {o : Obj} (ho : s.heap.get? a = some o) (x : wpAny M A (k o) Q E s) : wpAny M A (.load a q k) Q E s := wpAny_bind (m := loadPart a q) (f := k) (wpAny_loadPart ho x)
theorem k_ded : DedupAt h := by
 refine ⟨.none, .ref 36, k_fn K 8 6 2 rfl rfl, fun s v name doc pm an ct st M A E Q hq => ?_⟩
 obtain ⟨x, e⟩ := K.kw
 conv => arg 3; whnf
 refine any_load (st _ _ e) ?_
 conv => arg 3; whnf
 exact wpAny_pure hq
theorem k_key : KeyAt h := by
 refine cutG fun P_ hP_ => ?_
 obtain ⟨mg, hg, hbt, fg⟩ := k_bt K (P := 16) (by decide)
 obtain ⟨mb, hb, fb⟩ := K.bi
 obtain ⟨o1, h1⟩ := K.sys
 obtain ⟨⟨c3, d3, dt3, s3⟩, ⟨es3⟩, n3, q3, r3, t3, f3⟩ := id hg
 obtain ⟨⟨c0, d0, dt0, s0⟩, ⟨es0⟩, n0, q0, r0, t0, f0⟩ := id hb
 dsimp only at r3 r0
 subst r3 r0
 have g1 := fb (Str.ofString "__build_class__", some (.builtin "__build_class__")) (List.mem_append_right _ (.head _))
 have g2 := fg (Str.ofString "object", none) (List.mem_append_left _ (List.mem_append_right _ (List.mem_of_getElem? (i := 13) rfl)))
 have g3 := fb (Str.ofString "object", some (.type "object")) (List.mem_append_left _ (List.mem_of_getElem? (i := 13) rfl))
 have g4 := fg (Str.ofString "__builtins__", some (.ref 4)) (List.mem_append_right _ (.head _))
 have g5 := fg (Str.ofString "__name__", some pmL) (List.mem_append_right _ (.tail _ (.head _)))
 dsimp only at g1 g2 g3 g4 g5
 rw [← f0] at g1 g3
 rw [← f3] at g2 g4 g5
 obtain ⟨a1, b1, l1⟩ := (lk_of t0).1 _ g1
 obtain l2 := (lk_of t3).2 g2
 obtain ⟨a2, b2, l3⟩ := (lk_of t0).1 _ g3
 obtain ⟨a3, b3, l4⟩ := (lk_of t3).1 _ g4
 obtain ⟨a4, b4, l5⟩ := (lk_of t3).1 _ g5
 refine hP_ ?_
 clear hP_ P_
 exact ⟨⟨a1, a2, a3, a4, b1, b2, b3, b4, _, _, pmF, c0, c3, d0, d3, es0, es3, n0, n3, s0, s3, mg, o1⟩, k_at K 4 rfl, k_at K 3 rfl, k_at K 0 rfl, k_at K 1 rfl, q3, q0, l1, l2, l3, l4, l5, hg, hbt, h1⟩
end
end Mine
end
section
open PySem PySem.W PyProof.Rows
namespace Mine
open PySem.Calls
set_option tactic.hygienic true in
set_option maxHeartbeats 4000000 in
theorem wk : WalkO kQ kLoose (XL kQ []) kHk.says Challenge.rw_op0050_01.row.toRowW kD [] fun f vs => PySem.call f vs := by
 intro w s₀ s₁ mg mb G Y fa o pm cd doc dV kV ho hd hcd hD hmg hg args vals as hpre hlay hrd hwl hlo
 wrow_args hpre hlay hrd hwl hlo
 rename_i script hs hl0 hL1 hr1 hl2 as4 as3 la vs as0 hL ra hW r0 hI hrr hc1 hc2
 obtain ⟨h₀, e0, st0⟩ := Y
 have t0 := kTabs e0
 have h16 := st0 _ _ t0.1
 have h102 := st0 _ _ t0.2
 obtain n16 : (hideAll s₁.heap [16, 102]).get? 16 = none := hideAll_none _ (.head _)
 have n102 : (hideAll s₁.heap [16, 102]).get? 102 = none := hideAll_none _ (.tail _ (.head _))
 have K : KAll (hideAll s₁.heap [16, 102]) := kAll_of e0 fun b ob h1 h2 e => hideAll_get _ (st0 b ob e) (by simp [h1, h2])
 have K1 : KAll s₁.heap := kAll_of e0 fun b ob o_ o_ e => st0 b ob e
 obtain hfa : fa = 105 := by
  obtain ⟨mg', hg', fg⟩ := K1.gl
  obtain e1 : mg' = mg := ns_unique hg' G.T.g
  have := fg (Str.ofString "law", some (.ref 105)) (List.mem_append_left _ (List.mem_append_left _ (List.mem_of_getElem? (i := 14) rfl)))
  rw [e1] at this
  have h2 : mg (Str.ofString "law") = some (.ref fa) := hmg
  rw [this] at h2
  injection h2 with h2; injection h2 with h2; exact h2.symm
 subst hfa
 have hlist : s₁.heap.get? la = some (listO vs 0) := by
  have hW' : Well w.params s₁.heap (.ref la) (.list (ofPys (script.map PyData.int))) := hW
  cases hW' with
  | list e _ =>
   obtain ⟨ob, e1, _, n, e2⟩ := hL
   obtain rfl := Option.some.inj (e.symm.trans e1)
   cases e2
   exact e
 obtain hT : TabsAt [(20, 16), (104, 102)] s₁.heap := by
  intro q hq
  simp only [List.mem_cons, List.not_mem_nil, or_false] at hq
  rcases hq with rfl | rfl
  ·exact ⟨k_code20 K1, h16⟩
  ·exact ⟨k_code104 K1, h102⟩
 refine enter_call (kn_post (tabs := [(20, 16), (104, 102)]) hT (fun o_ o_ => rfl) ?_)
 obtain e3 : ∃ o3, s₁.heap.get? 3 = some o3 := by obtain ⟨mg', ⟨ob, _, _, e, _⟩, _⟩ := K1.gl; exact ⟨ob, e⟩
 obtain hlx : la ∉ ([16, 102] : List Addr) := fun hm => by
  simp only [List.mem_cons, List.not_mem_nil, or_false] at hm
  rcases hm with rfl | rfl
  ·cases h16.symm.trans hlist
  ·cases h102.symm.trans hlist
 obtain hbase : (hideAll s₁.heap [16, 102]).StaysIn s₁.heap := fun b ob e => of_hideAll _ e
 obtain ok : Ok { prog := Challenge.pw_op0050_01, w := w, A := callerA, hb := hideAll s₁.heap [16, 102], env := envX "" (fScope 18) 3 105 .none [], X := [16, 102], vars := [] } s₁ := by
  refine ⟨hbase, ⟨[], rfl, trivial, (fun o_ h => nomatch h)⟩, fun a ha => ?_, (fun o_ o_ h => by cases h), (fun o_ h => nomatch h), fun a ha => ?_⟩
  ·have ha' : a ∈ ([16, 102] : List Addr) := ha
   simp only [List.mem_cons, List.not_mem_nil, or_false] at ha'
   rcases ha' with rfl | rfl
   ·exact ⟨_, h16⟩
   ·exact ⟨_, h102⟩
  ·have ha' : a ∈ ([3] : List Addr) := ha
   rw [List.mem_singleton.mp ha']; exact e3
 have rc : Room callerA 40 := ⟨rfl, by decide, by decide⟩
 refine enter_fn (c := { prog := Challenge.pw_op0050_01, w := w, A := callerA, hb := hideAll s₁.heap [16, 102], env := envX "" (fScope 18) 3 105 .none [], X := [16, 102], vars := [] }) (k := 39) (k_fn K 20 18 12 rfl rfl : FnAt (hideAll s₁.heap [16, 102]) 105 (fName 18) (fArgs 18) (fBody 18) (fScope 18) .none .none (.ref (105 - 1))) (bd := [("script", .list (script.map .int))]) (ow := []) (binds := [("script", .ref la)])
  ok rc (fun name doc pm an ct => BindsTo.of_eq rfl) rfl ⟨_, _, rfl, ⟨la, vs, 0, rfl, hlx, hlist, ints_rep hI⟩, rfl⟩ (by exact (by decide : (["script"] : List Str).Nodup)) (fun n => by rfl) (fun o_ h => nomatch h) .nil ⟨(fun o_ h => nomatch h), (fun o_ h => nomatch h), (fun o_ h => nomatch h), (fun o_ h => nomatch h)⟩ (fun L s₂ hL S => ?_) (by exact (by decide : (["counts", "whole", "due", "merges", "ahead", "rows"] : List Str).Nodup)) rfl rfl rfl
 have old : ∀ {a : Addr} {ob : Obj}, s₁.heap.get? a = some ob → a ∉ homes (lawEnv L) := fun {a ob} e hm => by
  rcases S.free a (List.mem_append_left _ hm) with z | z
  ·cases z
  ·exact no_some (z.symm.trans e)
 have offL : ∀ {a : Addr} {ob : Obj}, s₁.heap.get? a = some ob → a ∉ framesOf (callerA.deeper (lawEnv L)) := fun {a ob} e hm => by
  have : a ∈ ([L] : List Addr) := hm
  rw [List.mem_singleton.mp this, hL] at e; cases e
 obtain LC : Lc { prog := Challenge.pw_op0050_01, w := w, A := callerA, hb := hideAll s₁.heap [16, 102], env := envX "" (fScope 18) 3 105 .none [], X := [16, 102], vars := [] } L :=
  ⟨rfl, K.sys, .head _, .tail _ (.head _), n16, n102, old h16, old h102, offL h16, offL h102, k_codeAt K n102, k_red K, k_ded K⟩
 refine wpAny_mono (law_body (c := { prog := Challenge.pw_op0050_01, w := w, A := callerA, hb := hideAll s₁.heap [16, 102], env := envX "" (fScope 18) 3 105 .none [], X := [16, 102], vars := [] }) (k := 20) (rc.mono (by omega)) (k_gl K) LC (k_key K) rfl (by omega) ⟨⟨s₁.heap, s₁.toks, rfl⟩, h16, h102, (by intro h; cases h), (by intro h; cases h)⟩ S) (fun fl s' hE => ?_) fun o_ o_ h => h.elim
 obtain ⟨hv, hkeep, ⟨hh, tk, rfl⟩, p16, p102⟩ := hE
 subst hv
 obtain hpost : Challenge.rw_op0050_01.row.claim.post [ofPy (PyData.list (List.map PyData.int script))] (WData.bool true) [ofPy (PyData.list (List.map PyData.int script))] = true := by
  refine' postW_of ?s ?v ?e'
  (case s => o_shape)
  (case v => wtm_val)
  (case e' => w_fin)
 exact ⟨⟨.inl ⟨.bool true, .bool true, [], rfl, fun o_ => rfl, .bool true, hpost, fun o_ => ⟨.nil, (fun o_ h => nomatch h)⟩⟩, hkeep, rfl, hg⟩, p16, p102, trivial⟩
end Mine
set_option maxRecDepth 100000 in
theorem PySem.Challenge.cw_op0050_01_holds : PySem.Challenge.rw_op0050_01.Holds :=
  Mine.hd3 Mine.wk
end
end
