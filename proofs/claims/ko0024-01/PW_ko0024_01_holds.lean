import PyProof.Rows.All
import Wide.All
import OpenK.AllK
import Wide.FinOn
import Lean
import PySem.Challenge.RW_ko0024_01
open PySem PySem.Str PySem.W PySem.Calls PyProof.Rows
set_option Elab.async false
set_option maxRecDepth 100000
set_option linter.all false
set_option maxHeartbeats 8000000
set_option genSizeOf false
namespace Mine
noncomputable section
theorem Ae {p : Prop} (h : ∀ G : Prop, (p → G) → G) : p := h p id
structure Cx where
 prog : Program
 w : World
 b : Heap
 mg : Str → Option Value
 mb : Str → Option Value
structure Cx.Ok (c : Cx) : Prop where
 g : c.b.Ns mainGlobals c.mg
 bi : c.b.Ns builtinsNs c.mb
 lim : c.b.NoLimit
structure PM where
 pm : Addr → Option Obj
 hid : List Addr
 hok : ∀ a ∈ hid, ∃ o, pm a = some o
inductive D where
 | list (vs : List Value)
 | tup (vs : List Value)
 | cell (v : Option Value)
 | prop (P : Obj → Prop)
noncomputable def D.ok : D → Obj → Prop
 | .list vs, o => ∃ n, o = { cls := .type "list", data := .seq vs.toArray n }
 | .tup vs, o => ∃ n, o = { cls := .type "tuple", data := .seq vs.toArray n }
 | .cell v, o => o.data = .cell v
 | .prop P, o => P o
noncomputable def At (h : Heap) (a : Addr) (d : D) : Prop := ∃ o, h.get? a = some o ∧ d.ok o
theorem At.mono {h h' : Heap} {a : Addr} {d : D} (x : At h a d) (k : ∀ o, h.get? a = some o → h'.get? a = some o) : At h' a d := let ⟨o, e, r⟩ := x; ⟨o, k o e, r⟩
theorem At.lt {h : Heap} {a : Addr} {d : D} (x : At h a d) : a < h.objs.size := let ⟨_, e, _⟩ := x; Heap.lt_size e
noncomputable abbrev Led := List (Addr × D)
noncomputable def Sub (B : PM) (h : Heap) : Prop := ∀ a o, B.pm a = some o → h.get? a = some o
noncomputable def Ext (h h' : Heap) : Prop := ∀ a o, h.get? a = some o → h'.get? a = some o
noncomputable abbrev Loc := List (Str × Option Value)
noncomputable def lk (l : Loc) (x : Str) : Option Value := (l.lookup x).join
structure St where
 loc : Loc
 mu : Led
 fz : Led
 od : Led
structure Own (B : PM) (L : Addr) (σ : St) (h : Heap) : Prop where
 sub : Sub B h
 ns : h.Ns L (lk σ.loc)
 ln : (σ.loc.map (·.1)).Nodup
 LB : B.pm L = none
 mu : ∀ p ∈ σ.mu, At h p.1 p.2 ∧ B.pm p.1 = none ∧ L < p.1
 nd : (σ.mu.map (·.1)).Nodup
 fz : ∀ p ∈ σ.fz, At h p.1 p.2 ∧ L < p.1 ∧ p.1 ∉ σ.mu.map (·.1) ∧ p.1 ∉ B.hid
 od : ∀ p ∈ σ.od, At h p.1 p.2 ∧ p.1 ≠ L ∧ p.1 ∉ σ.mu.map (·.1) ∧ p.1 ∉ B.hid
noncomputable def Rm (n : Nat) (A : Around) : Prop := A.handled = none ∧ A.depth + n < recursionLimit ∧ A.units + 4 * n + 8 < cLine
theorem Rm.deeper {n : Nat} {A : Around} {env : Env} (h : Rm (n + 1) A) : Rm n (A.deeper env) := by
 obtain ⟨h1, h2, h3⟩ := h
 refine ⟨h1, ?_, ?_⟩
 ·show A.depth + 1 + n < _; lia
 ·show A.units + 3 + 4 * n + 8 < _; lia
theorem Rm.in1 {n : Nat} {A : Around} (h : Rm (n + 1) A) : Rm n A.in1 := by
 obtain ⟨h1, h2, h3⟩ := h
 refine ⟨h1, ?_, ?_⟩
 ·show A.depth + n < _; exact Nat.le_of_lt (by assumption)
 ·show A.units + 1 + 4 * n + 8 < _; lia
theorem Rm.less {n m : Nat} {A : Around} (h : Rm n A) (hm : m ≤ n) : Rm m A := by
 obtain ⟨h1, h2, h3⟩ := h
 exact ⟨h1, by lia, by lia⟩
theorem Rm.hd {n : Nat} {A : Around} (h : Rm n A) : A.handled = none := h.1
theorem Rm.room {n : Nat} {A : Around} (h : Rm n A) : A.depth < recursionLimit := by have := h.2.1; exact Nat.lt_of_le_of_lt (Nat.le_add_right _ _) this
theorem Rm.units {n : Nat} {A : Around} (h : Rm n A) : A.units < cLine := by have := h.2.2; exact Nat.lt_of_le_of_lt (Nat.le_trans (Nat.le_add_right _ _) (Nat.le_add_right _ _)) this
noncomputable abbrev No : Value → Shared → Prop := fun _ _ => False
inductive PostS (B : PM) (L : Addr) (os : OsState) (Q : St → Prop) (s' : Shared) : Prop
 | mk (hg : AllBare s'.gens) (ho : s'.os = os) (σ' : St) (hw : Own B L σ' s'.heap) (hq : Q σ')
noncomputable def Pr {α : Type} (B : PM) (L : Addr) (os : OsState) (Q : α → St → Prop) : α → Shared → Prop := fun v s' => PostS B L os (Q v) s'
noncomputable def InB (c : Cx) (B : PM) : Prop := ∀ a o, c.b.get? a = some o → B.pm a = some o
noncomputable def V {α : Type} (c : Cx) (L : Addr) (n : Nat) (t : Sem α) (Q : α → St → Prop) (σ : St) : Prop :=
 ∀ A B s, Rm n A → InB c B → Own B L σ s.heap → AllBare s.gens → wpAny (model c.prog c.w) A t (Pr B L s.os Q) No s
section
variable {c : Cx} {L : Addr} {n : Nat} {σ : St} {α β : Type}
theorem CM {x : α} {Q : α → St → Prop} (h : Q x σ) : V c L n (pure x) Q σ :=
 fun _ _ _ _ _ ho hg => wpAny_pure ⟨hg, rfl, σ, ho, h⟩
theorem An {t : Sem α} {Q Q' : α → St → Prop} (h : V c L n t Q σ) (hq : ∀ v σ', Q v σ' → Q' v σ') : V c L n t Q' σ :=
 fun A B s hr hb ho hg => wpAny_mono (h A B s hr hb ho hg) (fun _ _ ⟨a, b, σ', d, e⟩ => ⟨a, b, σ', d, hq _ _ e⟩) fun _ _ e => e
theorem Pr.next {B : PM} {os : OsState} {s' : Shared} {v : α} {Q : α → St → Prop} (h : Pr B L os Q v s') {A : Around} {m : Sem β} {R : β → St → Prop} (hr : Rm n A) (hb : InB c B)
  (hq : ∀ σ', Q v σ' → V c L n m R σ') : wpAny (model c.prog c.w) A m (Pr B L os R) No s' := by
 refine Ae (fun G_ hG_ => ?_)
 obtain ⟨hg, ho, σ', hw, hv⟩ := h
 refine hG_ ?_
 clear hG_ G_
 have := hq σ' hv A B s' hr hb hw hg
 rwa [ho] at this
theorem Ay {m : Sem α} {f : α → Sem β} {Q : β → St → Prop} (h : V c L n m (fun a σ' => V c L n (f a) Q σ') σ) : V c L n (m >>= f) Q σ :=
 fun A B s hr hb ho hg => wpAny_bind (wpAny_mono (h A B s hr hb ho hg) (fun _ _ hp => hp.next hr hb fun _ x => x) fun _ _ e => e)
theorem V_less {m : Nat} {t : Sem α} {Q : α → St → Prop} (hm : m ≤ n) (h : V c L m t Q σ) : V c L n t Q σ :=
 fun A B s hr => h A B s (hr.less hm)
theorem V_two {t : Sem β} {m : Sem α} {k : α → Sem β} {Q : β → St → Prop}
  (rule : ∀ A E s Q', wpAny (model c.prog c.w) A m (fun a s₁ => wpAny (model c.prog c.w) A (k a) Q' E s₁) E s → wpAny (model c.prog c.w) A t Q' E s)
  (h : V c L n m (fun a σ' => V c L n (k a) Q σ') σ) : V c L n t Q σ :=
 fun A B s hr hb ho hg => rule A No s _ (wpAny_mono (h A B s hr hb ho hg) (fun _ _ hp => hp.next hr hb fun _ x => x) fun _ _ e => e)
theorem V_one {t : Sem β} {m : Sem α} {f : α → β} {Q : β → St → Prop}
  (rule : ∀ A E s Q', wpAny (model c.prog c.w) A m (fun a s₁ => Q' (f a) s₁) E s → wpAny (model c.prog c.w) A t Q' E s)
  (h : V c L n m (fun a σ' => Q (f a) σ') σ) : V c L n t Q σ :=
 fun A B s hr hb ho hg => rule A No s _ (wpAny_mono (h A B s hr hb ho hg) (fun _ _ ⟨a, b, σ', d, e⟩ => ⟨a, b, σ', d, e⟩) fun _ _ e => e)
theorem GQ {t : Sem α} {Q : α → St → Prop} (f : Tok → α)
  (rule : ∀ A E s (Q' : α → Shared → Prop), Q' (f s.toks) { s with toks := s.toks + 1 } → wpAny (model c.prog c.w) A t Q' E s)
  (h : ∀ k, Q (f k) σ) : V c L n t Q σ :=
 fun _ _ s _ _ ho hg => rule _ _ s _ ⟨hg, rfl, σ, ho, h _⟩
theorem AE {t : Sem α} {Q : α → St → Prop} (x : α)
  (rule : ∀ A E s (Q' : α → Shared → Prop), Q' x s → wpAny (model c.prog c.w) A t Q' E s)
  (h : Q x σ) : V c L n t Q σ :=
 fun _ _ s _ _ ho hg => rule _ _ s _ ⟨hg, rfl, σ, ho, h⟩
theorem Own.lt {B : PM} {h : Heap} (O : Own B L σ h) : L < h.objs.size := O.ns.lt
theorem Own.ext {B : PM} {h h' : Heap} (O : Own B L σ h) (k : Ext h h') : Own B L σ h' :=
 ⟨fun a o e => k a o (O.sub a o e), O.ns.keeps k, O.ln, O.LB, fun p hp => ⟨(O.mu p hp).1.mono fun o => k _ o, (O.mu p hp).2⟩, O.nd, fun p hp => ⟨(O.fz p hp).1.mono fun o => k _ o, (O.fz p hp).2⟩, fun p hp => ⟨(O.od p hp).1.mono fun o => k _ o, (O.od p hp).2⟩⟩
theorem Own.fresh {B : PM} {h : Heap} (O : Own B L σ h) {a : Addr} (ha : h.objs.size ≤ a) : B.pm a = none ∧ L < a ∧ a ∉ σ.mu.map (·.1) ∧ a ∉ σ.fz.map (·.1) ∧ a ∉ σ.od.map (·.1) ∧ a ∉ B.hid := by
 have up : ∀ {x d}, At h x d → x ≠ a := fun e q => absurd e.lt (by rw [q]; exact Nat.not_lt.mpr ha)
 have up' : ∀ {x o}, h.get? x = some o → x ≠ a := fun e q => absurd (Heap.lt_size e) (by rw [q]; exact Nat.not_lt.mpr ha)
 refine ⟨?_, Nat.lt_of_lt_of_le O.lt ha, ?_, ?_, ?_, ?_⟩
 ·cases e : B.pm a with
  | none => rfl
  | some o => exact absurd rfl (up' (O.sub _ _ e))
 ·intro q
  obtain ⟨p, hp, e⟩ := List.mem_map.mp q
  exact absurd e (up (O.mu p hp).1)
 ·intro q
  obtain ⟨p, hp, e⟩ := List.mem_map.mp q
  exact absurd e (up (O.fz p hp).1)
 ·intro q
  obtain ⟨p, hp, e⟩ := List.mem_map.mp q
  exact absurd e (up (O.od p hp).1)
 ·intro q
  obtain ⟨o, e⟩ := B.hok a q
  exact absurd rfl (up' (O.sub _ _ e))
theorem Ext.refl (h : Heap) : Ext h h := fun _ _ e => e
theorem Ext.push (h : Heap) (o : Obj) : Ext h (h.push o) := fun _ _ e => Heap.get?_push_of_some _ e
theorem Ext.trans {h h₁ h₂ : Heap} (x : Ext h h₁) (y : Ext h₁ h₂) : Ext h h₂ := fun a o e => y a o (x a o e)
theorem Own.newMut {B : PM} {h h' : Heap} (O : Own B L σ h) (k : Ext h h') {a : Addr} {o : D} (ha : h.objs.size ≤ a) (hg : At h' a o) :
  Own B L { σ with mu := (a, o) :: σ.mu } h' := by
 refine Ae (fun G_ hG_ => ?_)
 obtain ⟨f1, f2, f3, f4, f5, f6⟩ := O.fresh ha
 refine hG_ ?_
 clear hG_ G_
 have O' := O.ext k
 have cons : ∀ {x}, x ≠ a → x ∉ σ.mu.map (·.1) → x ∉ ((a, o) :: σ.mu).map (·.1) := fun h1 h2 q => (List.mem_cons.mp q).elim h1 h2
 refine ⟨O'.sub, O'.ns, O'.ln, O'.LB, fun p hp => ?_, ?_, fun p hp => ?_, fun p hp => ?_⟩
 ·rcases List.mem_cons.mp hp with rfl | hp
  ·exact ⟨hg, f1, f2⟩
  ·exact O'.mu p hp
 ·exact List.nodup_cons.mpr ⟨f3, O.nd⟩
 ·exact ⟨(O'.fz p hp).1, (O'.fz p hp).2.1, cons (fun q => f4 (q ▸ List.mem_map_of_mem (f := (·.1)) hp)) (O'.fz p hp).2.2.1, (O'.fz p hp).2.2.2⟩
 ·exact ⟨(O'.od p hp).1, (O'.od p hp).2.1, cons (fun q => f5 (q ▸ List.mem_map_of_mem (f := (·.1)) hp)) (O'.od p hp).2.2.1, (O'.od p hp).2.2.2⟩
theorem Own.newFz {B : PM} {h h' : Heap} (O : Own B L σ h) (k : Ext h h') {a : Addr} {o : D} (ha : h.objs.size ≤ a) (hg : At h' a o) :
  Own B L { σ with fz := (a, o) :: σ.fz } h' := by
 refine Ae (fun G_ hG_ => ?_)
 obtain ⟨f1, f2, f3, f4, f5, f6⟩ := O.fresh ha
 refine hG_ ?_
 clear hG_ G_
 have O' := O.ext k
 refine ⟨O'.sub, O'.ns, O'.ln, O'.LB, O'.mu, O'.nd, fun p hp => ?_, O'.od⟩
 rcases List.mem_cons.mp hp with rfl | hp
 ·exact ⟨hg, f2, f3, f6⟩
 ·exact O'.fz p hp
theorem Own.setLoc {B : PM} {h h' : Heap} (O : Own B L σ h) {loc' : Loc} (hn : h'.Ns L (lk loc')) (hl : loc'.map (·.1) = σ.loc.map (·.1)) (hs : Heap.SameBut L h h') :
  Own B L { σ with loc := loc' } h' :=
 ⟨fun a o e => (hs.2 a (fun q => by rw [q, O.LB] at e; cases e)).trans (O.sub a o e), hn, hl ▸ O.ln, O.LB, fun p hp => ⟨(O.mu p hp).1.mono fun _ e => (hs.2 _ (Nat.ne_of_gt (O.mu p hp).2.2)).trans e, (O.mu p hp).2⟩, O.nd,
  fun p hp => ⟨(O.fz p hp).1.mono fun _ e => (hs.2 _ (Nat.ne_of_gt (O.fz p hp).2.1)).trans e, (O.fz p hp).2⟩, fun p hp => ⟨(O.od p hp).1.mono fun _ e => (hs.2 _ (O.od p hp).2.1).trans e, (O.od p hp).2⟩⟩
inductive Hl : Loc → Str → Value → Loc → Prop where
 | head {x : Str} {w : Option Value} {v : Value} {r : Loc} : Hl ((x, w) :: r) x v ((x, some v) :: r)
 | tail {x : Str} {v : Value} {p : Str × Option Value} {r r' : Loc} (h : Hl r x v r') : Hl (p :: r) x v (p :: r')
theorem Hl.names {l l' : Loc} {x : Str} {v : Value} (h : Hl l x v l') : l'.map (·.1) = l.map (·.1) := by
 induction h with
 | head => rfl
 | tail _ ih => simp [ih]
theorem Hl.mem {l l' : Loc} {x : Str} {v : Value} (h : Hl l x v l') : x ∈ l.map (·.1) := by
 induction h with
 | head => simp
 | tail _ ih => simp only [List.map_cons, List.mem_cons]; exact .inr ih
theorem Es (p : Str × Option Value) (r : Loc) (y : Str) : lk (p :: r) y = if y = p.1 then p.2 else lk r y := by
 obtain ⟨k, v⟩ := p
 unfold lk
 rw [List.lookup_cons]
 by_cases h : y = k
 ·subst h; simp
 ·have : (y == k) = false := beq_eq_false_iff_ne.mpr h
  simp [this, h]
theorem Hl.look {l l' : Loc} {x : Str} {v : Value} (h : Hl l x v l') : (l.map (·.1)).Nodup → (fun y => if y = x then some v else lk l y) = lk l' := by
 induction h with
 | @head x w v r =>
  intro _; funext y
  rw [Es, Es]
  by_cases h : y = x <;> simp [h]
 | @tail x v p r r' h ih =>
  intro hn; funext y
  obtain ⟨n1, n2⟩ := List.nodup_cons.mp hn
  have := congrFun (ih n2) y
  rw [Es, Es, ← this]
  by_cases h1 : y = x
  ·subst h1
   have : y ≠ p.1 := fun e => n1 (by show p.1 ∈ _; rw [← e]; exact h.mem)
   simp [this]
  ·simp [h1]
theorem Ps {l : Loc} {x : Str} {v : Value} : (l.map (·.1)).Nodup → (x, some v) ∈ l → lk l x = some v := by
 induction l with
 | nil => intro _ h; cases h
 | cons p r ih =>
  intro hn hm
  obtain ⟨n1, n2⟩ := List.nodup_cons.mp hn
  rw [Es]
  rcases List.mem_cons.mp hm with rfl | hm
  ·simp
  ·have : x ≠ p.1 := fun e => n1 (by show p.1 ∈ _; rw [← e]; exact List.mem_map_of_mem (f := (·.1)) hm)
   rw [if_neg this]; exact ih n2 hm
inductive Upd : Led → Addr → D → D → Led → Prop where
 | head {a : Addr} {o o' : D} {r : Led} : Upd ((a, o) :: r) a o o' ((a, o') :: r)
 | tail {a : Addr} {o o' : D} {p : Addr × D} {r r' : Led} (h : Upd r a o o' r') : Upd (p :: r) a o o' (p :: r')
theorem Upd.names {l l' : Led} {a : Addr} {o o' : D} (h : Upd l a o o' l') : l'.map (·.1) = l.map (·.1) := by
 induction h with
 | head => rfl
 | tail _ ih => simp [ih]
theorem Upd.mem {l l' : Led} {a : Addr} {o o' : D} (h : Upd l a o o' l') : (a, o) ∈ l := by
 induction h with
 | head => exact List.mem_cons_self
 | tail _ ih => exact List.mem_cons_of_mem _ ih
theorem Upd.of {l l' : Led} {a : Addr} {o o' : D} (h : Upd l a o o' l') : (l.map (·.1)).Nodup → ∀ p ∈ l', p = (a, o') ∨ (p ∈ l ∧ p.1 ≠ a) := by
 induction h with
 | head =>
  intro hn p hp
  obtain ⟨n1, n2⟩ := List.nodup_cons.mp hn
  rcases List.mem_cons.mp hp with rfl | hp
  ·exact .inl rfl
  ·exact .inr ⟨List.mem_cons_of_mem _ hp, fun e => n1 (by show _ ∈ _; rw [← e]; exact List.mem_map_of_mem (f := (·.1)) hp)⟩
 | tail h ih =>
  intro hn p hp
  obtain ⟨n1, n2⟩ := List.nodup_cons.mp hn
  rcases List.mem_cons.mp hp with rfl | hp
  ·exact .inr ⟨List.mem_cons_self, fun e => n1 (by show p.1 ∈ _; rw [e]; exact List.mem_map_of_mem (f := (·.1)) h.mem)⟩
  ·rcases ih n2 p hp with h | ⟨h1, h2⟩
   ·exact .inl h
   ·exact .inr ⟨List.mem_cons_of_mem _ h1, h2⟩
theorem Own.setMut {B : PM} {h h' : Heap} (O : Own B L σ h) {a : Addr} {o o' : D} {l' : Led} (hu : Upd σ.mu a o o' l') (hg : At h' a o') (hs : Heap.ExtBut a h h') :
  Own B L { σ with mu := l' } h' := by
 have hm := hu.mem
 have hL : L ≠ a := Nat.ne_of_lt (O.mu _ hm).2.2
 have ha : ∀ {x}, x ∉ σ.mu.map (·.1) → x ≠ a := fun h q => h (by rw [q]; exact List.mem_map_of_mem (f := (·.1)) hm)
 refine ⟨fun b ob e => hs b ob (fun q => ?_) (O.sub b ob e), O.ns.extBut hs hL, O.ln, O.LB, fun p hp => ?_, ?_,
  fun p hp => ⟨(O.fz p hp).1.mono fun o => hs _ o (ha (O.fz p hp).2.2.1), (O.fz p hp).2.1, ?_, (O.fz p hp).2.2.2⟩, fun p hp => ⟨(O.od p hp).1.mono fun o => hs _ o (ha (O.od p hp).2.2.1), (O.od p hp).2.1, ?_, (O.od p hp).2.2.2⟩⟩
 ·rw [q, (O.mu _ hm).2.1] at e; cases e
 ·rcases hu.of O.nd p hp with rfl | ⟨h1, h2⟩
  ·exact ⟨hg, (O.mu _ hm).2⟩
  ·exact ⟨(O.mu p h1).1.mono fun o => hs _ o h2, (O.mu p h1).2⟩
 ·show (l'.map (·.1)).Nodup
  rw [hu.names]; exact O.nd
 ·show p.1 ∉ l'.map (·.1)
  rw [hu.names]; exact (O.fz p hp).2.2.1
 ·show p.1 ∉ l'.map (·.1)
  rw [hu.names]; exact (O.od p hp).2.2.1
noncomputable abbrev Has (σ : St) (a : Addr) (o : D) : Prop := (a, o) ∈ σ.mu ∨ (a, o) ∈ σ.fz ∨ (a, o) ∈ σ.od
theorem Own.has {B : PM} {h : Heap} (O : Own B L σ h) {a : Addr} {o : D} (x : Has σ a o) : At h a o := by
 rcases x with x | x | x
 ·exact (O.mu _ x).1
 ·exact (O.fz _ x).1
 ·exact (O.od _ x).1
inductive Rem : Led → Addr → D → Led → Prop where
 | head {a : Addr} {o : D} {r : Led} : Rem ((a, o) :: r) a o r
 | tail {a : Addr} {o : D} {p : Addr × D} {r r' : Led} (h : Rem r a o r') : Rem (p :: r) a o (p :: r')
theorem Rem.sub {l l' : Led} {a : Addr} {o : D} (h : Rem l a o l') : List.Sublist l' l := by
 induction h with
 | head => exact List.sublist_cons_self ..
 | tail _ ih => exact ih.cons_cons _
theorem Rem.mem {l l' : Led} {a : Addr} {o : D} (h : Rem l a o l') : (a, o) ∈ l := by
 induction h with
 | head => exact List.mem_cons_self
 | tail _ ih => exact List.mem_cons_of_mem _ ih
theorem Rem.nd {l l' : Led} {a : Addr} {o : D} (h : Rem l a o l') : (l.map (·.1)).Nodup → a ∉ l'.map (·.1) := by
 induction h with
 | head => intro hn; exact (List.nodup_cons.mp hn).1
 | tail h ih =>
  intro hn q
  obtain ⟨n1, n2⟩ := List.nodup_cons.mp hn
  rcases List.mem_cons.mp q with q | q
  ·exact n1 (by rw [← q]; exact List.mem_map_of_mem (f := (·.1)) h.mem)
  ·exact ih n2 q
theorem Own.freeze {B : PM} {h : Heap} (O : Own B L σ h) {a : Addr} {o : D} {l' : Led} (hm : Rem σ.mu a o l') : Own B L { σ with mu := l', fz := (a, o) :: σ.fz } h := by
 have sub : List.Sublist (l'.map (·.1)) (σ.mu.map (·.1)) := hm.sub.map _
 refine ⟨O.sub, O.ns, O.ln, O.LB, fun p hp => O.mu p (hm.sub.subset hp), O.nd.sublist sub, fun p hp => ?_, fun p hp => ⟨(O.od p hp).1, (O.od p hp).2.1, fun h => (O.od p hp).2.2.1 (sub.subset h), (O.od p hp).2.2.2⟩⟩
 rcases List.mem_cons.mp hp with rfl | hp
 ·refine ⟨(O.mu _ hm.mem).1, (O.mu _ hm.mem).2.2, hm.nd O.nd, fun q => ?_⟩
  obtain ⟨o, e⟩ := B.hok _ q
  rw [(O.mu _ hm.mem).2.1] at e; cases e
 ·exact ⟨(O.fz p hp).1, (O.fz p hp).2.1, fun h => (O.fz p hp).2.2.1 (sub.subset h), (O.fz p hp).2.2.2⟩
theorem Am {t : Sem α} {Q : α → St → Prop} (a : Addr) {o : D} {l' : Led} {l : Loc} {m f q : Led} (hm : Rem m a o l') (h : V c L n t Q ⟨l, l', (a, o) :: f, q⟩) : V c L n t Q ⟨l, m, f, q⟩ :=
 fun A B s hr hb ho hg => h A B s hr hb (ho.freeze hm) hg
theorem Own.weak {B : PM} {h : Heap} (O : Own B L σ h) {σ' : St} (hl : σ'.loc = σ.loc) (hm : List.Sublist σ'.mu σ.mu) (hf : ∀ p ∈ σ'.fz, p ∈ σ.fz) (ho : ∀ p ∈ σ'.od, p ∈ σ.od) : Own B L σ' h := by
 have hm1 : List.Sublist (σ'.mu.map (·.1)) (σ.mu.map (·.1)) := hm.map _
 exact ⟨O.sub, hl ▸ O.ns, hl ▸ O.ln, O.LB, fun p hp => O.mu p (hm.subset hp), O.nd.sublist hm1, fun p hp => ⟨(O.fz p (hf p hp)).1, (O.fz p (hf p hp)).2.1, fun q => (O.fz p (hf p hp)).2.2.1 (hm1.subset q), (O.fz p (hf p hp)).2.2.2⟩,
  fun p hp => ⟨(O.od p (ho p hp)).1, (O.od p (ho p hp)).2.1, fun q => (O.od p (ho p hp)).2.2.1 (hm1.subset q), (O.od p (ho p hp)).2.2.2⟩⟩
theorem V_weak {t : Sem α} {Q : α → St → Prop} {σ' : St} (hl : σ'.loc = σ.loc) (hm : List.Sublist σ'.mu σ.mu) (hf : ∀ p ∈ σ'.fz, p ∈ σ.fz) (ho : ∀ p ∈ σ'.od, p ∈ σ.od) (h : V c L n t Q σ') : V c L n t Q σ :=
 fun A B s hr hb hw hg => h A B s hr hb (hw.weak hl hm hf ho) hg
end
structure Ag (e : Env) (L : Addr) (KL : List (Str × NameKind)) (CL : List (Str × Addr)) : Prop where
 kind : e.scope.kind = .function
 loc : e.locals = L
 glob : e.globals = mainGlobals
 bi : e.builtins = builtinsNs
 nm : ∀ x k, (x, k) ∈ KL → e.kindOf x = some k
 cl : ∀ x a, (x, a) ∈ CL → e.cells.lookup x = some a
section
variable {c : Cx} {L : Addr} {n : Nat} {σ : St} {α β : Type} {e : Env} {KL : List (Str × NameKind)} {CL : List (Str × Addr)} {l l' : Loc} {m m' f q : Led}
theorem Go {t : Sem α} {Q : α → St → Prop} (x : α → Prop)
  (rule : ∀ A s (Q' : α → Shared → Prop), Rm n A → (∀ v k, x v → Q' v { s with toks := k }) → wpAny (model c.prog c.w) A t Q' No s)
  (h : ∀ v, x v → Q v σ) : V c L n t Q σ :=
 fun A _ s hr _ ho hg => rule A s _ hr fun v _ hv => ⟨hg, rfl, σ, ho, h v hv⟩
theorem Bn {p : Pos} {Q : Unit → St → Prop} (h : Q () σ) : V c L n (standAt p) Q σ := AE () (fun _ _ _ _ h => wpAny_standAt h) h
theorem AS {vs : List Value} {t : Sem α} {Q : α → St → Prop} (h : V c L n t Q σ) : V c L n (holding vs t) Q σ :=
 fun A B s hr hb ho hg => wpAny_holding (h A B s hr hb ho hg)
theorem Au {Q : Flow → St → Prop} (h : Q .next σ) : V c L n (execs [] e) Q σ := CM h
theorem AB {st : Stmt} {rest : List Stmt} {Q : Flow → St → Prop}
  (h : V c L n (exec st e) (fun f σ' => match f with | .next => V c L n (execs rest e) Q σ' | f => Q f σ') σ) : V c L n (execs (st :: rest) e) Q σ :=
 fun A B s hr hb ho hg => wpAny_execs_cons (wpAny_mono (h A B s hr hb ho hg) (fun f s' hp => by
  cases f with
  | next => exact hp.next hr hb fun _ x => x
  | _ => exact hp) fun _ _ e => e)
theorem A3 {x : Str} {p' : Pos} {value : Expr} {pos : Pos} {Q : Flow → St → Prop}
  (h : V c L n (eval value e) (fun v σ' => V c L n (storeName e x v) (fun _ σ'' => Q .next σ'') σ') σ)
  (hs : swapsWith value (some (.Name x p')) pos.line e = pure false := by with_unfolding_all (intros; rfl)) : V c L n (exec (.Assign [.Name x p'] value pos) e) Q σ :=
 fun A B s hr hb ho hg => wpAny_Assign_Name (wpAny_mono (h A B s hr hb ho hg) (fun _ _ hp => hp.next (R := fun _ σ'' => Q .next σ'') hr hb fun _ x => x) fun _ _ e => e) hs
theorem C9 {x : Str} {p' : Pos} {op : Operator} {value : Expr} {pos : Pos} {Q : Flow → St → Prop}
  (h : V c L n (loadName e x) (fun old σ' => V c L n (eval value e) (fun v σ₁ => V c L n (inplaceOp op old v) (fun r σ₂ => V c L n (storeName e x r) (fun _ σ'' => Q .next σ'') σ₂) σ₁) σ') σ) :
  V c L n (exec (.AugAssign (.Name x p') op value pos) e) Q σ :=
 fun A B s hr hb ho hg => wpAny_AugAssign_Name (wpAny_mono (h A B s hr hb ho hg) (fun _ s' hp => by
  refine Ae (fun G_ hG_ => ?_)
  obtain ⟨hg', ho', σ', hw, hv⟩ := hp
  refine hG_ ?_
  clear hG_ G_
  refine wpAny_mono (hv A B s' hr hb hw hg') (fun _ s₁ hp => ?_) fun _ _ e => e
  refine Ae (fun G_ hG_ => ?_)
  obtain ⟨hg₁, ho₁, σ₁, hw₁, hv₁⟩ := hp
  refine hG_ ?_
  clear hG_ G_
  refine wpAny_mono (hv₁ A B s₁ hr hb hw₁ hg₁) (fun _ s₂ hp => ?_) fun _ _ e => e
  have := hp.next (R := fun _ σ'' => Q .next σ'') hr hb fun _ x => x
  rw [ho₁, ho'] at this
  exact this) fun _ _ e => e)
theorem EQ {o i : Expr} {p' : Pos} {value : Expr} {pos : Pos} {Q : Flow → St → Prop}
  (h : V c L n (eval value e) (fun v σ' => V c L n (eval o e) (fun ov σ₁ => V c L n (eval i e) (fun iv σ₂ => V c L n (setItem ov iv v) (fun _ σ'' => Q .next σ'') σ₂) σ₁) σ') σ)
  (hs : swapsWith value (some (.Subscript o i p')) pos.line e = pure false := by with_unfolding_all (intros; rfl)) : V c L n (exec (.Assign [.Subscript o i p'] value pos) e) Q σ :=
 fun A B s hr hb ho hg => wpAny_Assign_Subscript (wpAny_mono (h A B s hr hb ho hg) (fun _ s' hp => by
  refine Ae (fun G_ hG_ => ?_)
  obtain ⟨hg', ho', σ', hw, hv⟩ := hp
  refine hG_ ?_
  clear hG_ G_
  refine wpAny_mono (hv A B s' hr hb hw hg') (fun _ s₁ hp => ?_) fun _ _ e => e
  refine Ae (fun G_ hG_ => ?_)
  obtain ⟨hg₁, ho₁, σ₁, hw₁, hv₁⟩ := hp
  refine hG_ ?_
  clear hG_ G_
  refine wpAny_mono (hv₁ A B s₁ hr hb hw₁ hg₁) (fun _ s₂ hp => ?_) fun _ _ e => e
  have := hp.next (R := fun _ σ'' => Q .next σ'') hr hb fun _ x => x
  rw [ho₁, ho'] at this
  exact this) fun _ _ e => e) hs
theorem Hm {o i : Expr} {p' : Pos} {op : Operator} {value : Expr} {pos : Pos} {Q : Flow → St → Prop}
  (h : V c L n (eval o e) (fun ov σ₁ => V c L n (eval i e) (fun iv σ₂ => V c L n (getItem ov iv) (fun old σ₃ => V c L n (eval value e) (fun v σ₄ => V c L n (inplaceOp op old v) (fun r σ₅ =>
   V c L n (setItem ov iv r) (fun _ σ'' => Q .next σ'') σ₅) σ₄) σ₃) σ₂) σ₁) σ)
  (hs : ∀ ov iv new, augStore i ov iv new = (do holding [new, ov, iv] (setItem ov iv new); release [new, ov, iv] []; pure .next) := by with_unfolding_all (intros; rfl)) : V c L n (exec (.AugAssign (.Subscript o i p') op value pos) e) Q σ :=
 fun A B s hr hb ho hg => wpAny_AugAssign_Subscript_any (wpAny_mono (h A B s hr hb ho hg) (fun _ s' hp => by
  refine Ae (fun G_ hG_ => ?_)
  obtain ⟨hg', ho', σ', hw, hv⟩ := hp
  refine hG_ ?_
  clear hG_ G_
  refine wpAny_mono (hv A B s' hr hb hw hg') (fun _ s₁ hp => ?_) fun _ _ e => e
  refine Ae (fun G_ hG_ => ?_)
  obtain ⟨hg₁, ho₁, σ₁, hw₁, hv₁⟩ := hp
  refine hG_ ?_
  clear hG_ G_
  refine wpAny_mono (hv₁ A B s₁ hr hb hw₁ hg₁) (fun _ s₂ hp => ?_) fun _ _ e => e
  refine Ae (fun G_ hG_ => ?_)
  obtain ⟨hg₂, ho₂, σ₂, hw₂, hv₂⟩ := hp
  refine hG_ ?_
  clear hG_ G_
  refine wpAny_mono (hv₂ A B s₂ hr hb hw₂ hg₂) (fun _ s₃ hp => ?_) fun _ _ e => e
  refine Ae (fun G_ hG_ => ?_)
  obtain ⟨hg₃, ho₃, σ₃, hw₃, hv₃⟩ := hp
  refine hG_ ?_
  clear hG_ G_
  refine wpAny_mono (hv₃ A B s₃ hr hb hw₃ hg₃) (fun _ s₄ hp => ?_) fun _ _ e => e
  have := hp.next (R := fun _ σ'' => Q .next σ'') hr hb fun _ x => x
  rw [ho₃, ho₂, ho₁, ho'] at this
  exact this) fun _ _ e => e) hs
theorem Qd {test : Expr} {body orelse : List Stmt} {pos : Pos} {Q : Flow → St → Prop}
  (h : V c L n (isTrue test e (eval test e)) (fun b σ' => if b = true then V c L n (execs body e) Q σ' else V c L n (execs orelse e) Q σ') σ) : V c L n (exec (.If test body orelse pos) e) Q σ :=
 fun A B s hr hb ho hg => wpAny_If (wpAny_mono (h A B s hr hb ho hg) (fun b s' hp => by
  cases b with
  | true => exact hp.next hr hb fun _ x => x
  | false => exact hp.next hr hb fun _ x => x) fun _ _ e => e)
theorem BC {v : Expr} {pos : Pos} {Q : Flow → St → Prop} (h : V c L n (eval v e) (fun v σ' => Q (.ret v) σ') σ) : V c L n (exec (.Return (some v) pos) e) Q σ :=
 fun A B s hr hb ho hg => wpAny_Return_some (h A B s hr hb ho hg)
theorem LE {pos : Pos} {Q : Flow → St → Prop} (h : Q .brk σ) : V c L n (exec (.Break pos) e) Q σ := AE .brk (fun _ _ _ _ h => wpAny_Break h) h
theorem BF {v : Expr} {pos : Pos} {Q : Flow → St → Prop} (h : V c L n (eval v e) (fun _ σ' => Q .next σ') σ)
  (hk : Ag e L KL CL) (hs : swapsWith v none pos.line e = pure false := by with_unfolding_all (intros; rfl)) : V c L n (exec (.Expr v pos) e) Q σ :=
 fun A B s hr hb ho hg => wpAny_Expr_any (h A B s hr hb ho hg) (by unfold interactive; rw [hk.kind]; rfl) hs
theorem Fb {test : Expr} {msg : Option Expr} {pos : Pos} {Q : Flow → St → Prop}
  (h : V c L n (isTrue test e (eval test e)) (fun b σ' => b = true ∧ Q .next σ') σ) : V c L n (exec (.Assert test msg pos) e) Q σ :=
 fun A B s hr hb ho hg => wpAny_Assert_holds (wpAny_mono (h A B s hr hb ho hg) (fun _ _ ⟨a, b, σ', d, e⟩ => ⟨e.1, a, b, σ', d, e.2⟩) fun _ _ e => e)
theorem N8 {ts : List Expr} {pos : Pos} {Q : Flow → St → Prop} (h : V c L n (deleteEach ts e) (fun _ σ' => Q .next σ') σ) : V c L n (exec (.Delete ts pos) e) Q σ :=
 fun A B s hr hb ho hg => wpAny_Delete (h A B s hr hb ho hg)
theorem F0 {Q : Unit → St → Prop} (h : Q () σ) : V c L n (deleteEach [] e) Q σ := CM h
theorem Et {t : Expr} {ts : List Expr} {Q : Unit → St → Prop} (h : V c L n (delete t e) (fun _ σ' => V c L n (deleteEach ts e) Q σ') σ) : V c L n (deleteEach (t :: ts) e) Q σ := by
 rw [arm_deleteEach_cons]; exact Ay h
theorem Hn {o i : Expr} {pos : Pos} {Q : Unit → St → Prop} (h : V c L n (eval o e) (fun ov σ₁ => V c L n (eval i e) (fun iv σ₂ => V c L n (delItem ov iv) Q σ₂) σ₁) σ) :
  V c L n (delete (.Subscript o i pos) e) Q σ :=
 fun A B s hr hb ho hg => wpAny_delete_Subscript (wpAny_mono (h A B s hr hb ho hg) (fun _ s' hp => by
  refine Ae (fun G_ hG_ => ?_)
  obtain ⟨hg', ho', σ', hw, hv⟩ := hp
  refine hG_ ?_
  clear hG_ G_
  refine wpAny_mono (hv A B s' hr hb hw hg') (fun _ s₁ hp => ?_) fun _ _ e => e
  have := hp.next hr hb fun _ x => x
  rw [ho'] at this
  exact this) fun _ _ e => e)
theorem V_while (I : Nat → St → Prop) {test : Expr} {body orelse : List Stmt} {pos : Pos} {Q : Flow → St → Prop} (k : Nat) (h0 : I k σ)
  (turn : ∀ k σ, I k σ → V c L n (isTrue test e (eval test e)) (fun b σ' => if b = true then
    V c L n (execs body e) (fun f σ'' => match f with | .next | .cont => ∃ j, j < k ∧ I j σ'' | .brk => Q .next σ'' | .ret v => Q (.ret v) σ'') σ'
   else V c L n (execs orelse e) Q σ') σ) : V c L n (exec (.While test body orelse pos) e) Q σ :=
 fun A B s hr hb ho hg => by
  refine wpAny_While (codeAny_whileLoop (fun k s' => PostS B L s.os (I k) s') (fun k s' hI => ?_) k ⟨hg, rfl, σ, ho, h0⟩)
  refine Ae (fun G_ hG_ => ?_)
  obtain ⟨hg', ho', σ', hw, hI⟩ := hI
  refine hG_ ?_
  clear hG_ G_
  refine wpAny_mono (turn k σ' hI A B s' hr hb hw hg') (fun b s₁ hp => ?_) fun _ _ e => e.elim
  refine Ae (fun G_ hG_ => ?_)
  obtain ⟨hg₁, ho₁, σ₁, hw₁, hv₁⟩ := hp
  refine hG_ ?_
  clear hG_ G_
  cases b with
  | true =>
   rw [if_pos rfl] at hv₁ ⊢
   refine wpAny_mono (hv₁ A B s₁ hr hb hw₁ hg₁) (fun f s₂ hp => ?_) fun _ _ e => e.elim
   refine Ae (fun G_ hG_ => ?_)
   obtain ⟨hg₂, ho₂, σ₂, hw₂, hv₂⟩ := hp
   refine hG_ ?_
   clear hG_ G_
   have os : s₂.os = s.os := ho₂.trans (ho₁.trans ho')
   cases f with
   | next => obtain ⟨j, hj, hI⟩ := hv₂; exact ⟨j, hj, hg₂, os, σ₂, hw₂, hI⟩
   | cont => obtain ⟨j, hj, hI⟩ := hv₂; exact ⟨j, hj, hg₂, os, σ₂, hw₂, hI⟩
   | brk => exact ⟨hg₂, os, σ₂, hw₂, hv₂⟩
   | ret v => exact ⟨hg₂, os, σ₂, hw₂, hv₂⟩
  | false =>
   rw [if_neg Bool.false_ne_true] at hv₁ ⊢
   refine wpAny_mono (hv₁ A B s₁ hr hb hw₁ hg₁) (fun f s₂ hp => ?_) fun _ _ e => e.elim
   refine Ae (fun G_ hG_ => ?_)
   obtain ⟨hg₂, ho₂, σ₂, hw₂, hv₂⟩ := hp
   refine hG_ ?_
   clear hG_ G_
   exact ⟨hg₂, ho₂.trans (ho₁.trans ho'), σ₂, hw₂, hv₂⟩
theorem BW {x : Str} {pos : Pos} {Q : Value → St → Prop} (h : V c L n (loadName e x) Q σ) (hd : (x == ("__debug__" : Str)) = false := by decide) : V c L n (eval (.Name x pos) e) Q σ :=
 fun A B s hr hb ho hg => wpAny_Name (h A B s hr hb ho hg) hd
theorem DI {x : Str} {v : Value} {Q : Value → St → Prop} (hk : Ag e L KL CL) (hx : (x, NameKind.local) ∈ KL) (hv : (x, some v) ∈ l) (h : Q v ⟨l, m, f, q⟩) : V c L n (loadName e x) Q ⟨l, m, f, q⟩ :=
 fun A B s hr hb ho hg => wpAny_loadName_local hk.kind (hk.nm _ _ hx) (hk.loc ▸ ho.ns) (Ps ho.ln hv) ⟨hg, rfl, _, ho, h⟩
theorem A8 {x : Str} {v : Value} {Q : Unit → St → Prop} (hk : Ag e L KL CL) (hx : (x, NameKind.local) ∈ KL) (hv : Hl l x v l') (h : Q () ⟨l', m, f, q⟩) : V c L n (storeName e x v) Q ⟨l, m, f, q⟩ :=
 fun A B s hr hb ho hg => wpAny_storeName_local (hk.nm _ _ hx) (hk.loc ▸ ho.ns) (fun h' hn hs =>
  ⟨hg, rfl, ⟨l', m, f, q⟩, ho.setLoc (hv.look ho.ln ▸ (hk.loc ▸ hn)) hv.names (hk.loc ▸ hs), h⟩) (by rw [hk.kind]; rfl)
theorem BR {x : Str} {a : Addr} {v : Value} {Q : Value → St → Prop} (hk : Ag e L KL CL) (hx : (x, NameKind.cell) ∈ KL) (hc : (x, a) ∈ CL) (hv : Has σ a (.cell (some v))) (h : Q v σ) : V c L n (loadName e x) Q σ :=
 fun A B s hr hb ho hg => wpAny_loadName_cell hk.kind (hk.nm _ _ hx) (hk.cl _ _ hc) (ho.has hv) ⟨hg, rfl, _, ho, h⟩
theorem Aj {x : Str} {a : Addr} {v : Value} {d : Option Value} {Q : Unit → St → Prop} (hk : Ag e L KL CL) (hx : (x, NameKind.cell) ∈ KL) (hc : (x, a) ∈ CL) (hu : Upd m a (.cell d) (.cell (some v)) m')
  (h : Q () ⟨l, m', f, q⟩) : V c L n (storeName e x v) Q ⟨l, m, f, q⟩ :=
 fun A B s hr hb ho hg => wpAny_storeName_cell hk.kind (hk.nm _ _ hx) (hk.cl _ _ hc) (ho.mu _ hu.mem).1 (fun h' hv hs => ⟨hg, rfl, ⟨l, m', f, q⟩, ho.setMut hu hv hs.extBut, h⟩)
theorem JX {x : Str} {v : Value} {Q : Value → St → Prop} (hc : c.Ok) (hk : Ag e L KL CL) (hx : (x, NameKind.globalImplicit) ∈ KL) (hv : c.mg x = some v) (h : Q v σ) : V c L n (loadName e x) Q σ :=
 fun A B s hr hb ho hg => by
  unfold loadName
  simp only [Env.blockKind, hk.kind, hk.nm _ _ hx, ScopeKind.isAnnotationScope, Bool.false_and, Bool.false_eq_true, if_false]
  exact loadGlobal_global (hk.glob ▸ hc.g.keeps fun a o q => ho.sub a o (hb a o q)) hv ⟨hg, rfl, _, ho, h⟩
theorem Fu {x : Str} {v : Value} {Q : Value → St → Prop} (hc : c.Ok) (hk : Ag e L KL CL) (hx : (x, NameKind.globalImplicit) ∈ KL) (hm : c.mg x = none) (hv : c.mb x = some v) (h : Q v σ) : V c L n (loadName e x) Q σ :=
 fun A B s hr hb ho hg => by
  unfold loadName
  simp only [Env.blockKind, hk.kind, hk.nm _ _ hx, ScopeKind.isAnnotationScope, Bool.false_and, Bool.false_eq_true, if_false]
  exact loadGlobal_builtin (hk.glob ▸ hc.g.keeps fun a o q => ho.sub a o (hb a o q)) hm (hk.bi ▸ hc.bi.keeps fun a o q => ho.sub a o (hb a o q)) hv ⟨hg, rfl, _, ho, h⟩
theorem AC {i : Int} {k : Nat} {pos : Pos} {Q : Value → St → Prop} (h : ∀ t, Q (.int i t) σ) : V c L n (eval (.Constant (.int i) k pos) e) Q σ := GQ (fun t => .int i t) (fun _ _ _ _ h => wpAny_Constant_int h) h
theorem V_str {x : Str} {k : Nat} {pos : Pos} {Q : Value → St → Prop} (h : ∀ t, Q (.str x t) σ) : V c L n (eval (.Constant (.str x) k pos) e) Q σ := GQ (fun t => .str x t) (fun _ _ _ _ h => wpAny_Constant_str h) h
theorem Fv {k : Nat} {pos : Pos} {Q : Value → St → Prop} (h : Q .none σ) : V c L n (eval (.Constant .none k pos) e) Q σ := AE .none (fun _ _ _ _ h => wpAny_Constant_none h) h
theorem LF {b : Bool} {k : Nat} {pos : Pos} {Q : Value → St → Prop} (h : Q (.bool b) σ) : V c L n (eval (.Constant (.bool b) k pos) e) Q σ := AE (.bool b) (fun _ _ _ _ h => wpAny_Constant_bool h) h
theorem Az {x y : Expr} {op : Operator} {pos : Pos} {Q : Value → St → Prop} (h : V c L n (eval x e) (fun a σ₁ => V c L n (eval y e) (fun b σ₂ => V c L n (binaryOp op a b) Q σ₂) σ₁) σ) :
  V c L n (eval (.BinOp x op y pos) e) Q σ := by
 rw [eval_BinOp]
 refine Ay (An h fun a σ₁ h₁ => Ay (AS (An h₁ fun b σ₂ h₂ => Ay (Bn ?_))))
 exact fun A B s hr hb ho hg => wpAny_operating (h₂ A B s hr hb ho hg)
theorem CN {x y : Expr} {op : CmpOp} {pos : Pos} {Q : Value → St → Prop} (h : V c L n (eval x e) (fun a σ₁ => V c L n (eval y e) (fun b σ₂ => V c L n (compareOp op a b) Q σ₂) σ₁) σ)
  (hm : behindInMarks op y = false := by with_unfolding_all rfl) : V c L n (eval (.Compare x [op] [y] pos) e) Q σ := by
 rw [eval_Compare1, markedBehindIn_of_false hm]
 refine Ay (An h fun a σ₁ h₁ => Ay (AS (An h₁ fun b σ₂ h₂ => Ay (Bn ?_))))
 exact fun A B s hr hb ho hg => wpAny_operating (h₂ A B s hr hb ho hg)
theorem V_and {x y : Expr} {pos : Pos} {Q : Value → St → Prop}
  (h : V c L n (eval x e) (fun v σ₁ => V c L n (truthy v) (fun b σ₂ => if b = true then V c L n (eval y e) Q σ₂ else Q v σ₂) σ₁) σ) : V c L n (eval (.BoolOp .And [x, y] pos) e) Q σ := by
 show V c L n (boolOp pos .And [eval x e, eval y e]) Q σ
 unfold boolOp
 refine Ay (An h fun v σ₁ h₁ => Ay (Bn (Ay (AS (An h₁ fun b σ₂ h₂ => ?_)))))
 cases b with
 | true => exact h₂
 | false => exact CM h₂
theorem BS {test body orelse : Expr} {pos : Pos} {Q : Value → St → Prop}
  (h : V c L n (isTrue test e (eval test e)) (fun b σ' => if b = true then V c L n (eval body e) Q σ' else V c L n (eval orelse e) Q σ') σ) : V c L n (eval (.IfExp test body orelse pos) e) Q σ :=
 fun A B s hr hb ho hg => wpAny_IfExp (wpAny_mono (h A B s hr hb ho hg) (fun b s' hp => by
  cases b with
  | true => exact hp.next hr hb fun _ x => x
  | false => exact hp.next hr hb fun _ x => x) fun _ _ e => e)
theorem Pt {op : UnaryOp} {x : Expr} {pos : Pos} {Q : Value → St → Prop} (h : V c L n (eval x e) (fun v σ₁ => V c L n (unaryOp op v) Q σ₁) σ) : V c L n (eval (.UnaryOp op x pos) e) Q σ := by
 rw [arm_eval_UnaryOp]
 exact Ay (An h fun v σ₁ h₁ => Ay (Bn (AS h₁)))
theorem BY {value slice : Expr} {pos : Pos} {Q : Value → St → Prop}
  (h : V c L n (eval value e) (fun o σ₁ => V c L n (eval slice e) (fun i σ₂ => V c L n (subscriptTail value slice o i) Q σ₂) σ₁) σ) : V c L n (eval (.Subscript value slice pos) e) Q σ := by
 rw [eval_Subscript]
 exact Ay (An h fun o σ₁ h₁ => Ay (AS (An h₁ fun i σ₂ h₂ => Ay (Bn h₂))))
theorem A4 {x y : Expr} {op : CmpOp} {pos : Pos} {w : Sem Value} {Q : Bool → St → Prop} (h : V c L n (eval x e) (fun a σ₁ => V c L n (eval y e) (fun b σ₂ => V c L n (compareOp op a b) (fun v σ₃ => V c L n (truthy v) Q σ₃) σ₂) σ₁) σ)
  (hm : behindInMarks op y = false := by with_unfolding_all rfl) : V c L n (isTrue (.Compare x [op] [y] pos) e w) Q σ := by
 rw [isTrue_Compare1, markedBehindIn_of_false hm]
 refine Ay (An h fun a σ₁ h₁ => Ay (AS (An h₁ fun b σ₂ h₂ => Ay (Bn (Ay ?_)))))
 exact fun A B s hr hb ho hg => wpAny_operating (An h₂ (fun v σ₃ h₃ => AS h₃) A B s hr hb ho hg)
theorem BT {x : Expr} {w : Sem Value} {Q : Bool → St → Prop} (h : V c L n w (fun v σ₁ => V c L n (truthy v) Q σ₁) σ)
  (hd : isTrue x e w = (do let v ← w; standAt x.pos; holding [v] (truthy v)) := by with_unfolding_all rfl) : V c L n (isTrue x e w) Q σ := by
 rw [hd]
 exact Ay (An h fun v σ₁ h₁ => Ay (Bn (AS h₁)))
theorem DA {x : Expr} {pos : Pos} {w : Sem Value} {Q : Bool → St → Prop} (h : V c L n (isTrue x e (eval x e)) (fun b σ₁ => Q (!b) σ₁) σ) : V c L n (isTrue (.UnaryOp .Not x pos) e w) Q σ := by
 rw [arm_isTrue_UnaryOp]
 exact Ay (An h fun b σ₁ h₁ => CM h₁)
theorem Ai {op : BoolOp} {vs : List Expr} {pos : Pos} {w : Sem Value} {Q : Bool → St → Prop} (h : V c L n (allTrue op vs e) Q σ) : V c L n (isTrue (.BoolOp op vs pos) e w) Q σ := h
theorem Bd {Q : Bool → St → Prop} (h : Q true σ) : V c L n (allTrue .And [] e) Q σ := CM h
theorem E6 {Q : Bool → St → Prop} (h : Q false σ) : V c L n (allTrue .Or [] e) Q σ := CM h
theorem Aa {x : Expr} {rest : List Expr} {Q : Bool → St → Prop} (h : V c L n (isTrue x e (eval x e)) (fun b σ₁ => if b = true then V c L n (allTrue .And rest e) Q σ₁ else Q false σ₁) σ) :
  V c L n (allTrue .And (x :: rest) e) Q σ := by
 rw [arm_allTrue_cons]
 refine Ay (An h fun b σ₁ h₁ => ?_)
 cases b with
 | true => exact h₁
 | false => exact CM h₁
theorem Be {x : Expr} {rest : List Expr} {Q : Bool → St → Prop} (h : V c L n (isTrue x e (eval x e)) (fun b σ₁ => if b = true then Q true σ₁ else V c L n (allTrue .Or rest e) Q σ₁) σ) :
  V c L n (allTrue .Or (x :: rest) e) Q σ := by
 rw [arm_allTrue_cons]
 refine Ay (An h fun b σ₁ h₁ => ?_)
 cases b with
 | true => exact CM h₁
 | false => exact h₁
theorem A1 {b : Bool} {Q : Bool → St → Prop} (h : Q b σ) : V c L n (truthy (.bool b)) Q σ := AE b (fun _ _ _ _ h => wpAny_truthy_bool h) h
theorem AG {M : Model} {A : Around} {E : Value → Shared → Prop} {s : Shared} {fv : Value} {args : List (Bool × Sem Value)} {Q : Args → Shared → Prop} (hp : args.any (·.1) = false)
  (h : wpAny M A (spliced args) (fun vs s' => Q ⟨vs, []⟩ s') E s) : wpAny M A (evalArgs fv true args []) Q E s := by
 cases args with
 | nil =>
  unfold evalArgs
  show wpAny M A (spliced [] >>= _) Q E s
  refine wpAny_bind (wpAny_mono h (fun vs s' h' => ?_) fun _ _ x => x)
  exact wpAny_bind (wpAny_pure (wpAny_holding (wpAny_bind (wpAny_pure (wpAny_bind (wpAny_pure (wpAny_pure h')))))))
 | cons a r =>
  obtain ⟨b, x⟩ := a
  rw [List.any_cons] at hp
  have hb : b = false := by cases b with | false => rfl | true => simp at hp
  subst hb
  exact evalArgs_plain h
theorem A2 {pos : Pos} {Q : List Value → St → Prop} (h : Q [] σ) : V c L n (spliced (backTo pos (starEach [] e))) Q σ := CM h
theorem A0 {x : Expr} {rest : List Expr} {pos : Pos} {Q : List Value → St → Prop}
  (h : V c L n (eval x e) (fun v σ₁ => V c L n (spliced (backTo pos (starEach rest e))) (fun vs σ₂ => Q (v :: vs) σ₂) σ₁) σ)
  (he : starEach (x :: rest) e = (false, eval x e) :: starEach rest e := by with_unfolding_all rfl) : V c L n (spliced (backTo pos (starEach (x :: rest) e))) Q σ :=
 fun A B s hr hb ho hg => args_cons (wpAny_mono (h A B s hr hb ho hg) (fun v s' hp => by
  refine Ae (fun G_ hG_ => ?_)
  obtain ⟨hg', ho', σ', hw, hv⟩ := hp
  refine hG_ ?_
  clear hG_ G_
  have := hv A B s' hr hb hw hg'
  rw [ho'] at this
  exact this) fun _ _ e => e) he
theorem Cd {fn : Expr} {args : List Expr} {pos : Pos} {Q : Value → St → Prop} (h : V c L n (eval fn e) (fun fv σ₁ => V c L n (callWith pos fv [] (backTo pos (starEach args e)) []) Q σ₁) σ)
  (he : eval (.Call fn args [] pos) e = (do callWith pos (← eval fn e) [] (backTo pos (starEach args e)) (backToKw pos (keywordEach [] e))) := by with_unfolding_all rfl) : V c L n (eval (.Call fn args [] pos) e) Q σ := by
 rw [he]; exact Ay h
theorem DJ {pos : Pos} {id : String} {first : List Value} {args : List (Bool × Sem Value)} {Q : Value → St → Prop}
  (h : V c L n (spliced args) (fun vs σ₁ => V c L n (call (.builtin id) (first ++ vs)) Q σ₁) σ) (hp : args.any (·.1) = false := by with_unfolding_all rfl) : V c L n (callWith pos (.builtin id) first args []) Q σ :=
 fun A B s hr hb ho hg => callWith_builtin hp (AG hp (wpAny_mono (h A B s hr hb ho hg) (fun _ _ hp => hp.next hr hb fun _ x => x) fun _ _ e => e))
theorem Jh {pos : Pos} {T : String} {first : List Value} {args : List (Bool × Sem Value)} {Q : Value → St → Prop}
  (h : V c L n (spliced args) (fun vs σ₁ => V c L n (call (.type T) (first ++ vs)) Q σ₁) σ) (hp : args.any (·.1) = false := by with_unfolding_all rfl) : V c L n (callWith pos (.type T) first args []) Q σ :=
 fun A B s hr hb ho hg => PyProof.Rows.callWith_type hp (AG hp (wpAny_mono (h A B s hr hb ho hg) (fun _ _ hp => hp.next hr hb fun _ x => x) fun _ _ e => e))
theorem Ky {pos : Pos} {a : Addr} {o : Obj} {fd : FuncData} {first : List Value} {args : List (Bool × Sem Value)} {Q : Value → St → Prop} (hd : o.data = .func fd) (ha : c.b.get? a = some o)
  (h : V c L n (spliced args) (fun vs σ₁ => V c L n (call (.ref a) (first ++ vs)) Q σ₁) σ) (hp : args.any (·.1) = false := by with_unfolding_all rfl) : V c L n (callWith pos (.ref a) first args []) Q σ :=
 fun A B s hr hb ho hg => callWith_function (o := o) (fd := fd) (AG hp (wpAny_mono (h A B s hr hb ho hg) (fun _ s₁ hp => by
  refine ⟨⟨?_, hd⟩, hp.next hr hb fun _ x => x⟩
  refine Ae (fun G_ hG_ => ?_)
  obtain ⟨_, _, σ', hw, _⟩ := hp
  refine hG_ ?_
  clear hG_ G_
  exact hw.sub _ _ (hb _ _ ha)) fun _ _ e => e))
noncomputable def Ty (σ : St) (v : Value) (T : String) : Prop := ∀ B L (s : Shared), Own B L σ s.heap → s.TypeIs v T ∧ ∀ a, v = .ref a → ∃ ob, s.heap.get? a = some ob ∧ ob.dict = none
theorem Ty.str {x : Str} {t : Tok} : Ty σ (.str x t) "str" := fun _ _ s _ => ⟨typeIs_str _ _ _, fun _ e => nomatch e⟩
theorem Ty.list {a : Addr} {vs : List Value} (h : Has σ a (.list vs)) : Ty σ (.ref a) "list" := fun _ _ s ho => by
 obtain ⟨o, e, n, rfl⟩ := ho.has h
 exact ⟨⟨_, e, rfl⟩, fun b q => by cases q; exact ⟨_, e, rfl⟩⟩
theorem Ba {o : Expr} {name : Str} {apos pos : Pos} {args : List Expr} {Q : Value → St → Prop}
  (h : V c L n (eval o e) (fun ov σ₁ => ∃ T id, PlainAttrs T ∧ Slot T name id ∧ typeOf (.builtin id) = pure (.type "method_descriptor") ∧ Ty σ₁ ov T ∧ V c L n (callWith pos (.builtin id) [ov] (backTo pos (starEach args e)) []) Q σ₁) σ)
  (hbase : attributeBase o name e (eval o e) = eval o e := by with_unfolding_all rfl)
  (hfew : ((backTo pos (starEach args e)).all (fun x => !x.1) && (backToKw pos (keywordEach [] e)).all (fun x => x.1.isSome)
   && decide (args.length + ([] : List Keyword).length + (if ([] : List Keyword).isEmpty then 0 else 1) < 30)) = true := by with_unfolding_all rfl)
  (hline : (apos.endLine == pos.line) = true := by with_unfolding_all rfl) : V c L n (eval (.Call (.Attribute o name apos) args [] pos) e) Q σ :=
 fun A B s hr hb ho hg => wpAny_Call_method_lateS hbase hfew hline (wpAny_mono (h A B s hr hb ho hg) (fun v s' hp => by
  refine Ae (fun G_ hG_ => ?_)
  obtain ⟨hg', ho', σ', hw, T, id, h1, h2, h3, h4, h5⟩ := hp
  refine hG_ ?_
  clear hG_ G_
  have := h5 A B s' hr hb hw hg'
  rw [ho'] at this
  exact ⟨T, id, h1, h2, h3, (h4 _ _ _ hw).1, (h4 _ _ _ hw).2, this⟩) fun _ _ e => e)
end
noncomputable abbrev S (l : List Nat) : PySem.Str := ⟨l.toArray⟩
noncomputable def Eu (i : Int) (n : Nat) : Nat := (max 0 (min (if i < 0 then i + (n : Int) else i) n)).toNat
theorem Bb (k n : Nat) : Eu (k : Int) n = min k n := by
 unfold Eu
 rw [if_neg (Int.not_lt.mpr (Int.natCast_nonneg k))]
 rcases Nat.le_total k n with h | h
 ·rw [Int.min_eq_left (Int.ofNat_le.mpr h), Int.max_eq_right (Int.natCast_nonneg k), Nat.min_eq_left h]; rfl
 ·rw [Int.min_eq_right (Int.ofNat_le.mpr h), Int.max_eq_right (Int.natCast_nonneg n), Nat.min_eq_right h]; rfl
theorem GR (k n : Nat) : Eu (-((k + 1 : Nat) : Int)) n = n - (k + 1) := by
 unfold Eu
 rw [if_pos (Int.neg_neg_of_pos (Int.natCast_pos.mpr (Nat.succ_pos k)))]
 rcases Nat.le_total (k + 1) n with h | h
 ·obtain ⟨d, rfl⟩ := Nat.le.dest h
  rw [Int.natCast_add (k + 1) d, Int.neg_add_cancel_left, Nat.add_sub_cancel_left, Int.min_eq_left (Int.le_add_of_nonneg_left (Int.natCast_nonneg _)), Int.max_eq_right (Int.natCast_nonneg d)]; rfl
 ·rw [Nat.sub_eq_zero_of_le h, Int.max_eq_left (Int.le_trans (Int.min_le_left _ _) (by omega))]; rfl
noncomputable def cut {α : Type} (l : List α) (lo hi : Option Int) : List α :=
 (l.take (match hi with | none => l.length | some j => Eu j l.length)).drop (match lo with | none => 0 | some i => Eu i l.length)
theorem Gp {α : Type} (xs : List α) (a b : Nat) (hb : b ≤ xs.length) : (((List.range (b - a)).map (a + ·)).filterMap (xs[·]?)) = (xs.take b).drop a := by
 have := pick_run xs.toArray a (b - a)
 simp only [List.getElem?_toArray] at this
 rw [this, List.drop_take]
theorem Ce (a b : Int) (ha : 0 ≤ a) (hb : 0 ≤ b) : sliceRange a b 1 = (List.range (b.toNat - a.toNat)).map (a.toNat + ·) := by
 have := sliceRange_one a.toNat b.toNat
 rwa [Int.toNat_of_nonneg ha, Int.toNat_of_nonneg hb] at this
theorem Ew (i : Int) (n : Nat) : (max 0 (min (if i < 0 then i + (n : Int) else i) n)).toNat = Eu i n := rfl
theorem LG (i : Int) (n : Nat) : Eu i n ≤ n := Int.toNat_le.mpr (Int.max_le.mpr ⟨Int.natCast_nonneg n, Int.min_le_right _ _⟩)
theorem str_cut (x : List Nat) (lo hi : Option Int) : ((Builtin.Str.strSliceIndices lo hi 1 x.length).filterMap (x[·]?)) = cut x lo hi := by
 unfold Builtin.Str.strSliceIndices cut
 simp only [show ((1 : Int) > 0) from by decide, if_true]
 rw [Ce _ _ (by cases lo <;> simp; omega) (by cases hi <;> simp; omega), Gp]
 ·congr 1
  ·cases lo with
   | none => rfl
   | some i => exact Ew i _
  ·congr 1
   cases hi with
   | none => simp
   | some i => exact Ew i _
 ·cases hi with
  | none => simp
  | some i => simp only []; rw [Ew]; exact LG _ _
theorem N9 (x : List Value) (lo hi : Option Int) : slicePick x.toArray lo hi none = (cut x lo hi).toArray := by
 unfold slicePick sliceBounds cut
 simp only [Option.getD_none, show ((1 : Int) > 0) from by decide, if_true, List.size_toArray, List.getElem?_toArray]
 rw [Ce _ _ (by cases lo <;> simp; omega) (by cases hi <;> simp; omega), Gp]
 ·congr 2
  ·cases lo with
   | none => rfl
   | some i => exact Ew i _
  ·congr 1
   cases hi with
   | none => simp
   | some i => exact Ew i _
 ·cases hi with
  | none => simp
  | some i => simp only []; rw [Ew]; exact LG _ _
theorem E7 {α : Type} (x : List α) (lo hi : Option Int) : (cut x lo hi).length ≤ x.length := by
 unfold cut; rw [List.length_drop, List.length_take]; exact Nat.le_trans (Nat.sub_le _ _) (Nat.min_le_right _ _)
section
variable {c : Cx} {L : Addr} {n : Nat} {σ : St} {α β : Type} {e : Env} {l l' : Loc} {m m' f q : Led}
theorem Dk {a b : Int} {t u : Tok} {Q : Value → St → Prop} (h : ∀ k, Q (.int (a + b) k) σ) : V c L n (binaryOp .Add (.int a t) (.int b u)) Q σ := GQ (fun k => .int (a + b) k) (fun _ _ _ _ h => PyProof.Rows.add_int h) h
theorem LH {a b : Int} {t u : Tok} {Q : Value → St → Prop} (h : ∀ k, Q (.int (a - b) k) σ) : V c L n (binaryOp .Sub (.int a t) (.int b u)) Q σ := GQ (fun k => .int (a - b) k) (fun _ _ _ _ h => PyProof.Rows.sub_int h) h
theorem CO {a b : Int} {t u : Tok} {Q : Value → St → Prop} (h : ∀ k, Q (.int (a + b) k) σ) : V c L n (inplaceOp .Add (.int a t) (.int b u)) Q σ := GQ (fun k => .int (a + b) k) (fun _ _ _ _ h => PyProof.Rows.iadd_int h) h
theorem Dl {a b : Int} {t u : Tok} {Q : Value → St → Prop} (hb : b ≠ 0) (h : ∀ k, Q (.int (Int.fmod a b) k) σ) : V c L n (binaryOp .Mod (.int a t) (.int b u)) Q σ := GQ (fun k => .int (Int.fmod a b) k) (fun _ _ _ _ h => PyProof.Rows.mod_int' hb h) h
theorem Gq {a b : Int} {t u : Tok} {Q : Value → St → Prop} (hb : b ≠ 0) (hp : Builtin.divisionGoesByPylong a b = false) (h : ∀ k, Q (.int (Int.fdiv a b) k) σ) : V c L n (binaryOp .FloorDiv (.int a t) (.int b u)) Q σ :=
 GQ (fun k => .int (Int.fdiv a b) k) (fun _ _ _ _ h => PyProof.Rows.floordiv_int hb h (.inl hp)) h
theorem LI {a b : Int} {t u : Tok} {Q : Value → St → Prop} (h0 : 0 ≤ b) (hp : (Builtin.Int.intBits a : Int) * b ≤ 2 ^ 27) (h : ∀ k, Q (.int (a ^ b.toNat) k) σ) : V c L n (binaryOp .Pow (.int a t) (.int b u)) Q σ :=
 GQ (fun k => .int (a ^ b.toNat) k) (fun _ _ _ _ h => PyProof.Rows.pow_int h0 hp h) h
theorem Na {a b : Int} {t u : Tok} {Q : Value → St → Prop} (h : Q (.bool (decide (a < b))) σ) : V c L n (compareOp .Lt (.int a t) (.int b u)) Q σ := AE _ (fun _ _ _ _ h => PyProof.Rows.lt_int h) h
theorem Nb {a b : Int} {t u : Tok} {Q : Value → St → Prop} (h : Q (.bool (decide (a ≤ b))) σ) : V c L n (compareOp .LtE (.int a t) (.int b u)) Q σ := AE _ (fun _ _ _ _ h => PyProof.Rows.le_int h) h
theorem Nc {a b : Int} {t u : Tok} {Q : Value → St → Prop} (h : Q (.bool (decide (b < a))) σ) : V c L n (compareOp .Gt (.int a t) (.int b u)) Q σ := AE _ (fun _ _ _ _ h => PyProof.Rows.gt_int h) h
theorem Nd {a b : Int} {t u : Tok} {Q : Value → St → Prop} (h : Q (.bool (decide (b ≤ a))) σ) : V c L n (compareOp .GtE (.int a t) (.int b u)) Q σ := AE _ (fun _ _ _ _ h => PyProof.Rows.ge_int h) h
theorem DB {a b : Int} {t u : Tok} {Q : Value → St → Prop} (h : Q (.bool (a == b)) σ) : V c L n (compareOp .Eq (.int a t) (.int b u)) Q σ := AE _ (fun _ _ _ _ h => PyProof.Rows.eq_int h) h
theorem GS {a b : Int} {t u : Tok} {Q : Value → St → Prop} (h : Q (.bool (a != b)) σ) : V c L n (compareOp .NotEq (.int a t) (.int b u)) Q σ := AE _ (fun _ _ _ _ h => PyProof.Rows.ne_int h) h
theorem LJ {a b : Bool} {Q : Value → St → Prop} (h : Q (.bool (a == b)) σ) : V c L n (compareOp .Eq (.bool a) (.bool b)) Q σ := AE _ (fun _ _ _ _ h => PyProof.Rows.eq_bool h) h
theorem E8 {a b : Bool} {Q : Value → St → Prop} (h : Q (.bool (a != b)) σ) : V c L n (compareOp .NotEq (.bool a) (.bool b)) Q σ := AE _ (fun _ _ _ _ h => PyProof.Rows.ne_bool h) h
theorem Bv (x : List Nat) : (S x).length = x.length := by simp [S, PySem.Str.length]
theorem Ga (x y : List Nat) : ((S x : PySem.Str) == S y) = decide (x = y) := by
 by_cases h : x = y
 ·subst h; simp
 ·rw [decide_eq_false h]; exact beq_eq_false_iff_ne.mpr fun q => h (by simpa [S] using q)
theorem GT (x y : List Nat) : (S x ++ S y : PySem.Str) = S (x ++ y) := by
 show PySem.Str.mk (x.toArray ++ y.toArray) = _
 simp [S]
theorem Cv {x y : List Nat} {t u : Tok} {Q : Value → St → Prop} (h : Q (.bool (decide (x = y))) σ) : V c L n (compareOp .Eq (.str (S x) t) (.str (S y) u)) Q σ :=
 AE _ (fun _ _ _ _ h => PyProof.Rows.eq_str h) (by rw [Ga]; exact h)
theorem Fc {x y : List Nat} {t u : Tok} {Q : Value → St → Prop} (h : Q (.bool (!decide (x = y))) σ) : V c L n (compareOp .NotEq (.str (S x) t) (.str (S y) u)) Q σ :=
 AE _ (fun _ _ _ _ h => PyProof.Rows.ne_str h) (by rw [bne, Ga]; exact h)
theorem Nf {x y : List Nat} {t u : Tok} {Q : Value → St → Prop} (h : Q (.bool (decide (x < y))) σ) : V c L n (compareOp .Lt (.str (S x) t) (.str (S y) u)) Q σ :=
 AE _ (fun _ _ _ _ h => PyProof.Rows.lt_str h) h
theorem E9 {x y : List Nat} {t u : Tok} {Q : Value → St → Prop} (h : Q (.bool (!decide (y < x))) σ) : V c L n (compareOp .LtE (.str (S x) t) (.str (S y) u)) Q σ :=
 AE _ (fun _ _ _ _ h => P.le_str h) (by simpa using h)
theorem JY {x y : List Nat} {t u : Tok} {Q : Value → St → Prop} (h : Q (.bool (decide (y < x))) σ) : V c L n (compareOp .Gt (.str (S x) t) (.str (S y) u)) Q σ :=
 AE _ (fun _ _ _ _ h => P.gt_str h) h
theorem BX {x y : List Nat} {t u : Tok} {Q : Value → St → Prop} (hl : x.length + y.length ≤ sizeLine) (h : ∀ k, Q (.str (S (x ++ y)) k) σ) : V c L n (binaryOp .Add (.str (S x) t) (.str (S y) u)) Q σ :=
 Go (fun v => ∃ k, v = .str (S (x ++ y)) k) (fun _ _ _ _ h => PyProof.Rows.add_str (fun k tk => by rw [GT]; exact h _ _ ⟨k, rfl⟩) (by rw [Bv, Bv]; exact hl)) fun _ ⟨k, hk⟩ => hk ▸ h k
theorem Fw {x : List Nat} {t : Tok} {Q : Value → St → Prop} (hl : x.length < 2 ^ 62) (h : ∀ k, Q (.int x.length k) σ) : V c L n (call (.builtin "len") [.str (S x) t]) Q σ :=
 Go (fun v => ∃ k, v = .int x.length k) (fun _ _ _ _ h => PyProof.Rows.len_str (by rw [Bv]; lia) (by rw [Bv]; exact h _ _ ⟨_, rfl⟩)) fun _ ⟨k, hk⟩ => hk ▸ h k
theorem ER {x : List Nat} {t : Tok} {Q : Bool → St → Prop} (hl : x.length < 2 ^ 62) (h : Q (decide (x ≠ [])) σ) : V c L n (truthy (.str (S x) t)) Q σ :=
 Go (fun v => v = decide (x ≠ [])) (fun _ _ _ _ h => P.truthy_str (by rw [Bv]; omega) (by
  refine h _ _ ?_
  rw [Bv]
  cases x <;> simp; lia)) fun _ hk => hk ▸ h
theorem LK {vs : List Value} {Q : Value → St → Prop} (hl : vs.length ≤ sizeLine) (h : ∀ a, Q (.ref a) ⟨l, (a, .list vs) :: m, f, q⟩) : V c L n (newList vs) Q ⟨l, m, f, q⟩ :=
 fun A B s hr hb ho hg => wpAny_newList ⟨hg, rfl, _, ho.newMut (o := .list vs) (Ext.push _ _) (Nat.le_refl _) ⟨_, Heap.get?_push_size _ rfl, 0, rfl⟩, h _⟩ hl
theorem Kz {vs : List Value} {Q : Value → St → Prop} (hl : vs.length ≤ sizeLine) (h : ∀ a, Q (.ref a) ⟨l, m, (a, .tup vs) :: f, q⟩) : V c L n (newTuple vs) Q ⟨l, m, f, q⟩ :=
 fun A B s hr hb ho hg => wpAny_newTuple ⟨hg, rfl, _, ho.newFz (o := .tup vs) (Ext.push _ _) (Nat.le_refl _) ⟨_, Heap.get?_push_size _ rfl, 0, rfl⟩, h _⟩ hl
theorem Bo {es : List Expr} {pos : Pos} {Q : Value → St → Prop} (h : V c L n (spliced (backTo pos (starEach es e))) (fun vs σ₁ => V c L n (newList vs) Q σ₁) σ) : V c L n (eval (.List es pos) e) Q σ := by
 rw [arm_eval_List]; exact Ay (Bn (Ay h))
theorem Aw {es : List Expr} {k : Nat} {pos : Pos} {Q : Value → St → Prop} (h : V c L n (spliced (backTo pos (starEach es e))) (fun vs σ₁ => V c L n (newTuple vs) Q σ₁) σ) : V c L n (eval (.Tuple es k pos) e) Q σ := by
 rw [arm_eval_Tuple]; exact Ay (Bn (Ay h))
theorem At.list {h : Heap} {a : Addr} {vs : List Value} (x : At h a (.list vs)) : h.IsList a vs.toArray := by
 obtain ⟨o, e, n, rfl⟩ := x; exact ⟨_, e, rfl, n, rfl⟩
theorem At.plain {h : Heap} {a : Addr} {vs : List Value} (x : At h a (.list vs)) : h.PlainList a vs.toArray := by
 obtain ⟨o, e, n, rfl⟩ := x; exact ⟨n, e⟩
theorem At.ofPlain {h : Heap} {a : Addr} {vs : List Value} (x : h.PlainList a vs.toArray) : At h a (.list vs) := by
 obtain ⟨n, e⟩ := x; exact ⟨_, e, n, rfl⟩
theorem At.tup {h : Heap} {a : Addr} {vs : List Value} (x : At h a (.tup vs)) : IsTup h a vs.toArray := by
 obtain ⟨o, e, n, rfl⟩ := x; exact ⟨_, e, rfl, n, rfl⟩
theorem Gr {a : Addr} {vs : List Value} {Q : Value → St → Prop} (ha : Has σ a (.list vs)) (hl : vs.length < 2 ^ 62) (h : ∀ k, Q (.int vs.length k) σ) : V c L n (call (.builtin "len") [.ref a]) Q σ :=
 fun A B s hr hb ho hg => PyProof.Rows.len_list (ho.has ha).list (by rw [List.size_toArray]; lia) ⟨hg, rfl, σ, ho, by rw [List.size_toArray]; exact h _⟩
theorem Fx {value slice : Expr} {o i : Value} {T id : String} {Q : Value → St → Prop} (hT : ∀ B L (s : Shared), Own B L σ s.heap → s.TypeIs o T) (hl : typeLookup (.type T) "__getitem__" = pure (some (.builtin id)))
  (h : V c L n (getItem o i) Q σ) : V c L n (subscriptTail value slice o i) Q σ := fun A B s hr hb ho hg => by
 unfold subscriptTail
 refine wpAny_bind ?_
 rw [getitemInPython_of_ne (hT _ _ _ ho).not_modules]
 refine wpAny_bind (wpAny_specialOf (hT _ _ _ ho) hl ?_)
 have fin : wpAny (model c.prog c.w) A (subscripted slice false o i) (fun r s₃ => wpAny (model c.prog c.w) A (letTemporaryGo value o r >>= fun _ => pure r) (Pr B L s.os Q) No s₃) No s := by
  have h2 := wpAny_mono (h A B s hr hb ho hg) (Q' := fun r s₃ => wpAny (model c.prog c.w) A (letTemporaryGo value o r >>= fun _ => pure r) (Pr B L s.os Q) No s₃)
   (fun r s₃ h₃ => wpAny_bind (wpAny_letTemporaryGo (wpAny_pure h₃))) fun _ _ x => x
  cases slice with
  | Slice _ _ st _ => cases st <;> exact wpAny_operating h2
  | _ => exact wpAny_operating h2
 first
  | exact wpAny_pure (wpAny_bind fin)
  | exact wpAny_bind (wpAny_pure (wpAny_bind fin))
  | exact wpAny_bind fin
theorem DS {value slice : Expr} {a : Addr} {vs : List Value} {k : Int} {u : Tok} {x : Value} {Q : Value → St → Prop} (ha : Has σ a (.list vs)) (h0 : 0 ≤ k) (hk : k < 2 ^ 62) (hx : vs[k.toNat]? = some x) (h : Q x σ) :
  V c L n (subscriptTail value slice (.ref a) (.int k u)) Q σ :=
 Fx (T := "list") (fun _ _ s ho => (ho.has ha).list.typeIs) slot_list_getitem.lookup fun A B s hr hb ho hg => wpAny_getItem_list (ho.has ha).list h0 (by lia) (by simpa using hx) ⟨hg, rfl, σ, ho, h⟩
theorem Dm {value slice : Expr} {a : Addr} {vs : List Value} {k : Int} {u : Tok} {x : Value} {Q : Value → St → Prop} (ha : Has σ a (.list vs)) (h0 : k < 0) (hk : -(vs.length : Int) ≤ k) (hk2 : -(2 ^ 62) ≤ k) (hx : vs[(k + vs.length).toNat]? = some x) (h : Q x σ) :
  V c L n (subscriptTail value slice (.ref a) (.int k u)) Q σ :=
 Fx (T := "list") (fun _ _ s ho => (ho.has ha).list.typeIs) slot_list_getitem.lookup fun A B s hr hb ho hg => wpAny_getItem_list_neg (ho.has ha).list h0 (by simpa using hk) (by lia) (by simpa using hx) ⟨hg, rfl, σ, ho, h⟩
theorem Br {value slice : Expr} {a : Addr} {vs : List Value} {k : Int} {u : Tok} {x : Value} {Q : Value → St → Prop} (ha : Has σ a (.tup vs)) (h0 : 0 ≤ k) (hk : k < 2 ^ 62) (hx : vs[k.toNat]? = some x) (h : Q x σ) :
  V c L n (subscriptTail value slice (.ref a) (.int k u)) Q σ :=
 Fx (T := "tuple") (fun _ _ s ho => (ho.has ha).tup.typeIs) slot_tuple_getitem.lookup fun A B s hr hb ho hg => by
  have hlt : k.toNat < vs.length := (List.getElem?_eq_some_iff.mp hx).1
  exact getItem_tuple (ho.has ha).tup (by lia) (by clear hlt; omega) (seqIndex_of h0 (by rw [List.size_toArray]; lia)) (by simpa using hx) ⟨hg, rfl, σ, ho, h⟩
theorem CP {value slice : Expr} {x : List Nat} {t : Tok} {k : Int} {u : Tok} {ch : Nat} {Q : Value → St → Prop} (hk1 : -(2 ^ 62) ≤ k) (hk : k < 2 ^ 62) (hx : (seqIndex? k x.length).bind (x[·]?) = some ch) (h : ∀ t, Q (.str (S [ch]) t) σ) :
  V c L n (subscriptTail value slice (.str (S x) t) (.int k u)) Q σ :=
 Fx (T := "str") (fun _ _ s _ => typeIs_str _ _ _) F.slot_str_getitem.lookup (Go (fun v => ∃ t, v = .str (S [ch]) t)
  (fun _ _ _ _ h => PyProof.Rows.getItem_str (by simp; lia) (by rw [Bv]; simpa [S] using hx) (h _ _ ⟨_, rfl⟩)) fun _ ⟨t, ht⟩ => ht ▸ h t)
noncomputable def Ho (lo hi : Value) : D := .prop fun o => o = { cls := .type "slice", data := .fields #[lo, hi, .none] }
theorem Ex {lo hi : Option Expr} {pos : Pos} {Q : Value → St → Prop}
  (h : V c L n (evalPart lo e) (fun a σ₁ => V c L n (evalPart hi e) (fun b σ₂ => match σ₂ with | ⟨l, m, f, q⟩ => ∀ x, Q (.ref x) ⟨l, m, (x, Ho a b) :: f, q⟩) σ₁) σ) : V c L n (eval (.Slice lo hi none pos) e) Q σ := by
 rw [arm_eval_Slice]
 have h' := Ay (β := Value) (f := fun a => do let u ← holding [a] (evalPart hi e); let s ← holding [a, u] (valueOrNone (evalOpt none e)); newFields "slice" [a, u, s]) (Q := Q) (An h fun a σ₁ h₁ =>
  Ay (AS (An h₁ fun b σ₂ h₂ => Ay (AS (CM (x := Value.none) (Q := fun s σ' => V c L n (newFields "slice" [a, b, s]) Q σ') ?_)))))
 ·exact h'
 ·exact fun A B s hr hb ho hg => wpAny_newObj_type ⟨hg, rfl, _, ho.newFz (o := Ho a b) (Ext.push _ _) (Nat.le_refl _) ⟨_, Heap.get?_push_size _ rfl, rfl⟩, h₂ _⟩
theorem Cf {Q : Value → St → Prop} (h : Q .none σ) : V c L n (evalPart none e) Q σ := CM h
theorem BE {x : Expr} {Q : Value → St → Prop} (h : V c L n (eval x e) Q σ) : V c L n (evalPart (some x) e) Q σ := h
theorem IsPart.val {v : Value} {k : Option Int} (h : IsPart v k) : ∃ p : Option (Int × Tok), v = partValue p ∧ k = p.map (·.1) := by
 cases h with
 | none => exact ⟨none, rfl, rfl⟩
 | int i t => exact ⟨some (i, t), rfl, rfl⟩
theorem Ea {value slice : Expr} {x : List Nat} {t : Tok} {a : Addr} {vl vu : Value} {lo hi : Option Int} {Q : Value → St → Prop} (hlo : IsPart vl lo) (hhi : IsPart vu hi) (hx : x.length ≤ sizeLine)
  (h : ∀ t, Q (.str (S (cut x lo hi)) t) ⟨l, m, f, q⟩) : V c L n (subscriptTail value slice (.str (S x) t) (.ref a)) Q ⟨l, m, (a, Ho vl vu) :: f, q⟩ := by
 refine Ae (fun G_ hG_ => ?_)
 obtain ⟨pl, rfl, rfl⟩ := IsPart.val hlo
 obtain ⟨ph, rfl, rfl⟩ := IsPart.val hhi
 refine hG_ ?_
 clear hG_ G_
 refine Fx (T := "str") (fun _ _ s _ => typeIs_str _ _ _) F.slot_str_getitem.lookup fun A B s hr hb ho hg => ?_
 obtain ⟨o, e1, rfl⟩ := (ho.fz _ List.mem_cons_self).1
 have ho' : Own B L ⟨l, m, f, q⟩ s.heap := ho.weak rfl (List.Sublist.refl _) (fun p hp => List.mem_cons_of_mem _ hp) fun _ x => x
 refine wpAny_getItem_str_slice (l := pl) (u := ph) (st := none) ⟨_, e1, rfl, rfl⟩ rfl ?_
 have e2 : (slicePicked (S x) pl ph none).filterMap ((S x).cps[·]?) = cut x (pl.map (·.1)) (ph.map (·.1)) := by
  have := str_cut x (pl.map (·.1)) (ph.map (·.1))
  unfold slicePicked
  rw [Bv]
  simpa using this
 unfold sliceMade
 split
 ·rename_i q
  have e3 : cut x (pl.map (·.1)) (ph.map (·.1)) = x := by
   have q2 : (slicePicked (S x) pl ph none).length = x.length := by simpa [Bv] using q
   have e5 : (cut x (pl.map (·.1)) (ph.map (·.1))).length = x.length := by
    rw [← e2, List.length_filterMap_eq_countP, List.countP_eq_length.mpr, q2]
    intro j hj
    have hj' : j ∈ Builtin.Str.strSliceIndices (pl.map (·.1)) (ph.map (·.1)) 1 x.length := by
     have := hj; unfold slicePicked at this; rwa [Bv] at this
    unfold Builtin.Str.strSliceIndices at hj'
    simp only [show ((1 : Int) > 0) from by decide, if_true] at hj'
    rw [Ce _ _ (by cases pl <;> simp; clear hx q2; omega) (by cases ph <;> simp; omega)] at hj'
    obtain ⟨i, hi, rfl⟩ := List.mem_map.mp hj'
    have hi' := List.mem_range.mp hi
    rw [List.getElem?_toArray, Option.isSome_iff_ne_none]
    intro hq
    have hq' := List.getElem?_eq_none_iff.mp hq
    revert hi'
    cases ph with
    | none => simp; lia
    | some p => simp only [Option.map_some]; clear q2; omega
   exact (List.Sublist.eq_of_length (by unfold cut; exact (List.drop_sublist _ _).trans (List.take_sublist _ _)) e5)
  have := h t
  rw [e3] at this
  exact ⟨hg, rfl, _, ho', this⟩
 ·rw [e2]
  refine ⟨?_, hg, rfl, _, ho', h _⟩
  rw [Bv]
  exact Nat.le_trans (E7 _ _ _) hx
theorem Gs {value slice : Expr} {vs : List Value} {b a : Addr} {vl vu : Value} {lo hi : Option Int} {Q : Value → St → Prop} (hlo : IsPart vl lo) (hhi : IsPart vu hi) (hx : vs.length ≤ sizeLine) (hb : Has ⟨l, m, f, q⟩ b (.list vs))
  (h : ∀ r, Q (.ref r) ⟨l, (r, .list (cut vs lo hi)) :: m, f, q⟩) : V c L n (subscriptTail value slice (.ref b) (.ref a)) Q ⟨l, m, (a, Ho vl vu) :: f, q⟩ := by
 have hb' : Has ⟨l, m, (a, Ho vl vu) :: f, q⟩ b (.list vs) := hb.imp id fun x => x.imp (fun x => List.mem_cons_of_mem _ x) id
 refine Fx (T := "list") (fun _ _ s ho => (ho.has hb').list.typeIs) slot_list_getitem.lookup fun A B s hr hB ho hg => ?_
 obtain ⟨o, e1, rfl⟩ := (ho.fz _ List.mem_cons_self).1
 have ho' : Own B L ⟨l, m, f, q⟩ s.heap := ho.weak rfl (List.Sublist.refl _) (fun p hp => List.mem_cons_of_mem _ hp) fun _ x => x
 refine wpAny_getItem_list_slice (ho.has hb').list ⟨_, e1, rfl, rfl⟩ hlo hhi .none (by simp) ?_ (by rw [List.size_toArray]; exact hx)
 rw [N9]
 exact ⟨hg, rfl, _, ho'.newMut (o := .list (cut vs lo hi)) (Ext.push _ _) (Nat.le_refl _) ⟨_, Heap.get?_push_size _ rfl, 0, rfl⟩, h _⟩
end
inductive PSp (h : Heap) (os : OsState) (post : Led → Prop) (s' : Shared) : Prop
 | mk (hg : AllBare s'.gens) (ho : s'.os = os) (hx : Ext h s'.heap) (nz : Led) (hn : ∀ p ∈ nz, h.objs.size ≤ p.1 ∧ At s'.heap p.1 p.2) (hp : post nz)
noncomputable def Hp (c : Cx) (n : Nat) (fn : Value) (vs : List Value) (fz : Led) (post : Value → Led → Prop) : Prop :=
 ∀ A (s : Shared), Rm n A → (∀ a o, c.b.get? a = some o → s.heap.get? a = some o) → (∀ p ∈ fz, At s.heap p.1 p.2) → AllBare s.gens →
  wpAny (model c.prog c.w) A (call fn vs) (fun v s' => PSp s.heap s.os (post v) s') No s
noncomputable abbrev Hq (σ : St) : Led := σ.mu ++ (σ.fz ++ σ.od)
theorem Ng {B : PM} {L : Addr} {σ : St} {h : Heap} (O : Own B L σ h) : ∀ p ∈ Hq σ, At h p.1 p.2 := fun p hp => by
 rcases List.mem_append.mp hp with hp | hp
 ·exact O.has (.inl hp)
 ·rcases List.mem_append.mp hp with hp | hp
  ·exact O.has (.inr (.inl hp))
  ·exact O.has (.inr (.inr hp))
theorem Own.newLed {B : PM} {L : Addr} {σ : St} {h h' : Heap} (O : Own B L σ h) (k : Ext h h') {l : Led} (hl : ∀ p ∈ l, h.objs.size ≤ p.1 ∧ At h' p.1 p.2) :
  Own B L { σ with fz := l ++ σ.fz } h' := by
 have O' := O.ext k
 refine ⟨O'.sub, O'.ns, O'.ln, O'.LB, O'.mu, O'.nd, fun p hp => ?_, O'.od⟩
 rcases List.mem_append.mp hp with hp | hp
 ·refine Ae (fun G_ hG_ => ?_)
  obtain ⟨f1, f2, f3, f4, f5, f6⟩ := O.fresh (hl p hp).1
  refine hG_ ?_
  clear hG_ G_
  exact ⟨(hl p hp).2, f2, f3, f6⟩
 ·exact O'.fz p hp
section
variable {c : Cx} {L : Addr} {n : Nat} {σ : St} {α β : Type} {e : Env} {l l' : Loc} {m m' f q : Led}
theorem Hr {fn : Value} {vs : List Value} {fz : Led} {post : Value → Led → Prop} {Q : Value → St → Prop} (hs : Hp c n fn vs fz post) (hf : ∀ p ∈ fz, Has ⟨l, m, f, q⟩ p.1 p.2)
  (h : ∀ v nz, post v nz → Q v ⟨l, m, nz ++ f, q⟩) : V c L n (call fn vs) Q ⟨l, m, f, q⟩ :=
 fun A B s hr hb ho hg => wpAny_mono (hs A s hr (fun a o q => ho.sub a o (hb a o q)) (fun p hp => ho.has (hf p hp)) hg)
  (fun v s' ⟨hg', hos, hx, nz, hn, hp⟩ => ⟨hg', hos, _, ho.newLed hx hn, h v nz hp⟩) fun _ _ x => x
inductive Ret (post : Value → Led → Prop) (f : Flow) (σ' : St) : Prop
 | mk (v : Value) (nz : Led) (h0 : f = .ret v) (h1 : post v nz) (h2 : ∀ p ∈ nz, p ∈ σ'.fz ∨ p ∈ σ'.mu)
inductive FnR (c : Cx) (a : Addr) (params : List PySem.Str) (body : List Stmt) (scope : Scope) : Prop
 | mk (o : Obj) (fd : FuncData) (h1 : c.b.get? a = some o) (h2 : o.data = .func fd) (h3 : ∀ vs : List Value, vs.length = params.length → bindArgs fd ⟨vs, []⟩ = pure (params.zip vs))
  (h4 : fd.body = .stmts body) (h5 : fd.scope = scope) (h6 : fd.closure = []) (h7 : fd.globals = mainGlobals) (h8 : fd.builtins = builtinsNs) (h9 : fd.defaults = .none) (h10 : fd.kwdefaults = .none) (h11 : c.b.CodeRec fd.code fd.qualname)
structure D0 (c : Cx) (a : Addr) (name : PySem.Str) (params : List PySem.Str) (body : List Stmt) (scope : Scope) : Prop where
 glob : c.mg name = some (.ref a)
 at' : FnR c a params body scope
theorem Gb {α β : Type} {f g : α → Option β} : ∀ {l : List α}, (∀ x ∈ l, f x = g x) → l.filterMap f = l.filterMap g
 | [], _ => rfl
 | x :: r, h => by rw [List.filterMap_cons, List.filterMap_cons, h x List.mem_cons_self, Gb fun y hy => h y (List.mem_cons_of_mem _ hy)]
end
noncomputable def Dn (KL : List (PySem.Str × NameKind)) (bs : List (PySem.Str × Value)) : Loc := KL.filterMap fun p => match p.2 with | .local => some (p.1, bs.lookup p.1) | _ => none
noncomputable def Do (bs : List (PySem.Str × Value)) (CL : List (PySem.Str × Addr)) : Led := CL.map fun p => (p.2, D.cell (bs.lookup p.1))
theorem D1 {α : Type} : ∀ {l : List (PySem.Str × α)} {x : PySem.Str}, x ∉ l.map (·.1) → l.lookup x = none
 | [], _, _ => rfl
 | (k, v) :: r, x, h => by
  rw [List.lookup_cons]
  have h1 : x ≠ k := fun e => h (by simp [e])
  rw [beq_eq_false_iff_ne.mpr h1]
  exact D1 fun q => h (List.mem_cons_of_mem _ q)
theorem AU {α : Type} : ∀ {l : List (PySem.Str × α)} {x : PySem.Str} {v : α}, (l.map (·.1)).Nodup → (x, v) ∈ l → l.lookup x = some v
 | (k, w) :: r, x, v, hn, h => by
  obtain ⟨n1, n2⟩ := List.nodup_cons.mp hn
  rw [List.lookup_cons]
  rcases List.mem_cons.mp h with e | h
  ·cases e; simp
  ·have h1 : x ≠ k := fun e => n1 (by show k ∈ _; rw [← e]; exact List.mem_map_of_mem (f := (·.1)) h)
   rw [beq_eq_false_iff_ne.mpr h1]
   exact AU n2 h
theorem GU (K : PySem.Str → Option NameKind) : ∀ (bs : List (PySem.Str × Value)) (m : PySem.Str → Option Value) (x : PySem.Str), (bs.map (·.1)).Nodup →
  bindL K bs m x = if K x = some .local then ((bs.lookup x).or (m x)) else m x
 | [], m, x, _ => by unfold bindL; simp
 | (k, v) :: r, m, x, hn => by
  obtain ⟨n1, n2⟩ := List.nodup_cons.mp hn
  unfold bindL
  rw [GU K r _ x n2, List.lookup_cons]
  by_cases e : x = k
  ·subst e
   have : r.lookup x = none := D1 n1
   by_cases h : K x = some .local <;> simp [h, this]
  ·rw [beq_eq_false_iff_ne.mpr e]
   by_cases h : K k = some .local <;> simp [h, e]
theorem GV (K : PySem.Str → Option NameKind) : ∀ (bs : List (PySem.Str × Value)) (m : PySem.Str → Option Value) (x : PySem.Str), (bs.map (·.1)).Nodup →
  bindC K bs m x = if K x = some .local then m x else ((bs.lookup x).or (m x))
 | [], m, x, _ => by unfold bindC; simp
 | (k, v) :: r, m, x, hn => by
  obtain ⟨n1, n2⟩ := List.nodup_cons.mp hn
  unfold bindC
  rw [GV K r _ x n2, List.lookup_cons]
  by_cases e : x = k
  ·subst e
   have : r.lookup x = none := D1 n1
   by_cases h : K x = some .local <;> simp [h, this]
  ·rw [beq_eq_false_iff_ne.mpr e]
   by_cases h : K k = some .local <;> simp [h, e]
theorem C4 : ∀ (KL : List (PySem.Str × NameKind)) (k : Nat) (acc : List (PySem.Str × Addr)) (x : PySem.Str), x ∈ (cellsFrom k KL acc).map (·.1) → (x, NameKind.cell) ∈ KL ∨ x ∈ acc.map (·.1)
 | [], k, acc, x, h => .inr h
 | (y, d) :: r, k, acc, x, h => by
  unfold cellsFrom at h
  split at h
  ·rename_i hd
   rcases C4 r _ _ x h with q | q
   ·exact .inl (List.mem_cons_of_mem _ q)
   ·rcases List.mem_cons.mp q with q | q
    ·exact .inl (by rw [show x = y from q, beq_iff_eq.mp hd]; exact List.mem_cons_self)
    ·exact .inr q
  ·exact (C4 r _ _ x h).imp (fun q => List.mem_cons_of_mem _ q) id
theorem BZ : ∀ (KL : List (PySem.Str × NameKind)) (k : Nat) (acc : List (PySem.Str × Addr)), (KL.map (·.1)).Nodup → (acc.map (·.1)).Nodup → (∀ x ∈ acc.map (·.1), x ∉ KL.map (·.1)) → ((cellsFrom k KL acc).map (·.1)).Nodup
 | [], k, acc, _, h, _ => h
 | (y, d) :: r, k, acc, hn, h, hx => by
  obtain ⟨n1, n2⟩ := List.nodup_cons.mp hn
  unfold cellsFrom
  split
  ·refine BZ r _ _ n2 (List.nodup_cons.mpr ⟨fun q => hx y q List.mem_cons_self, h⟩) fun x q => ?_
   rcases List.mem_cons.mp q with q | q
   ·rw [show x = y from q]; exact n1
   ·exact fun z => hx x q (List.mem_cons_of_mem _ z)
  ·exact BZ r _ _ n2 h fun x q z => hx x q (List.mem_cons_of_mem _ z)
theorem Bp {KL : List (PySem.Str × NameKind)} {k : Nat} (hn : (KL.map (·.1)).Nodup) : ((cellsFrom k KL []).map (·.1)).Nodup := BZ KL k [] hn List.Pairwise.nil fun x q => nomatch q
theorem DK {KL : List (PySem.Str × NameKind)} {k : Nat} (hn : (KL.map (·.1)).Nodup) {x : PySem.Str} {b : Addr} (h : (cellsFrom k KL []).lookup x = some b) : KL.lookup x = some .cell := by
 have hm := mem_of_lookup h
 rcases C4 KL k [] x (List.mem_map_of_mem (f := (·.1)) hm) with q | q
 ·exact AU hn q
 ·exact nomatch q
theorem Ch (bs : List (PySem.Str × Value)) : ∀ KL : List (PySem.Str × NameKind), List.Sublist ((Dn KL bs).map (·.1)) (KL.map (·.1))
 | [] => List.Sublist.refl _
 | (k, d) :: r => by
  unfold Dn
  rw [List.filterMap_cons]
  cases d <;> first | exact (Ch bs r).cons _ | exact (Ch bs r).cons_cons _
theorem Fd (bs : List (PySem.Str × Value)) : ∀ (KL : List (PySem.Str × NameKind)) (x : PySem.Str), (KL.map (·.1)).Nodup → lk (Dn KL bs) x = if KL.lookup x = some .local then bs.lookup x else none
 | [], x, _ => rfl
 | (k, d) :: r, x, hn => by
  obtain ⟨n1, n2⟩ := List.nodup_cons.mp hn
  have ih := Fd bs r x n2
  have hc : lk (Dn ((k, d) :: r) bs) x = if d = .local then (if x = k then bs.lookup k else lk (Dn r bs) x) else lk (Dn r bs) x := by
   unfold Dn
   rw [List.filterMap_cons]
   cases d <;> simp only [reduceCtorEq, if_false, if_true]
   exact Es _ _ _
  rw [hc, ih, List.lookup_cons]
  by_cases e : x = k
  ·subst e
   have : r.lookup x = none := D1 n1
   cases d <;> simp [this]
  ·rw [beq_eq_false_iff_ne.mpr e]
   cases d <;> simp [e]
section
variable {c : Cx} {n : Nat}
theorem DT {a : Addr} {name : PySem.Str} {ps : List PySem.Str} {body : List Stmt} {scope : Scope} {vs : List Value} {fz : Led} {post : Value → Led → Prop} (hc : c.Ok) (F : D0 c a name ps body scope)
  {KL : List (PySem.Str × NameKind)} (hKL : scope.names = KL) (hk : scope.kind = .function) (hco : scope.isCoroutine = false) (hge : scope.isGenerator = false)
  (hKn : (KL.map (·.1)).Nodup) (hps : ps.Nodup) (hlen : ps.length = vs.length)
  (hpk : ∀ x ∈ ps, KL.lookup x = some .local ∨ KL.lookup x = some .cell)
  (h : ∀ L e, Ag e L KL (cellsFrom (L + 1) KL []) → (∀ o fd, c.b.get? a = some o → o.data = .func fd → e.code = fd.code ∧ e.qual = fd.qualname ++ ".<locals>.") →
   V c L n (execs body e) (Ret post) ⟨Dn KL (ps.zip vs), Do (ps.zip vs) (cellsFrom (L + 1) KL []), [], fz⟩) : Hp c (n + 1) (.ref a) vs fz post := by
 refine Ae (fun G_ hG_ => ?_)
 obtain ⟨o, fd, ho, hd, h1, h6, h7, h8, h9, h10, h11, h12, h13⟩ := F.at'
 refine hG_ ?_
 clear hG_ G_
 intro A s hr hb hf hg
 have hbn : ((ps.zip vs).map (·.1)) = ps := by rw [List.map_fst_zip]; exact Nat.le_of_eq hlen
 have hcells : ∀ x k, KL.lookup x = some .cell → ((cellsFrom k KL []).lookup x).isSome = true := fun x k hx => cellsFrom_some KL k [] (.inl hx)
 have hb' : ∀ a o, c.b.get? a = some o → s.heap.get? a = some o := hb
 subst hKL
 refine wpAny_call (codeAny_call_cells (o := o) (fd := fd) (body := body) (binds := ps.zip vs) hr.room (hb _ _ ho) hd (hc.lim.keeps hb) (h13.keeps hb) h6 ?_ h8 ?_ (fun s₁ x => ?_) (h7 ▸ hco) (h7 ▸ hge) (h7 ▸ hk))
 ·exact h1 vs hlen.symm
 ·intro y hy
  rw [h7]
  have hm : y.1 ∈ ps := by rw [← hbn]; exact List.mem_map_of_mem hy
  exact (hpk _ hm).imp id fun q => ⟨q, hcells _ _ q⟩
 ·have hkind : (callEnvC fd s.heap.objs.size a).kindOf = fun x => scope.names.lookup x := by
   funext y
   show fd.scope.names.lookup y = _
   rw [h7]
  have hcl : (callEnvC fd s.heap.objs.size a).cells = cellsFrom (s.heap.objs.size + 1) scope.names [] := by
   show cellsFrom (s.heap.objs.size + 1) fd.scope.names [] = _
   rw [h7]
  have hlo : (callEnvC fd s.heap.objs.size a).locals = s.heap.objs.size := rfl
  generalize he : callEnvC fd s.heap.objs.size a = e at x hkind hcl hlo ⊢
  have hE : Ag e s.heap.objs.size scope.names (cellsFrom (s.heap.objs.size + 1) scope.names []) := by
   refine ⟨by rw [← he]; show fd.scope.kind = _; rw [h7]; exact hk, hlo, by rw [← he]; exact h9, by rw [← he]; exact h10, fun y k hy => by rw [hkind]; exact AU hKn hy, fun y b hy => ?_⟩
   rw [hcl]
   exact AU (Bp hKn) hy
  obtain ⟨h', tk, rfl, hkeep⟩ := x.done
  have hO : Own ⟨fun b => s.heap.get? b, [], fun _ q => nomatch q⟩ s.heap.objs.size ⟨Dn scope.names (ps.zip vs), Do (ps.zip vs) (cellsFrom (s.heap.objs.size + 1) scope.names []), [], fz⟩ h' := by
   refine ⟨fun b ob q => hkeep b ob q, ?_, List.Nodup.sublist (Ch _ _) hKn, Heap.get?_none_of_le (Nat.le_refl _), fun p hp => ?_, ?_, (fun p hp => nomatch hp), fun p hp => ?_⟩
   ·have := x.toInCall.ns
    rw [hlo, hkind] at this
    have e2 : lk (Dn scope.names (ps.zip vs)) = bindL (fun x => scope.names.lookup x) (ps.zip vs) fun _ => none := by
     funext y
     rw [Fd _ _ _ hKn, GU _ _ _ _ (by rw [hbn]; exact hps)]
     simp
    rw [e2]; exact this
   ·obtain ⟨⟨y, b⟩, hy, rfl⟩ := List.mem_map.mp hp
    have hlk := AU (Bp hKn) hy
    have hcell := x.cell y b (by rw [hcl]; exact hlk)
    have habove := x.above y b (by rw [hcl]; exact hy)
    rw [hlo] at habove
    have e3 : bindC e.kindOf (ps.zip vs) (fun _ => none) y = (ps.zip vs).lookup y := by
     rw [hkind, GV _ _ _ _ (by rw [hbn]; exact hps)]
     have := DK hKn hlk
     rw [this]; simp
    rw [e3] at hcell
    exact ⟨hcell, Heap.get?_none_of_le (Nat.le_of_lt habove), habove⟩
   ·have e4 : (Do (ps.zip vs) (cellsFrom (s.heap.objs.size + 1) scope.names [])).map (·.1) = (cellsFrom (s.heap.objs.size + 1) scope.names []).map (·.2) := by
     rw [Do, List.map_map]; rfl
    show (List.map (·.1) (Do _ _)).Nodup
    rw [e4]
    have := x.apart
    rw [hcl] at this
    exact List.pairwise_map.mpr this
   ·refine ⟨(hf p hp).mono fun o => hkeep _ o, Nat.ne_of_lt (hf p hp).lt, fun q => ?_, List.not_mem_nil⟩
    refine Ae (fun G_ hG_ => ?_)
    obtain ⟨r, hr, e⟩ := List.mem_map.mp q
    obtain ⟨⟨y, b⟩, hy, rfl⟩ := List.mem_map.mp hr
    refine hG_ ?_
    clear hG_ G_
    have habove := x.above y b (by rw [hcl]; exact hy)
    have e' : b = p.1 := e
    rw [e', hlo] at habove
    exact Nat.lt_irrefl _ (Nat.lt_trans habove (hf p hp).lt)
  have := h s.heap.objs.size e hE (fun o' fd' q1 q2 => by rw [ho] at q1; cases q1; rw [hd] at q2; cases q2; rw [← he]; exact ⟨rfl, rfl⟩) (A.deeper e) ⟨fun b => s.heap.get? b, [], fun _ q => nomatch q⟩ { s with heap := h', toks := tk } hr.deeper hb hO hg
  refine wpAny_mono this (fun fl s₂ hp => ?_) fun _ _ q => q.elim
  refine Ae (fun G_ hG_ => ?_)
  obtain ⟨hg₂, hos, σ', hw, v, nz, rfl, hpost, hnz⟩ := hp
  refine hG_ ?_
  clear hG_ G_
  refine ⟨hg₂, hos, hw.sub, nz, fun p hp => ?_, hpost⟩
  rcases hnz p hp with q | q
  ·exact ⟨Nat.le_of_lt (hw.fz p q).2.1, (hw.fz p q).1⟩
  ·exact ⟨Nat.le_of_lt (hw.mu p q).2.2, (hw.mu p q).1⟩
end
theorem AP {c : Cx} {L : Addr} {n : Nat} {σ : St} {e : Env} {x : PySem.Str} {y : List Nat} {k : Nat} {pos : Pos} {Q : Value → St → Prop} (hx : x = S y) (h : ∀ t, Q (.str (S y) t) σ) : V c L n (eval (.Constant (.str x) k pos) e) Q σ :=
 V_str (hx ▸ h)
theorem Ab {b : Bool} {A B : Prop} (h1 : b = true → A) (h2 : b = false → B) : if b = true then A else B := by
 cases b with
 | true => exact h1 rfl
 | false => exact h2 rfl
theorem lit0 : ofString "*" = S [42] := by decide +kernel
theorem lit1 : ofString "?" = S [63] := by decide +kernel
theorem PQ : ofString "[" = S [91] := by decide +kernel
theorem LL : ofString "!" = S [33] := by decide +kernel
theorem Nh : ofString "]" = S [93] := by decide +kernel
theorem lit5 : ofString "\\[" = S [92, 91] := by decide +kernel
theorem KA : ofString "-" = S [45] := by decide +kernel
theorem Qe : ofString "\\" = S [92] := by decide +kernel
theorem lit8 : ofString "\\\\" = S [92, 92] := by decide +kernel
theorem lit9 : ofString "(?!)" = S [40, 63, 33, 41] := by decide +kernel
theorem lit10 : ofString "." = S [46] := by decide +kernel
theorem lit11 : ofString "\\-" = S [92, 45] := by decide +kernel
theorem D3 : ofString "" = S [] := by decide +kernel
theorem Ni : ofString "^" = S [94] := by decide +kernel
theorem Nj : ofString "(?s:" = S [40, 63, 115, 58] := by decide +kernel
theorem Nk : ofString ")\\Z" = S [41, 92, 90] := by decide +kernel
theorem PR : ofString ".*" = S [46, 42] := by decide +kernel
theorem PS : ofString "(?>.*?" = S [40, 63, 62, 46, 42, 63] := by decide +kernel
theorem Nl : ofString ")" = S [41] := by decide +kernel
theorem KB : ofString "!-ab" = S [33, 45, 97, 98] := by decide +kernel
theorem lit20 : ofString "0123456789abcdefghijklmnopqrstuvwxyzABCDEFGHIJKLMNOPQRSTUVWXYZ" = S [48, 49, 50, 51, 52, 53, 54, 55, 56, 57, 97, 98, 99, 100, 101, 102, 103, 104, 105, 106, 107, 108, 109, 110, 111, 112, 113, 114, 115, 116, 117, 118, 119, 120, 121, 122, 65, 66, 67, 68, 69, 70, 71, 72, 73, 74, 75, 76, 77, 78, 79, 80, 81, 82, 83, 84, 85, 86, 87, 88, 89, 90] := by decide +kernel
theorem lit21 : ofString "(?>" = S [40, 63, 62] := by decide +kernel
theorem Hs : ofString "hold" = S [104, 111, 108, 100] := by decide +kernel
theorem Ji : ofString "free" = S [102, 114, 101, 101] := by decide +kernel
theorem lit24 : ofString ".*?" = S [46, 42, 63] := by decide +kernel
theorem Nm : ofString "least" = S [108, 101, 97, 115, 116] := by decide +kernel
theorem PT : ofString "most" = S [109, 111, 115, 116] := by decide +kernel
theorem PU : ofString "a" = S [97] := by decide +kernel
theorem PV : ofString "b" = S [98] := by decide +kernel
theorem lit29 : ofString "[^-]" = S [91, 94, 45, 93] := by decide +kernel
theorem lit30 : ofString "b-a" = S [98, 45, 97] := by decide +kernel
theorem lit31 : ofString "[!b-a]" = S [91, 33, 98, 45, 97, 93] := by decide +kernel
noncomputable def PX (i : Nat) : Option (PySem.Str × Arguments × List Stmt × Scope) := match PySem.Challenge.pw_ko0024_01.main.body[i]? with
 | some (.FunctionDef nm a b _ _ _ sc _ _ _) => some (nm, a, b, sc)
 | _ => none
noncomputable def Av (i : Nat) : List Stmt := match PX i with | some (_, _, b, _) => b | none => []
noncomputable def Al (i : Nat) : Scope := match PX i with | some (_, _, _, s) => s | none => default
section
variable {c : Cx} {L : Addr} {n : Nat} {σ : St} {e : Env}
noncomputable def Nn (y x : List Nat) : Bool := match y with | [] => true | [ch] => decide (ch ∈ x) | _ => false
theorem JZ {x y : List Nat} {t u : Tok} {Q : Value → St → Prop} (hy : y.length ≤ 1) (h : Q (.bool (Nn y x)) σ) : V c L n (compareOp .In (.str (S y) u) (.str (S x) t)) Q σ := by
 refine AE _ (fun _ _ _ _ h => PyProof.Rows.in_str h) ?_
 have e : (!List.isEmpty (Builtin.Str.occurrences (S x) (S y) 0 (S x).length 1)) = Nn y x := by
  match y, hy with
  | [], _ =>
   refine (StrLaws.found_iff (S x) (S [])).mpr ⟨0, ?_, ?_⟩
   ·simp [S, PySem.Str.length]
   ·rw [StrLaws.subAt_eq]; simp [Bv]
  | [ch], _ => exact StrLaws.found_one (S x) ch
 rw [e]; exact h
theorem Ht {x : List Nat} {ch : Nat} {t u : Tok} {Q : Value → St → Prop} (h : Q (.bool (!decide (ch ∈ x))) σ) : V c L n (compareOp .NotIn (.str (S [ch]) u) (.str (S x) t)) Q σ := by
 have e := StrLaws.found_one (S x) ch
 refine AE (.bool (!(!List.isEmpty (Builtin.Str.occurrences (S x) (S [ch]) 0 (S x).length 1)))) (fun _ _ _ _ h => PyProof.Rows.notIn_str h) ?_
 rw [e]; exact h
end
section
variable {c : Cx} {L : Addr} {n : Nat} {σ : St} {e : Env}
theorem G_eval {x : Expr} {Q : Value → St → Prop} (h : V c L n (eval x e) Q σ) : V c L n (eval x e) Q σ := h
theorem G_load {x : PySem.Str} {Q : Value → St → Prop} (h : V c L n (loadName e x) Q σ) : V c L n (loadName e x) Q σ := h
theorem G_store {x : PySem.Str} {v : Value} {Q : Unit → St → Prop} (h : V c L n (storeName e x v) Q σ) : V c L n (storeName e x v) Q σ := h
theorem G_bin {o : Operator} {x y : Value} {Q : Value → St → Prop} (h : V c L n (binaryOp o x y) Q σ) : V c L n (binaryOp o x y) Q σ := h
theorem G_cmp {o : CmpOp} {x y : Value} {Q : Value → St → Prop} (h : V c L n (compareOp o x y) Q σ) : V c L n (compareOp o x y) Q σ := h
theorem G_true {x : Expr} {w : Sem Value} {Q : Bool → St → Prop} (h : V c L n (isTrue x e w) Q σ) : V c L n (isTrue x e w) Q σ := h
theorem G_all {o : BoolOp} {x : List Expr} {Q : Bool → St → Prop} (h : V c L n (allTrue o x e) Q σ) : V c L n (allTrue o x e) Q σ := h
theorem G_exec {x : Stmt} {Q : Flow → St → Prop} (h : V c L n (exec x e) Q σ) : V c L n (exec x e) Q σ := h
end
noncomputable def PM.add (B : PM) (I : Addr) (o : Obj) : PM := ⟨fun a => if a = I then some o else B.pm a, I :: B.hid, fun a ha => by
 by_cases h : a = I
 ·exact ⟨o, if_pos h⟩
 ·obtain ⟨x, e⟩ := B.hok a ((List.mem_cons.mp ha).resolve_left h)
  exact ⟨x, (if_neg h).trans e⟩⟩
noncomputable def PM.dep (B : PM) (h : Heap) (ds : List Addr) : PM := ⟨fun a => if a ∈ ds then (h.get? a).or (B.pm a) else B.pm a, B.hid, fun a ha => by
 obtain ⟨x, e⟩ := B.hok a ha
 by_cases q : a ∈ ds
 ·rw [if_pos q, e]; cases h.get? a <;> exact ⟨_, rfl⟩
 ·exact ⟨x, (if_neg q).trans e⟩⟩
section
variable {B : PM} {L : Addr} {σ : St} {h h' : Heap}
theorem Own.addHid (O : Own B L σ h) (k : Ext h h') {I : Addr} {o : Obj} (hI : h.objs.size ≤ I) (hg : h'.get? I = some o) : Own (B.add I o) L σ h' := by
 refine Ae (fun G_ hG_ => ?_)
 obtain ⟨f1, f2, f3, f4, f5, f6⟩ := O.fresh hI
 refine hG_ ?_
 clear hG_ G_
 have O' := O.ext k
 have cons : ∀ {x}, x ≠ I → x ∉ B.hid → x ∉ (B.add I o).hid := fun h1 h2 q => (List.mem_cons.mp q).elim h1 h2
 refine ⟨fun a x e => ?_, O'.ns, O'.ln, (if_neg (Nat.ne_of_lt f2)).trans O'.LB, fun p hp => ⟨(O'.mu p hp).1, (if_neg fun (q : p.1 = I) => f3 (q ▸ List.mem_map_of_mem (f := (·.1)) hp)).trans (O'.mu p hp).2.1, (O'.mu p hp).2.2⟩, O'.nd,
  fun p hp => ⟨(O'.fz p hp).1, (O'.fz p hp).2.1, (O'.fz p hp).2.2.1, cons (fun q => f4 (q ▸ List.mem_map_of_mem (f := (·.1)) hp)) (O'.fz p hp).2.2.2⟩,
  fun p hp => ⟨(O'.od p hp).1, (O'.od p hp).2.1, (O'.od p hp).2.2.1, cons (fun q => f5 (q ▸ List.mem_map_of_mem (f := (·.1)) hp)) (O'.od p hp).2.2.2⟩⟩
 by_cases q : a = I
 ·have e' : some o = some x := (if_pos q).symm.trans e
  cases e'; rw [q]; exact hg
 ·exact O'.sub a x ((if_neg q).symm.trans e)
theorem Own.at_hid {I : Addr} {o : Obj} (O : Own (B.add I o) L σ h) : h.get? I = some o ∧ L ≠ I ∧ I ∉ σ.mu.map (·.1) ∧ I ∉ σ.fz.map (·.1) ∧ I ∉ σ.od.map (·.1) := by
 refine ⟨O.sub I o (if_pos rfl), fun q => ?_, fun q => ?_, fun q => ?_, fun q => ?_⟩
 ·have e := O.LB
  have e' : (B.add I o).pm L = some o := if_pos q
  rw [e'] at e; cases e
 ·obtain ⟨p, hp, e⟩ := List.mem_map.mp q
  have e' : (B.add I o).pm p.1 = some o := if_pos e
  rw [(O.mu p hp).2.1] at e'; cases e'
 ·obtain ⟨p, hp, e⟩ := List.mem_map.mp q
  exact (O.fz p hp).2.2.2 (by rw [show p.1 = I from e]; exact List.mem_cons_self)
 ·obtain ⟨p, hp, e⟩ := List.mem_map.mp q
  exact (O.od p hp).2.2.2 (by rw [show p.1 = I from e]; exact List.mem_cons_self)
theorem Own.leaveHid {I : Addr} {o : Obj} (O : Own (B.add I o) L σ h) (k : Heap.ExtBut I h h') (hB : B.pm I = none) : Own B L σ h' := by
 refine Ae (fun G_ hG_ => ?_)
 obtain ⟨g1, g2, g3, g4, g5⟩ := O.at_hid
 refine hG_ ?_
 clear hG_ G_
 have ne : ∀ {x : Addr} {l : Led} {p : Addr × D}, I ∉ l.map (·.1) → p ∈ l → p.1 ≠ I := fun h1 h2 q => h1 (q ▸ List.mem_map_of_mem (f := (·.1)) h2)
 have nB : ∀ {a x}, B.pm a = some x → a ≠ I := fun e q => by rw [q, hB] at e; cases e
 refine ⟨fun a x e => k a x (nB e) (O.sub a x ((if_neg (nB e)).trans e)), O.ns.extBut k g2, O.ln, ?_, fun p hp => ⟨(O.mu p hp).1.mono fun x => k _ x (fun q => g3 (q ▸ List.mem_map_of_mem (f := (·.1)) hp)), ?_, (O.mu p hp).2.2⟩, O.nd,
  fun p hp => ⟨(O.fz p hp).1.mono fun x => k _ x (fun q => g4 (q ▸ List.mem_map_of_mem (f := (·.1)) hp)), (O.fz p hp).2.1, (O.fz p hp).2.2.1, fun q => (O.fz p hp).2.2.2 (List.mem_cons_of_mem _ q)⟩,
  fun p hp => ⟨(O.od p hp).1.mono fun x => k _ x (fun q => g5 (q ▸ List.mem_map_of_mem (f := (·.1)) hp)), (O.od p hp).2.1, (O.od p hp).2.2.1, fun q => (O.od p hp).2.2.2 (List.mem_cons_of_mem _ q)⟩⟩
 ·exact (if_neg g2).symm.trans O.LB
 ·exact (if_neg fun (q : p.1 = I) => g3 (q ▸ List.mem_map_of_mem (f := (·.1)) hp)).symm.trans (O.mu p hp).2.1
theorem Own.setHid {I : Addr} {o o' : Obj} (O : Own (B.add I o) L σ h) (k : Heap.ExtBut I h h') (hg : h'.get? I = some o') : Own (B.add I o') L σ h' := by
 refine Ae (fun G_ hG_ => ?_)
 obtain ⟨g1, g2, g3, g4, g5⟩ := O.at_hid
 refine hG_ ?_
 clear hG_ G_
 have nI : ∀ {a x}, a ≠ I → (B.add I o').pm a = some x → (B.add I o).pm a = some x := fun q e => (if_neg q).trans ((if_neg q).symm.trans e)
 refine ⟨fun a x e => ?_, O.ns.extBut k g2, O.ln, (if_neg g2).trans ((if_neg g2).symm.trans O.LB), fun p hp => ?_, O.nd,
  fun p hp => ⟨(O.fz p hp).1.mono fun x => k _ x (fun q => g4 (q ▸ List.mem_map_of_mem (f := (·.1)) hp)), (O.fz p hp).2⟩,
  fun p hp => ⟨(O.od p hp).1.mono fun x => k _ x (fun q => g5 (q ▸ List.mem_map_of_mem (f := (·.1)) hp)), (O.od p hp).2⟩⟩
 ·by_cases q : a = I
  ·have e' : some o' = some x := (if_pos q).symm.trans e
   cases e'; rw [q]; exact hg
  ·exact k a x q (O.sub a x (nI q e))
 ·have q : p.1 ≠ I := fun q => g3 (q ▸ List.mem_map_of_mem (f := (·.1)) hp)
  exact ⟨(O.mu p hp).1.mono fun x => k _ x q, (if_neg q).trans ((if_neg q).symm.trans (O.mu p hp).2.1), (O.mu p hp).2.2⟩
noncomputable def Qc (σ : St) (ds : List Addr) : Prop := ∀ a ∈ ds, a ∈ σ.fz.map (·.1) ∨ a ∈ σ.od.map (·.1)
theorem Own.addDep (O : Own B L σ h) {ds : List Addr} (hd : Qc σ ds) : Own (B.dep h ds) L σ h := by
 have dL : ∀ a ∈ ds, a ≠ L ∧ a ∉ σ.mu.map (·.1) := fun a ha => by
  rcases hd a ha with q | q
  ·obtain ⟨p, hp, rfl⟩ := List.mem_map.mp q
   exact ⟨Nat.ne_of_gt (O.fz p hp).2.1, (O.fz p hp).2.2.1⟩
  ·obtain ⟨p, hp, rfl⟩ := List.mem_map.mp q
   exact ⟨(O.od p hp).2.1, (O.od p hp).2.2.1⟩
 refine ⟨fun a x e => ?_, O.ns, O.ln, (if_neg fun q => (dL L q).1 rfl).trans O.LB, fun p hp => ⟨(O.mu p hp).1, (if_neg fun q => (dL _ q).2 (List.mem_map_of_mem (f := (·.1)) hp)).trans (O.mu p hp).2.1, (O.mu p hp).2.2⟩, O.nd, O.fz, O.od⟩
 have e' : (if a ∈ ds then (h.get? a).or (B.pm a) else B.pm a) = some x := e
 by_cases q : a ∈ ds
 ·rw [if_pos q] at e'
  cases hq : h.get? a with
  | none => rw [hq] at e'; exact hq ▸ O.sub a x e'
  | some y => rw [hq] at e'; exact e'
 ·rw [if_neg q] at e'; exact O.sub a x e'
theorem Own.dropDep {h₀ : Heap} {ds : List Addr} (O : Own (B.dep h₀ ds) L σ h) (hs : Sub B h₀) : Own B L σ h := by
 have none' : ∀ {a}, (B.dep h₀ ds).pm a = none → B.pm a = none := fun {a} e => by
  have e' : (if a ∈ ds then (h₀.get? a).or (B.pm a) else B.pm a) = none := e
  by_cases q : a ∈ ds
  ·rw [if_pos q] at e'
   cases hq : h₀.get? a with
   | none => rw [hq] at e'; exact e'
   | some y => rw [hq] at e'; cases e'
  ·rw [if_neg q] at e'; exact e'
 refine ⟨fun a x e => O.sub a x ?_, O.ns, O.ln, none' O.LB, fun p hp => ⟨(O.mu p hp).1, none' (O.mu p hp).2.1, (O.mu p hp).2.2⟩, O.nd, O.fz, O.od⟩
 show (if a ∈ ds then (h₀.get? a).or (B.pm a) else B.pm a) = some x
 by_cases q : a ∈ ds
 ·rw [if_pos q, hs a x e]; rfl
 ·rw [if_neg q]; exact e
theorem Own.depAt {h₀ : Heap} {ds : List Addr} (O : Own (B.dep h₀ ds) L σ h) : ∀ a ∈ ds, ∀ o, h₀.get? a = some o → h.get? a = some o := fun a ha o e =>
 O.sub a o (by show (if a ∈ ds then (h₀.get? a).or (B.pm a) else B.pm a) = some o; rw [if_pos ha, e]; rfl)
end
noncomputable def PY (o : Obj) : Prop := ∃ T, o.cls = .type T ∧ (["enumerate", "zip", "dict_itemiterator", "dict_reverseitemiterator", "odict_iterator", "itertools.zip_longest", "itertools.pairwise"] : List String).contains T = false
theorem Np {M : Model} {A : Around} {E : Value → Shared → Prop} {s : Shared} {target : Expr} {I : Addr} {v : Value} {o : Obj} {Q : Unit → Shared → Prop} (ho : s.heap.get? I = some o) (hq : PY o) (h : Q () s) :
  wpAny M A (letOwnedTupleGo target (.ref I) v) Q E s := by
 obtain ⟨T, hT, hc⟩ := hq
 have body : wpAny M A ((do
   let (.ref r, .ref a) := ((Value.ref I, v) : Value × Value) | return
   let o ← load r
   match o.cls, o.data with
   | .type n, .fields vs =>
    if (["enumerate", "zip", "dict_itemiterator", "dict_reverseitemiterator", "odict_iterator", "itertools.zip_longest", "itertools.pairwise"] : List String).contains n && vs[0]? == some (rawInt a) then
     rule "for.unpacks-the-owned-tuple"
     updateField r 0 .none
   | _, _ => pure () : Sem Unit)) Q E s := by
  cases v with
  | ref a =>
   refine wpAny_bind (wpAny_load ho ?_)
   rw [hT]
   cases o.data <;> first | exact wpAny_pure h | (simp only [hc, Bool.false_and, Bool.false_eq_true, if_false]; exact wpAny_pure h)
  | _ => exact wpAny_pure h
 unfold letOwnedTupleGo
 cases target <;> first | exact wpAny_pure h | exact body
noncomputable def BP (c : Cx) (σ : St) (xv : Value) (N : Nat) (P : Nat → Value → Prop) (ds : List Addr) : Prop :=
 ∀ A B L (s : Shared) (Q : Value → Shared → Prop), A.handled = none → Own B L σ s.heap →
  (∀ I St h', Ext s.heap h' → s.heap.objs.size ≤ I → (∃ o, h'.get? I = some o) → (∀ A' : Around, A'.handled = none → Walks c.prog c.w A' I (I :: ds) [I] N P St) → (∀ i h, St i h → ∃ o, h.get? I = some o ∧ PY o) → St 0 h' → Q (.ref I) { s with heap := h' }) →
  wpAny (model c.prog c.w) A (pyIter xv) Q No s
section
variable {c : Cx} {L : Addr} {n : Nat} {σ : St} {α β : Type} {e : Env}
theorem K0 {h h' : Heap} {I : Addr} (k : ∀ b o, b ∉ [I] → h.get? b = some o → h'.get? b = some o) : Heap.ExtBut I h h' := fun b o hb e => k b o (by simpa using hb) e
inductive ForI (N : Nat) (B : PM) (J L : Addr) (os : OsState) (Sg : Nat → Heap → Prop) (I : Nat → St → Prop) (k : Nat) (s' : Shared) : Prop
 | mk (hg : AllBare s'.gens) (ho : s'.os = os) (i : Nat) (σ' : St) (o : Obj) (hi : i ≤ N) (hk : k = N - i) (hw : Own (B.add J o) L σ' s'.heap) (hs : Sg i s'.heap) (hI : I i σ')
theorem V_for {target iter : Expr} {body orelse : List Stmt} {pos : Pos} {Q : Flow → St → Prop}
  (h : V c L n (eval iter e) (fun xv σ₁ => ∃ N P ds, BP c σ₁ xv N P ds ∧ Qc σ₁ ds ∧ ∃ I : Nat → St → Prop, I 0 σ₁ ∧
   (∀ i v σ₂, i < N → P i v → I i σ₂ → V c L n (assign target e v) (fun _ σ₃ => V c L n (execs body e) (fun f σ₄ => match f with | .next | .cont => I (i + 1) σ₄ | .brk => Q .next σ₄ | .ret v => Q (.ret v) σ₄) σ₃) σ₂) ∧
   ∀ σ₂, I N σ₂ → V c L n (execs orelse e) Q σ₂) σ)
  (hs : ∀ x, foldedSetIterable iter e x = pure x := by with_unfolding_all (intro _; rfl)) (ht : ∀ it v, letOwnedTupleGo target it v = pure () := by with_unfolding_all (intro _ _; rfl)) : V c L n (exec (.For target iter body orelse pos) e) Q σ := by
 intro A B s hr hb ho hg
 refine wpAny_For (wpAny_mono (h A B s hr hb ho hg) (fun xv s₁ hp => ?_) fun _ _ e => e) hs
 refine Ae (fun G_ hG_ => ?_)
 obtain ⟨hg₁, hos₁, σ₁, hw₁, N, P, ds, hseq, hdep, I, h0, turn, fin⟩ := hp
 refine hG_ ?_
 clear hG_ G_
 refine hseq A B L s₁ _ hr.hd hw₁ fun J Sg h₂ hext hJ hJg hwalk Bm hst => ?_
 obtain ⟨oJ, hoJ⟩ := hJg
 have hBJ : B.pm J = none := (hw₁.fresh hJ).1
 have hw₂ : Own ((B.dep s₁.heap ds).add J oJ) L σ₁ h₂ := (hw₁.addDep hdep).addHid hext hJ hoJ
 have hBJ' : (B.dep s₁.heap ds).pm J = none := ((hw₁.addDep hdep).fresh hJ).1
 have hin : ∀ o, InB c ((B.dep s₁.heap ds).add J o) := fun o a x q => by
  have q' := hb a x q
  have hne : a ≠ J := fun z => by rw [z, hBJ] at q'; cases q'
  refine (if_neg hne).trans ?_
  show (if a ∈ ds then (s₁.heap.get? a).or (B.pm a) else B.pm a) = some x
  by_cases z : a ∈ ds
  ·rw [if_pos z, hw₁.sub a x q']; rfl
  ·rw [if_neg z]; exact q'
 refine codeAny_forLoop (ForI N (B.dep s₁.heap ds) J L s.os Sg I) (fun k s' hI => ?_) N
  ⟨hg₁, hos₁, 0, σ₁, oJ, Nat.zero_le _, rfl, hw₂, hst, h0⟩ (ht _)
 refine Ae (fun G_ hG_ => ?_)
 obtain ⟨hg', hos', i, σ', o, hi, rfl, hw', hst', hI'⟩ := hI
 refine hG_ ?_
 clear hG_ G_
 have W := hwalk A hr.hd
 by_cases hlt : i < N
 ·refine W.item i s' _ _ hlt hst' fun v h₃ tk hP hst₃ hk₃ => ?_
  obtain ⟨o₃, ho₃, _⟩ := Bm _ _ hst₃
  have hw₃ := hw'.setHid (K0 hk₃) ho₃
  have keepDs : ∀ {σa σb : St} {ha hb' : Heap} {oa ob : Obj}, Own ((B.dep s₁.heap ds).add J oa) L σa ha → Own ((B.dep s₁.heap ds).add J ob) L σb hb' → ∀ b ∈ ds, ∀ x, ha.get? b = some x → hb'.get? b = some x := fun wa wb b hbm x ex => by
   obtain ⟨y, ey⟩ : ∃ y, s₁.heap.get? b = some y := by
    rcases hdep b hbm with z | z
    ·refine Ae (fun G_ hG_ => ?_)
     obtain ⟨p, hp, rfl⟩ := List.mem_map.mp z
     obtain ⟨y, ey, _⟩ := (hw₁.fz p hp).1
     refine hG_ ?_
     clear hG_ G_
     exact ⟨y, ey⟩
    ·refine Ae (fun G_ hG_ => ?_)
     obtain ⟨p, hp, rfl⟩ := List.mem_map.mp z
     obtain ⟨y, ey, _⟩ := (hw₁.od p hp).1
     refine hG_ ?_
     clear hG_ G_
     exact ⟨y, ey⟩
   have hne : b ≠ J := fun z => absurd (Heap.lt_size ey) (by rw [z]; exact Nat.not_lt.mpr hJ)
   have pmb : (B.dep s₁.heap ds).pm b = some y := by
    show (if b ∈ ds then (s₁.heap.get? b).or (B.pm b) else B.pm b) = some y
    rw [if_pos hbm, ey]; rfl
   have ea := wa.sub b y ((if_neg hne).trans pmb)
   have eb := wb.sub b y ((if_neg hne).trans pmb)
   rw [ea] at ex; cases ex; exact eb
  refine wpAny_mono (turn i v σ' hlt hP hI' A _ { s' with heap := h₃, toks := tk } hr (hin _) hw₃ hg') (fun _ s₄ hp => ?_) fun _ _ q => q.elim
  refine Ae (fun G_ hG_ => ?_)
  obtain ⟨hg₄, hos₄, σ₄, hw₄, hv₄⟩ := hp
  refine hG_ ?_
  clear hG_ G_
  refine wpAny_mono (hv₄ A _ s₄ hr (hin _) hw₄ hg₄) (fun f s₅ hp => ?_) fun _ _ q => q.elim
  refine Ae (fun G_ hG_ => ?_)
  obtain ⟨hg₅, hos₅, σ₅, hw₅, hv₅⟩ := hp
  refine hG_ ?_
  clear hG_ G_
  have os₅ : s₅.os = s.os := hos₅.trans (hos₄.trans hos')
  have st₅ : Sg (i + 1) s₅.heap := W.frame _ _ _ hst₃ fun b hbm ob eb => by
   rcases List.mem_cons.mp hbm with rfl | hbm
   ·rw [ho₃] at eb; cases eb; exact hw₅.at_hid.1
   ·exact keepDs hw₃ hw₅ b hbm ob eb
  have back : Own B L σ₅ s₅.heap := (hw₅.leaveHid (fun _ _ _ q => q) hBJ').dropDep hw₁.sub
  cases f with
  | next => exact ⟨N - (i + 1), by clear hJ; omega, hg₅, os₅, i + 1, σ₅, o₃, hlt, rfl, hw₅, st₅, hv₅⟩
  | cont => exact ⟨N - (i + 1), by lia, hg₅, os₅, i + 1, σ₅, o₃, hlt, rfl, hw₅, st₅, hv₅⟩
  | brk => exact ⟨hg₅, os₅, σ₅, back, hv₅⟩
  | ret v => exact ⟨hg₅, os₅, σ₅, back, hv₅⟩
 ·have hN : i = N := by exact Nat.le_antisymm hi (Nat.le_of_not_lt hlt)
  subst hN
  refine W.done s' _ _ hst' fun h₃ tk hk₃ => ?_
  have back : Own B L σ' h₃ := (hw'.leaveHid (K0 hk₃) hBJ').dropDep hw₁.sub
  refine wpAny_mono (fin σ' hI' A B { s' with heap := h₃, toks := tk } hr hb back hg') (fun f s₅ hp => ?_) fun _ _ q => q.elim
  obtain ⟨hg₅, hos₅, σ₅, hw₅, r⟩ := hp
  exact ⟨hg₅, hos₅.trans hos', σ₅, hw₅, r⟩
theorem BP.list {a : Addr} {vs : List Value} (ha : (a, D.list vs) ∈ σ.fz ∨ (a, D.list vs) ∈ σ.od) : BP c σ (.ref a) vs.length (fun i v => vs[i]? = some v) [a] := by
 intro A B L s Q hh ho hQ
 have hl : s.heap.IsList a vs.toArray := (ho.has (.inr ha)).list
 have hne : a ≠ s.heap.objs.size := Nat.ne_of_lt (ho.has (.inr ha)).lt
 refine wpAny_pyIter_list hl (hQ s.heap.objs.size (fun i h => h.IsListIter s.heap.objs.size a i ∧ h.IsList a vs.toArray) _ (Ext.push _ _) (Nat.le_refl _) ⟨_, Heap.get?_push_size _ rfl⟩ (fun A' hA => ?_) (fun i h st => ?_)
  ⟨⟨_, Heap.get?_push_size _ rfl, rfl, rfl⟩, hl.push _⟩)
 ·have := Walks.list (prog := c.prog) (w := c.w) hA s.heap.objs.size a hne vs.toArray
  simpa using this
 ·obtain ⟨⟨o, e, hc, _⟩, _⟩ := st; exact ⟨o, e, _, hc, by decide⟩
theorem BP.str {x : List Nat} {t : Tok} : BP c σ (.str (S x) t) x.length (fun i v => ∃ ch u, x[i]? = some ch ∧ v = .str (S [ch]) u) [] := by
 intro A B L s Q hh ho hQ
 have P' : ∀ {A' : Around} {St : Nat → Heap → Prop}, Walks c.prog c.w A' s.heap.objs.size [s.heap.objs.size] [s.heap.objs.size] (S x).cps.size (SignAt (S x)) St →
   Walks c.prog c.w A' s.heap.objs.size (s.heap.objs.size :: []) [s.heap.objs.size] x.length (fun i v => ∃ ch u, x[i]? = some ch ∧ v = .str (S [ch]) u) St := fun W => by
  have e1 : (S x).cps.size = x.length := by simp [S]
  have e2 : SignAt (S x) = fun i v => ∃ ch u, x[i]? = some ch ∧ v = .str (S [ch]) u := by
   funext i v; unfold SignAt; simp [S]
  rw [e1, e2] at W; exact W
 cases ha : (S x).cps.all (· < 128)
 ·exact wpAny_pyIter_wide ha (hQ _ _ _ (Ext.push _ _) (Nat.le_refl _) ⟨_, Heap.get?_push_size _ rfl⟩ (fun A' hA => P' (Walks.strWide hA _ (S x) t)) (fun i h st => let ⟨o, e, hc, _⟩ := st; ⟨o, e, _, hc, by decide⟩) ⟨_, Heap.get?_push_size _ rfl, rfl, rfl⟩)
 ·exact wpAny_pyIter_ascii ha (hQ _ _ _ (Ext.push _ _) (Nat.le_refl _) ⟨_, Heap.get?_push_size _ rfl⟩ (fun A' hA => P' (Walks.strAscii hA _ (S x) t)) (fun i h st => let ⟨o, e, hc, _⟩ := st; ⟨o, e, _, hc, by decide⟩) ⟨_, Heap.get?_push_size _ rfl, rfl, rfl⟩)
noncomputable def DL (a b k : Int) : D := .prop fun o => ∃ t u v, o = { cls := .type "range", data := .fields #[.int a t, .int b u, .int k v] }
theorem BP.range {r : Addr} {a b k : Int} (hs : Builtin.Range.small a b k = true) (ha : Has σ r (DL a b k)) :
  BP c σ (.ref r) (Builtin.Range.rangeSize a b k).toNat (fun i v => ∃ t, v = .int (a + i * k) t) [] := by
 intro A B L s Q hh ho hQ
 refine Ae (fun G_ hG_ => ?_)
 obtain ⟨o, e, t, u, v, rfl⟩ := ho.has ha
 refine hG_ ?_
 clear hG_ G_
 refine wpAny_pyIter_range e hs (hQ _ (fun i h => IsRangeIter h s.heap.objs.size (a + (i : Nat) * k) (((Builtin.Range.rangeSize a b k).toNat : Int) - (i : Nat)) k) _ (Ext.push _ _) (Nat.le_refl _) ⟨_, Heap.get?_push_size _ rfl⟩ (fun A' hA => Walks.range hA _ a k _) (fun i h st => ⟨_, st, _, rfl, by decide⟩) ?_)
 have h0 : 0 ≤ Builtin.Range.rangeSize a b k := by rw [PyProof.Rows.rangeSize_toNat]; exact Int.natCast_nonneg _
 show IsRangeIter _ _ _ _ _
 unfold IsRangeIter
 rw [Heap.get?_push_size _ rfl]
 simp [Int.toNat_of_nonneg h0]
end
section
variable {c : Cx} {L : Addr} {n : Nat} {σ : St} {α β : Type} {e : Env}
noncomputable def Ifs (c : Cx) (L : Addr) (n : Nat) (e : Env) : List Expr → (Bool → St → Prop) → St → Prop
 | [], K, σ => K true σ
 | t :: r, K, σ => V c L n (isTrue t e (eval t e)) (fun b σ' => if b = true then Ifs c L n e r K σ' else K false σ') σ
inductive Bw (c : Cx) (L : Addr) (n : Nat) (e : Env) (g : Comprehension) (Gc : Nat → (List Value → St → Prop) → St → Prop) (cap : Nat) (K : List Value → St → Prop) (N : Nat) (P : Nat → Value → Prop) (σ₁ : St) : Prop
 | mk (cap' : Nat) (I : Nat → List Value → St → Prop) (h0 : I 0 [] σ₁) (hc : ∀ i acc σ₂, I i acc σ₂ → acc.length + cap' ≤ cap)
  (ht : ∀ i acc v σ₂, i < N → P i v → I i acc σ₂ → V c L n (assign g.target e v) (fun _ σ₃ => Ifs c L n e g.ifs (fun ok σ₄ =>
   if ok = true then Gc cap' (fun ys σ₅ => I (i + 1) (acc ++ ys) σ₅) σ₄ else I (i + 1) acc σ₄) σ₃) σ₂) (hf : ∀ acc σ₂, I N acc σ₂ → K acc σ₂)
inductive Loop (c : Cx) (L : Addr) (n : Nat) (e : Env) (g : Comprehension) (Gc : Nat → (List Value → St → Prop) → St → Prop) (cap : Nat) (K : List Value → St → Prop) (xv : Value) (σ₁ : St) : Prop
 | mk (N : Nat) (P : Nat → Value → Prop) (ds : List Addr) (h1 : BP c σ₁ xv N P ds) (h2 : Qc σ₁ ds) (h3 : Bw c L n e g Gc cap K N P σ₁)
noncomputable def CB (c : Cx) (L : Addr) (n : Nat) (e : Env) (elt : Expr) : List Comprehension → Nat → (List Value → St → Prop) → St → Prop
 | [], cap, K, σ => 1 ≤ cap ∧ V c L n (eval elt e) (fun v σ' => K [v] σ') σ
 | g :: gs, cap, K, σ => V c L n (eval g.iter e) (fun xv σ₁ => Loop c L n e g (CB c L n e elt gs) cap K xv σ₁) σ
theorem LM : ∀ (ts : List Expr) (K : Bool → St → Prop) (σ : St) A B (s : Shared) (Q : Bool → Shared → Prop), Rm n A → InB c B → Own B L σ s.heap → AllBare s.gens → Ifs c L n e ts K σ →
  (∀ b s', AllBare s'.gens → s'.os = s.os → (∃ σ', Own B L σ' s'.heap ∧ K b σ') → Q b s') →
  wpAny (model c.prog c.w) A (forIn ts true fun t r => if r = true then do let ok ← isTrue t e (eval t e); pure (ForInStep.yield ok) else pure (ForInStep.yield r)) Q No s
 | [], K, σ, A, B, s, Q, hr, hb, ho, hg, h, hQ => by
  rw [List.forIn_nil]; exact wpAny_pure (hQ _ _ hg rfl ⟨σ, ho, h⟩)
 | t :: r, K, σ, A, B, s, Q, hr, hb, ho, hg, h, hQ => by
  rw [List.forIn_cons]
  simp only [if_true]
  refine wpAny_bind (wpAny_bind (wpAny_mono (h A B s hr hb ho hg) (fun b s' hp => wpAny_pure ?_) fun _ _ q => q))
  refine Ae (fun G_ hG_ => ?_)
  obtain ⟨hg', hos, σ', hw, hv⟩ := hp
  refine hG_ ?_
  clear hG_ G_
  cases b with
  | true => exact LM r K σ' A B s' Q hr hb hw hg' hv fun b s'' g1 g2 g3 => hQ b s'' g1 (g2.trans hos) g3
  | false =>
   have stay : ∀ (r : List Expr), wpAny (model c.prog c.w) A (forIn r false fun t r => if r = true then do let ok ← isTrue t e (eval t e); pure (ForInStep.yield ok) else pure (ForInStep.yield r)) Q No s' := by
    intro r
    induction r with
    | nil => rw [List.forIn_nil]; exact wpAny_pure (hQ _ _ hg' hos ⟨σ', hw, hv⟩)
    | cons t r ih => rw [List.forIn_cons]; simp only [Bool.false_eq_true, if_false]; exact wpAny_bind (wpAny_pure ih)
   exact stay r
theorem Own.congr {B B' : PM} {σ : St} {h : Heap} (O : Own B L σ h) (hp : ∀ a, B'.pm a = B.pm a) (hh : ∀ a ∈ B'.hid, a ∈ B.hid) : Own B' L σ h :=
 ⟨fun a o q => O.sub a o ((hp a).symm.trans q), O.ns, O.ln, (hp L).trans O.LB, fun p q => ⟨(O.mu p q).1, (hp _).trans (O.mu p q).2.1, (O.mu p q).2.2⟩, O.nd,
  fun p q => ⟨(O.fz p q).1, (O.fz p q).2.1, (O.fz p q).2.2.1, fun z => (O.fz p q).2.2.2 (hh _ z)⟩, fun p q => ⟨(O.od p q).1, (O.od p q).2.1, (O.od p q).2.2.1, fun z => (O.od p q).2.2.2 (hh _ z)⟩⟩
theorem Own.less {B B' : PM} {σ : St} {h : Heap} (O : Own B' L σ h) (hp : ∀ a x, B.pm a = some x → B'.pm a = some x) (hh : ∀ a ∈ B.hid, a ∈ B'.hid) : Own B L σ h := by
 have nn : ∀ {a}, B'.pm a = none → B.pm a = none := fun {a} q => by
  cases q' : B.pm a with
  | none => rfl
  | some x => rw [hp a x q'] at q; cases q
 exact ⟨fun a o q => O.sub a o (hp a o q), O.ns, O.ln, nn O.LB, fun p q => ⟨(O.mu p q).1, nn (O.mu p q).2.1, (O.mu p q).2.2⟩, O.nd,
  fun p q => ⟨(O.fz p q).1, (O.fz p q).2.1, (O.fz p q).2.2.1, fun z => (O.fz p q).2.2.2 (hh _ z)⟩, fun p q => ⟨(O.od p q).1, (O.od p q).2.1, (O.od p q).2.2.1, fun z => (O.od p q).2.2.2 (hh _ z)⟩⟩
theorem Own.swap {B : PM} {σ : St} {h : Heap} {I D : Addr} {o d : Obj} (hne : I ≠ D) (O : Own ((B.add D d).add I o) L σ h) : Own ((B.add I o).add D d) L σ h :=
 O.congr (fun a => by
  show (if a = D then some d else if a = I then some o else B.pm a) = (if a = I then some o else if a = D then some d else B.pm a)
  by_cases h1 : a = D
  ·subst h1; rw [if_pos rfl, if_neg (Ne.symm hne), if_pos rfl]
  ·rw [if_neg h1]; by_cases h2 : a = I
   ·rw [if_pos h2, if_pos h2]
   ·rw [if_neg h2, if_neg h2, if_neg h1]) fun a ha => by
  rcases List.mem_cons.mp ha with h1 | h1
  ·rw [h1]; exact List.mem_cons_of_mem _ List.mem_cons_self
  ·rcases List.mem_cons.mp h1 with h2 | h2
   ·rw [h2]; exact List.mem_cons_self
   ·exact List.mem_cons_of_mem _ (List.mem_cons_of_mem _ h2)
noncomputable def Gc (ex : Expr) (elt : Expr) (gs : List Comprehension) (d : Nat) (acc : Value) (e : Env) : Sem Unit := match gs with
 | [] => do
  let x ← eval elt e
  let _ ← call (.builtin "list.append") [acc, x]
 | g' :: _ => do
  let x ← eval g'.iter e
  standAt g'.iter.pos
  let x ← foldedSetIterable g'.iter e x
  let it ← holding [x] (pyIter x)
  let _ ← runOwn (.compStart ex (d + 1) it acc e) e
theorem GW {elt : Expr} {gens : List Comprehension} {scope : Scope} {pos : Pos} {d : Nat} {g : Comprehension} {gs : List Comprehension} {it acc : Value} {A : Around} {s : Shared} {Q : Fin → Shared → Prop}
  (hg : gens[d]? = some g) (hd : gens[d + 1]? = gs.head?) (ha : g.is_async = 0) (hga : ∀ g' ∈ gs.head?, g'.is_async = 0)
  (h : wpAny (model c.prog c.w) A (pyNext it) (fun r s₁ => match r with
   | none => Q (.done .next) s₁
   | some v => wpAny (model c.prog c.w) A (letOwnedTupleGo g.target it v) (fun _ s₁ => wpAny (model c.prog c.w) A (assign g.target e v) (fun _ s₂ =>
     wpAny (model c.prog c.w) A (forIn g.ifs true fun t r => if r = true then do let ok ← isTrue t e (eval t e); pure (ForInStep.yield ok) else pure (ForInStep.yield r)) (fun ok s₃ =>
      if ok = true then wpAny (model c.prog c.w) A (Gc (.ListComp elt gens scope pos) elt gs d acc e) (fun _ s₄ => Q (.again (.compLoop (.ListComp elt gens scope pos) d it acc e)) s₄) No s₃
      else Q (.again (.compLoop (.ListComp elt gens scope pos) d it acc e)) s₃) No s₂) No s₁) No s₁) No s) :
  wpAny (model c.prog c.w) A (compTurn (.ListComp elt gens scope pos) d it acc e) Q No s := by
 unfold compTurn
 simp only [hg, ha, hd, bne_self_eq_false, Bool.false_eq_true, if_false]
 refine wpAny_bind (wpAny_standAt (wpAny_bind (wpAny_mono h (fun r s₁ h₁ => ?_) fun _ _ q => q)))
 cases r with
 | none => exact wpAny_pure h₁
 | some v =>
  refine wpAny_bind (wpAny_mono h₁ (fun _ s₁ h₁ => wpAny_bind (wpAny_mono h₁ (fun _ s₂ h₂ => wpAny_bind (wpAny_mono h₂ (fun ok s₃ h₃ => ?_) fun _ _ q => q)) fun _ _ q => q)) fun _ _ q => q)
  cases ok with
  | false =>
   simp only [Bool.false_eq_true, if_false] at h₃ ⊢
   exact wpAny_pure h₃
  | true =>
   simp only [if_true] at h₃ ⊢
   cases gs with
   | nil =>
    simp only [List.head?_nil]
    have h₃' : wpAny (model c.prog c.w) A (Gc (.ListComp elt gens scope pos) elt [] d acc e >>= fun _ => again (.compLoop (.ListComp elt gens scope pos) d it acc e)) Q No s₃ :=
     wpAny_bind (wpAny_mono h₃ (fun _ s₄ h₄ => wpAny_pure h₄) fun _ _ q => q)
    unfold Gc at h₃'
    simpa only [bind_assoc, pure_bind] using h₃'
   | cons g' gs' =>
    simp only [List.head?_cons]
    have ha' : g'.is_async = 0 := hga g' rfl
    have h₃' : wpAny (model c.prog c.w) A (Gc (.ListComp elt gens scope pos) elt (g' :: gs') d acc e >>= fun _ => again (.compLoop (.ListComp elt gens scope pos) d it acc e)) Q No s₃ :=
     wpAny_bind (wpAny_mono h₃ (fun _ s₄ h₄ => wpAny_pure h₄) fun _ _ q => q)
    unfold Gc at h₃'
    simp only [ha', bne_self_eq_false, Bool.false_eq_true, if_false]
    simpa only [bind_assoc, pure_bind] using h₃'
theorem By {B : PM} {D : Addr} {o : Obj} (hb : InB c B) (hD : B.pm D = none) : InB c (B.add D o) := fun a x q => by
 have q' := hb a x q
 exact (if_neg fun z : a = D => by rw [z, hD] at q'; cases q').trans q'
theorem dep_in {B : PM} {h : Heap} {ds : List Addr} (hb : InB c B) (hs : Sub B h) : InB c (B.dep h ds) := fun a x q => by
 have q' := hb a x q
 show (if a ∈ ds then (h.get? a).or (B.pm a) else B.pm a) = some x
 by_cases z : a ∈ ds
 ·rw [if_pos z, hs a x q']; rfl
 ·rw [if_neg z]; exact q'
theorem Gu {elt : Expr} {gens : List Comprehension} {scope : Scope} {pos : Pos} {d : Nat} {g : Comprehension} {it acc : Value} {A : Around} {s : Shared} {R : Result → Shared → Prop}
  (hg : gens[d]? = some g) (ha : g.is_async = 0)
  (h0 : codeAny (model c.prog c.w) A (.compLoop (.ListComp elt gens scope pos) d it acc e) R s)
  (h : wpAny (model c.prog c.w) A (pyIter it) (fun it' s' => codeAny (model c.prog c.w) A (.compLoop (.ListComp elt gens scope pos) d it' acc e) R s') No s) :
  codeAny (model c.prog c.w) A (.compStart (.ListComp elt gens scope pos) d it acc e) R s := by
 refine codeAny_of_tree ?_
 show wpAny _ A ((compStart (.ListComp elt gens scope pos) d it acc e).onRaise (fun x => do noteFrame x e; standAt theWindowsPlace)) _ _ s
 refine wpAny_onRaise (wpAny_mono (E := No) ?_ (fun _ _ q => q) fun _ _ q => q.elim)
 unfold compStart
 have hc : (clausesOf (.ListComp elt gens scope pos))[d]? = some g := hg
 simp only [hc, Option.elim_some, ha, bne_self_eq_false, Bool.false_eq_true, if_false]
 refine wpAny_bind (wpAny_askSetting ?_)
 split
 ·first
   | exact wpAny_bind (wpAny_pure (wpAny_pure (And.intro rfl h0)))
   | exact wpAny_pure (And.intro rfl h0)
 ·first
   | exact wpAny_bind (wpAny_rule (wpAny_bind (wpAny_standAt (wpAny_bind (wpAny_mono h (fun it' s' h' => wpAny_pure (And.intro rfl h')) fun _ _ x => x)))))
   | (refine wpAny_bind (wpAny_rule ?_); exact wpAny_bind (wpAny_standAt (wpAny_bind (wpAny_mono h (fun it' s' h' => wpAny_pure (And.intro rfl h')) fun _ _ x => x))))
structure PZ (e : Env) (gens : List Comprehension) : Prop where
 sync : ∀ g ∈ gens, g.is_async = 0
 fold : ∀ g ∈ gens, ∀ x, foldedSetIterable g.iter e x = pure x
inductive CompP (B : PM) (D L : Addr) (os : OsState) (acc0 : List Value) (K : List Value → St → Prop) (s' : Shared) : Prop
 | mk (hg : AllBare s'.gens) (ho : s'.os = os) (ys : List Value) (σ' : St) (oD : Obj) (hd : Mine.D.ok (.list (acc0 ++ ys)) oD) (hw : Own (B.add D oD) L σ' s'.heap) (hK : K ys σ')
inductive CompI (N : Nat) (B : PM) (J D L : Addr) (os : OsState) (acc0 : List Value) (Sg : Nat → Heap → Prop) (I : Nat → List Value → St → Prop) (k : Nat) (s' : Shared) : Prop
 | mk (hg : AllBare s'.gens) (ho : s'.os = os) (i : Nat) (σ' : St) (o : Obj) (acc : List Value) (d : Obj) (hi : i ≤ N) (hk : k = N - i) (hw : Own ((B.add J o).add D d) L σ' s'.heap) (hd : Mine.D.ok (.list (acc0 ++ acc)) d) (hs : Sg i s'.heap) (hI : I i acc σ')
noncomputable def GX (c : Cx) (L : Addr) (n : Nat) (e : Env) (ex elt : Expr) (D : Addr) (gs : List Comprehension) (d : Nat) : Prop :=
 ∀ (cap : Nat) (K : List Value → St → Prop) (A : Around) (B : PM) (s : Shared) (σ : St) (acc0 : List Value) (oD : Obj), Rm n A → InB c B → B.pm D = none → Own (B.add D oD) L σ s.heap → Mine.D.ok (.list acc0) oD → acc0.length + cap ≤ sizeLine → AllBare s.gens →
  CB c L n e elt gs cap K σ → wpAny (model c.prog c.w) A (Gc ex elt gs d (.ref D) e) (fun _ s' => CompP B D L s.os acc0 K s') No s
theorem Hu {elt : Expr} {gens : List Comprehension} {scope : Scope} {pos : Pos} {d : Nat} {g : Comprehension} {gs : List Comprehension} {D J : Addr} (hg : gens[d]? = some g) (hd : gens[d + 1]? = gs.head?) (hp : PZ e gens) (hgs : ∀ g' ∈ gs.head?, g' ∈ gens)
  (hin : GX c L n e (.ListComp elt gens scope pos) elt D gs d) {cap : Nat} {K : List Value → St → Prop} {A : Around} {B : PM} {s₀ : Shared} {σ : St} {acc0 : List Value} {oD oJ : Obj} {R : Result → Shared → Prop} {N : Nat} {P : Nat → Value → Prop} {ds : List Addr} {h₀ : Heap} {Sg : Nat → Heap → Prop}
  (hr : Rm n A) (hb : InB c B) (hBJ0 : B.pm J = none) (hBD : B.pm D = none) (hDJ : J ≠ D) (hJds : J ∉ ds) (hDds : D ∉ ds) (hds : ∀ b ∈ ds, ∃ y, h₀.get? b = some y) (hsB : Sub B h₀)
  (W : Walks c.prog c.w A J (J :: ds) [J] N P Sg) (Bm : ∀ i h, Sg i h → ∃ o, h.get? J = some o ∧ PY o)
  (hw₂ : Own (((B.dep h₀ ds).add J oJ).add D oD) L σ s₀.heap) (hoD : Mine.D.ok (.list acc0) oD) (hcap : acc0.length + cap ≤ sizeLine) (hbare : AllBare s₀.gens) (hst : Sg 0 s₀.heap)
  (hl : Bw c L n e g (CB c L n e elt gs) cap K N P σ)
  (hR : ∀ s' ys σ' oD', AllBare s'.gens → s'.os = s₀.os → Mine.D.ok (.list (acc0 ++ ys)) oD' → Own (B.add D oD') L σ' s'.heap → K ys σ' → R (.ok .next) s') :
  codeAny (model c.prog c.w) A (.compLoop (.ListComp elt gens scope pos) d (.ref J) (.ref D) e) R s₀ := by
 have hgm : g ∈ gens := List.mem_of_getElem? hg
 refine Ae (fun G_ hG_ => ?_)
 obtain ⟨cap', I, h0, hcapI, turn, fin⟩ := hl
 refine hG_ ?_
 clear hG_ G_
 have hdJ : (B.dep h₀ ds).pm J = none := (if_neg hJds).trans hBJ0
 have hdD : (B.dep h₀ ds).pm D = none := (if_neg hDds).trans hBD
 have hbd : InB c (B.dep h₀ ds) := dep_in hb hsB
 have hD1 : ∀ o, ((B.dep h₀ ds).add J o).pm D = none := fun o => (if_neg (Ne.symm hDJ)).trans hdD
 have hb1 : ∀ o, InB c ((B.dep h₀ ds).add J o) := fun o => By hbd hdJ
 have keepDs : ∀ {σa σb : St} {ha hb' : Heap} {oa ob da db : Obj}, Own (((B.dep h₀ ds).add J oa).add D da) L σa ha → Own (((B.dep h₀ ds).add J ob).add D db) L σb hb' → ∀ b ∈ ds, ∀ x, ha.get? b = some x → hb'.get? b = some x := fun wa wb b hbm x ex => by
  obtain ⟨y, ey⟩ := hds b hbm
  have hne : b ≠ J := fun z => hJds (z ▸ hbm)
  have hnD : b ≠ D := fun z => hDds (z ▸ hbm)
  have pmb : (B.dep h₀ ds).pm b = some y := by
   show (if b ∈ ds then (h₀.get? b).or (B.pm b) else B.pm b) = some y
   rw [if_pos hbm, ey]; rfl
  have ea := wa.sub b y ((if_neg hnD).trans ((if_neg hne).trans pmb))
  have eb := wb.sub b y ((if_neg hnD).trans ((if_neg hne).trans pmb))
  rw [ea] at ex; cases ex; exact eb
 have back : ∀ {σ' : St} {h : Heap} {o d : Obj}, Own (((B.dep h₀ ds).add J o).add D d) L σ' h → Own (B.add D d) L σ' h := fun {σ' h o d} O =>
  O.less (fun a x q => by
   have q1 : (if a = D then some d else B.pm a) = some x := q
   show (if a = D then some d else if a = J then some o else if a ∈ ds then (h₀.get? a).or (B.pm a) else B.pm a) = some x
   by_cases h1 : a = D
   ·rw [if_pos h1] at q1 ⊢; exact q1
   ·rw [if_neg h1] at q1 ⊢
    have hJa : a ≠ J := fun z => by rw [z, hBJ0] at q1; cases q1
    rw [if_neg hJa]
    by_cases h2 : a ∈ ds
    ·rw [if_pos h2, hsB a x q1]; rfl
    ·rw [if_neg h2]; exact q1) fun a ha => by
   rcases List.mem_cons.mp ha with h1 | h1
   ·rw [h1]; exact List.mem_cons_self
   ·exact List.mem_cons_of_mem _ (List.mem_cons_of_mem _ h1)
 have loopOk : ∀ (s₂ : Shared) (σ₂ : St) (o₂ : Obj), AllBare s₂.gens → s₂.os = s₀.os → Own (((B.dep h₀ ds).add J o₂).add D oD) L σ₂ s₂.heap → Sg 0 s₂.heap → I 0 [] σ₂ →
   codeAny (model c.prog c.w) A (.compLoop (.ListComp elt gens scope pos) d (.ref J) (.ref D) e) R s₂ := fun s₂ σ₂ o₂ hg₂ hos₂ hw₂ hst₂ hI₂ => by
  refine codeAny_loop' rfl (CompI N (B.dep h₀ ds) J D L s₀.os acc0 Sg I) (fun k s' hI => ?_) N
   ⟨hg₂, hos₂, 0, σ₂, o₂, [], oD, Nat.zero_le _, rfl, hw₂, by rw [List.append_nil]; exact hoD, hst₂, hI₂⟩
  refine Ae (fun G_ hG_ => ?_)
  obtain ⟨hg', hos', i, σ', o, acc, d', hi, rfl, hw', hd', hst', hI'⟩ := hI
  refine hG_ ?_
  clear hG_ G_
  show wpAny _ A ((compTurn (.ListComp elt gens scope pos) d (.ref J) (.ref D) e).onRaise (fun x => do noteFrame x e; theTreesLotGoes x)) _ _ s'
  refine wpAny_onRaise (wpAny_mono (E := No) ?_ (fun _ _ q => q) fun _ _ q => q.elim)
  refine GW hg hd (hp.sync g hgm) (fun g' q => hp.sync g' (hgs g' q)) ?_
  by_cases hlt : i < N
  ·refine W.item i s' _ _ hlt hst' fun v h₃ tk hP hst₃ hk₃ => ?_
   obtain ⟨o₃, ho₃, hquiet⟩ := Bm _ _ hst₃
   refine Np ho₃ hquiet ?_
   have hw₃ : Own (((B.dep h₀ ds).add J o₃).add D d') L σ' h₃ := ((hw'.swap (Ne.symm hDJ)).setHid (K0 hk₃) ho₃).swap hDJ
   refine wpAny_mono (turn i acc v σ' hlt hP hI' A _ { s' with heap := h₃, toks := tk } hr (By (hb1 _) (hD1 _)) hw₃ hg') (fun _ s₄ hp' => ?_) fun _ _ q => q
   refine Ae (fun G_ hG_ => ?_)
   obtain ⟨hg₄, hos₄, σ₄, hw₄, hv₄⟩ := hp'
   refine hG_ ?_
   clear hG_ G_
   refine LM g.ifs _ σ₄ A _ s₄ _ hr (By (hb1 _) (hD1 _)) hw₄ hg₄ hv₄ fun ok s₅ hg₅ hos₅ hx => ?_
   obtain ⟨σ₅, hw₅, hv₅⟩ := hx
   have os₅ : s₅.os = s₀.os := hos₅.trans (hos₄.trans hos')
   have next : ∀ (s₆ : Shared) σ₆ acc' d₆, AllBare s₆.gens → s₆.os = s₀.os → Mine.D.ok (.list (acc0 ++ acc')) d₆ → Own (((B.dep h₀ ds).add J o₃).add D d₆) L σ₆ s₆.heap → I (i + 1) acc' σ₆ →
     ((Code.compLoop (.ListComp elt gens scope pos) d (.ref J) (.ref D) e = Code.compLoop (.ListComp elt gens scope pos) d (.ref J) (.ref D) e ∧ ∃ m, m < N - i ∧ CompI N (B.dep h₀ ds) J D L s₀.os acc0 Sg I m s₆) ∨ ((Code.compLoop (.ListComp elt gens scope pos) d (.ref J) (.ref D) e).quiet = true ∧ codeAny (model c.prog c.w) A (.compLoop (.ListComp elt gens scope pos) d (.ref J) (.ref D) e) R s₆)) :=
    fun s₆ σ₆ acc' d₆ g1 g2 g3 g4 g5 => by
     have st₆ : Sg (i + 1) s₆.heap := W.frame _ _ _ hst₃ fun b hbm ob eb => by
      rcases List.mem_cons.mp hbm with rfl | hbm
      ·rw [ho₃] at eb; cases eb; exact (g4.swap (Ne.symm hDJ)).at_hid.1
      ·exact keepDs hw₃ g4 b hbm ob eb
     exact .inl ⟨rfl, N - (i + 1), by clear hcap; omega, g1, g2, i + 1, σ₆, o₃, acc', d₆, hlt, rfl, g4, g3, st₆, g5⟩
   cases ok with
   | false =>
    rw [if_neg Bool.false_ne_true] at hv₅ ⊢
    exact next s₅ σ₅ acc d' hg₅ os₅ hd' hw₅ hv₅
   | true =>
    rw [if_pos rfl] at hv₅ ⊢
    have hcap2 : (acc0 ++ acc).length + cap' ≤ sizeLine := by
     have := hcapI i acc σ' hI'
     rw [List.length_append]; lia
    refine wpAny_mono (hin cap' _ A _ s₅ σ₅ (acc0 ++ acc) d' hr (hb1 _) (hD1 _) hw₅ hd' hcap2 hg₅ hv₅) (fun _ s₆ hq => ?_) fun _ _ q => q
    refine Ae (fun G_ hG_ => ?_)
    obtain ⟨hg₆, hos₆, ys, σ₆, d₆, hd₆, hw₆, hI₆⟩ := hq
    refine hG_ ?_
    clear hG_ G_
    exact next s₆ σ₆ (acc ++ ys) d₆ hg₆ (hos₆.trans os₅) (by rw [← List.append_assoc]; exact hd₆) hw₆ hI₆
  ·have hN : i = N := by exact Nat.le_antisymm hi (Nat.le_of_not_lt hlt)
   subst hN
   refine W.done s' _ _ hst' fun h₃ tk hk₃ => ?_
   have hw₃ : Own ((B.dep h₀ ds).add D d') L σ' h₃ := (hw'.swap (Ne.symm hDJ)).leaveHid (K0 hk₃) ((if_neg hDJ).trans hdJ)
   have hw₄ : Own (B.add D d') L σ' h₃ := hw₃.less (fun a x q => by
    have q1 : (if a = D then some d' else B.pm a) = some x := q
    show (if a = D then some d' else if a ∈ ds then (h₀.get? a).or (B.pm a) else B.pm a) = some x
    by_cases h1 : a = D
    ·rw [if_pos h1] at q1 ⊢; exact q1
    ·rw [if_neg h1] at q1 ⊢
     by_cases h2 : a ∈ ds
     ·rw [if_pos h2, hsB a x q1]; rfl
     ·rw [if_neg h2]; exact q1) fun a ha => ha
   exact hR { s' with heap := h₃, toks := tk } acc σ' d' hg' hos' hd' hw₄ (fin acc σ' hI')
 exact loopOk s₀ σ oJ hbare rfl hw₂ hst h0
theorem Nq {elt : Expr} {gens : List Comprehension} {scope : Scope} {pos : Pos} {d : Nat} {g : Comprehension} {gs : List Comprehension} {D : Addr} (hg : gens[d]? = some g) (hd : gens[d + 1]? = gs.head?) (hp : PZ e gens) (hgs : ∀ g' ∈ gs.head?, g' ∈ gens)
  (hin : GX c L n e (.ListComp elt gens scope pos) elt D gs d) {cap : Nat} {K : List Value → St → Prop} {A : Around} {B : PM} {s : Shared} {σ : St} {acc0 : List Value} {oD : Obj} {xv : Value} {R : Result → Shared → Prop}
  (hr : Rm n A) (hb : InB c B) (hBD : B.pm D = none) (ho : Own (B.add D oD) L σ s.heap) (hoD : Mine.D.ok (.list acc0) oD) (hcap : acc0.length + cap ≤ sizeLine) (hbare : AllBare s.gens)
  (hl : Loop c L n e g (CB c L n e elt gs) cap K xv σ)
  (hR : ∀ s' ys σ' oD', AllBare s'.gens → s'.os = s.os → Mine.D.ok (.list (acc0 ++ ys)) oD' → Own (B.add D oD') L σ' s'.heap → K ys σ' → R (.ok .next) s') :
  wpAny (model c.prog c.w) A (pyIter xv) (fun it s' => codeAny (model c.prog c.w) A (.compStart (.ListComp elt gens scope pos) d it (.ref D) e) R s') No s := by
 have hgm : g ∈ gens := List.mem_of_getElem? hg
 refine Ae (fun G_ hG_ => ?_)
 obtain ⟨N, P, ds, hseq, hdep, hlr⟩ := hl
 refine hG_ ?_
 clear hG_ G_
 refine hseq A (B.add D oD) L s _ hr.hd ho fun J Sg h₂ hext hJ hJg hwalk Bm hst => ?_
 obtain ⟨oJ, hoJ⟩ := hJg
 have hDJ : J ≠ D := fun z => by
  have := ho.at_hid.1
  exact absurd (Heap.lt_size this) (by rw [← z]; exact Nat.not_lt.mpr hJ)
 have hBJ : (B.add D oD).pm J = none := (ho.fresh hJ).1
 have hBJ0 : B.pm J = none := (if_neg hDJ).symm.trans hBJ
 have hsB : Sub B s.heap := fun a x q => ho.sub a x ((if_neg fun z : a = D => by rw [z, hBD] at q; cases q).trans q)
 have hDds : D ∉ ds := fun z => by
  refine Ae (fun G_ hG_ => ?_)
  obtain ⟨_, _, _, g4, g5⟩ := ho.at_hid
  refine hG_ ?_
  clear hG_ G_
  exact (hdep D z).elim g4 g5
 have hdJ : (B.dep s.heap ds).pm J = none := by
  show (if J ∈ ds then (s.heap.get? J).or (B.pm J) else B.pm J) = none
  by_cases z : J ∈ ds
  ·rw [if_pos z, Heap.get?_none_of_le hJ, hBJ0]; rfl
  ·rw [if_neg z]; exact hBJ0
 have hdD : (B.dep s.heap ds).pm D = none := (if_neg hDds).trans hBD
 have depAdd : ∀ {σ : St} {h : Heap}, Own ((B.add D oD).dep s.heap ds) L σ h → Own ((B.dep s.heap ds).add D oD) L σ h := fun O =>
  O.congr (fun a => by
   show (if a = D then some oD else if a ∈ ds then (s.heap.get? a).or (B.pm a) else B.pm a) = (if a ∈ ds then (s.heap.get? a).or (if a = D then some oD else B.pm a) else if a = D then some oD else B.pm a)
   by_cases h1 : a = D
   ·rw [h1, if_pos rfl, if_neg hDds, if_pos rfl]
   ·rw [if_neg h1]; by_cases h2 : a ∈ ds
    ·rw [if_pos h2, if_pos h2, if_neg h1]
    ·rw [if_neg h2, if_neg h2, if_neg h1]) fun a ha => ha
 have hw₂ : Own (((B.dep s.heap ds).add J oJ).add D oD) L σ h₂ := ((depAdd (ho.addDep hdep)).addHid hext hJ hoJ).swap hDJ
 have hds : ∀ b ∈ ds, ∃ y, s.heap.get? b = some y := fun b hbm => by
  rcases hdep b hbm with z | z
  ·refine Ae (fun G_ hG_ => ?_)
   obtain ⟨p, hp, rfl⟩ := List.mem_map.mp z
   obtain ⟨y, ey, _⟩ := (ho.fz p hp).1
   refine hG_ ?_
   clear hG_ G_
   exact ⟨y, ey⟩
  ·refine Ae (fun G_ hG_ => ?_)
   obtain ⟨p, hp, rfl⟩ := List.mem_map.mp z
   obtain ⟨y, ey, _⟩ := (ho.od p hp).1
   refine hG_ ?_
   clear hG_ G_
   exact ⟨y, ey⟩
 have hJds : J ∉ ds := fun z => by
  obtain ⟨y, ey⟩ := hds J z
  exact absurd (Heap.lt_size ey) (Nat.not_lt.mpr hJ)
 have W := hwalk A hr.hd
 have hc : codeAny (model c.prog c.w) A (.compLoop (.ListComp elt gens scope pos) d (.ref J) (.ref D) e) R { s with heap := h₂ } :=
  Hu (s₀ := { s with heap := h₂ }) hg hd hp hgs hin hr hb hBJ0 hBD hDJ hJds hDds hds hsB W Bm hw₂ hoD hcap hbare hst hlr hR
 exact Gu hg (hp.sync g hgm) hc (W.self 0 _ _ _ hst hc)
theorem K1 {elt : Expr} {gens : List Comprehension} {scope : Scope} {pos : Pos} {D : Addr} (hp : PZ e gens) : ∀ (gs : List Comprehension) (d : Nat), (∀ k, gens[d + 1 + k]? = gs[k]?) → GX c L n e (.ListComp elt gens scope pos) elt D gs d
 | [], d, hk => by
  intro cap K A B s σ acc0 oD hr hb hBD ho hoD hcap hg h
  obtain ⟨h1, h2⟩ := h
  show wpAny _ A (do let x ← eval elt e; let _ ← call (.builtin "list.append") [.ref D, x]) _ _ s
  refine wpAny_bind (wpAny_mono (h2 A _ s hr (By hb hBD) ho hg) (fun v s₁ hq => ?_) fun _ _ q => q)
  refine Ae (fun G_ hG_ => ?_)
  obtain ⟨hg₁, hos₁, σ₁, hw₁, hv₁⟩ := hq
  refine hG_ ?_
  clear hG_ G_
  have hpl : s₁.heap.PlainList D acc0.toArray := by obtain ⟨k, rfl⟩ := hoD; exact ⟨k, hw₁.at_hid.1⟩
  refine wpAny_bind (wpAny_list_append_plain hpl (fun h' hpl' hs => wpAny_pure ?_) (by rw [List.size_toArray]; clear h1; exact Nat.le_trans (Nat.le_add_right _ _) hcap))
  obtain ⟨k, e'⟩ := hpl'
  refine ⟨hg₁, hos₁, [v], σ₁, _, ⟨k, rfl⟩, hw₁.setHid hs.extBut (by rw [e']; simp), hv₁⟩
 | g :: gs, d, hk => by
  intro cap K A B s σ acc0 oD hr hb hBD ho hoD hcap hg h
  have hgd : gens[d + 1]? = some g := by have := hk 0; simpa using this
  have hgm : g ∈ gens := List.mem_of_getElem? hgd
  have hrec := K1 (elt := elt) (scope := scope) (pos := pos) (D := D) hp gs (d + 1) (fun k => by have := hk (k + 1); rw [show d + 1 + 1 + k = d + 1 + (k + 1) from by clear this; lia]; simpa using this)
  show wpAny _ A (do let x ← eval g.iter e; standAt g.iter.pos; let x ← foldedSetIterable g.iter e x; let it ← holding [x] (pyIter x); let _ ← runOwn (.compStart (.ListComp elt gens scope pos) (d + 1) it (.ref D) e) e) _ _ s
  refine wpAny_bind (wpAny_mono (h A _ s hr (By hb hBD) ho hg) (fun xv s₁ hq => ?_) fun _ _ q => q)
  refine Ae (fun G_ hG_ => ?_)
  obtain ⟨hg₁, hos₁, σ₁, hw₁, hv₁⟩ := hq
  refine hG_ ?_
  clear hG_ G_
  refine wpAny_bind (wpAny_standAt (wpAny_bind (wpAny_of_eq (hp.fold g hgm xv) (wpAny_bind (wpAny_holding ?_)))))
  refine wpAny_mono (Nq (R := fun r s' => match r with
    | .ok _ => CompP B D L s.os acc0 K s'
    | .error x => cameBackBy (model c.prog c.w) A e No x s') hgd (by have := hk 1; cases gs <;> simpa using this) hp (fun g' q => by
     cases gs with
     | nil => cases q
     | cons g'' r => cases q; exact List.mem_of_getElem? (by have := hk 1; simpa using this)) hrec hr hb hBD hw₁ hoD hcap hg₁ hv₁
   fun s' ys σ' oD' g1 g2 g3 g4 g5 => ⟨g1, g2.trans hos₁, ys, σ', oD', g3, g4, g5⟩) (fun it s₂ hc => ?_) fun _ _ q => q
  exact wpAny_bind (wpAny_runOwn (codeAny_mono hc fun r s' hr' => by
   cases r with
   | ok f => exact wpAny_pure hr'
   | error x => exact hr'))
end
noncomputable def Qf (names : List (Str × NameKind)) : List (Str × NameKind) := names.map fun p => (p.1, match p.2 with | .free => .cell | k => k)
inductive B5 (CL : List (Str × Addr)) : List (Str × NameKind) → List (Str × Addr) → List (Str × Addr) → Prop
 | nil {acc} : B5 CL [] acc acc
 | free {x a r acc out} (h : (x, a) ∈ CL) (t : B5 CL r ((x, a) :: acc) out) : B5 CL ((x, .free) :: r) acc out
 | other {x k r acc out} (h : k ≠ NameKind.free) (t : B5 CL r acc out) : B5 CL ((x, k) :: r) acc out
theorem KC {e : Env} {CL : List (Str × Addr)} (hcl : ∀ x a, (x, a) ∈ CL → e.cells.lookup x = some a) (f : Str × NameKind → List (Str × Addr) → Sem (ForInStep (List (Str × Addr))))
  (hf : ∀ x k acc, f (x, k) acc = if k == .free then (do let a ← cellOf e x; pure (.yield ((x, a) :: acc))) else pure (.yield acc)) :
  ∀ {names acc out}, B5 CL names acc out → forIn names acc f = pure out := by
 intro names acc out h
 induction h with
 | nil => rw [List.forIn_nil]
 | free h t ih =>
  rw [List.forIn_cons, hf, ← ih]
  unfold cellOf
  rw [hcl _ _ h]
  rfl
 | @other x k r acc out h t ih =>
  rw [List.forIn_cons, hf, if_neg (by simpa using h), ← ih]
  rfl
theorem GY {e : Env} {CL out : List (Str × Addr)} {scope : Scope} (hcl : ∀ x a, (x, a) ∈ CL → e.cells.lookup x = some a) (h : B5 CL scope.names [] out) : closureFor scope e = pure out := by
 unfold closureFor
 have := KC (e := e) hcl (fun p acc => match p with | (name, kind) => if (kind == NameKind.free) = true then (do let a ← cellOf e name; pure (.yield ((name, a) :: acc))) else pure (.yield acc)) (fun _ _ _ => rfl) h
 refine Eq.trans ?_ (bind_pure (forIn scope.names [] _))|>.trans this
 congr 1
theorem BD : ∀ (names : List (Str × NameKind)) (k : Nat) (acc : List (Str × Addr)), cellsFrom k names acc = cellsFrom k names [] ++ acc
 | [], _, _ => rfl
 | (y, d) :: r, k, acc => by
  unfold cellsFrom
  split
  ·rw [BD r _ ((y, k) :: acc), BD r _ [(y, k)], List.append_assoc]; rfl
  ·exact BD r k acc
theorem B5.sub {CL : List (Str × Addr)} : ∀ {names acc out}, B5 CL names acc out → ∀ x ∈ out.map (·.1), (x, NameKind.free) ∈ names ∨ x ∈ acc.map (·.1) := by
 intro names acc out h
 induction h with
 | nil => exact fun x hx => .inr hx
 | free h t ih =>
  intro x hx
  rcases ih x hx with q | q
  ·exact .inl (List.mem_cons_of_mem _ q)
  ·rcases List.mem_cons.mp q with q | q
   ·exact .inl (by rw [show x = _ from q]; exact List.mem_cons_self)
   ·exact .inr q
 | other h t ih =>
  intro x hx
  exact (ih x hx).imp (fun q => List.mem_cons_of_mem _ q) id
theorem B5.nodup {CL : List (Str × Addr)} : ∀ {names acc out}, B5 CL names acc out → (names.map (·.1)).Nodup → (acc.map (·.1)).Nodup → (∀ x ∈ acc.map (·.1), x ∉ names.map (·.1)) → (out.map (·.1)).Nodup := by
 intro names acc out h
 induction h with
 | nil => exact fun _ h _ => h
 | free h t ih =>
  intro hn ha hx
  obtain ⟨n1, n2⟩ := List.nodup_cons.mp hn
  refine ih n2 (List.nodup_cons.mpr ⟨fun q => hx _ q List.mem_cons_self, ha⟩) fun x q => ?_
  rcases List.mem_cons.mp q with q | q
  ·rw [show x = _ from q]; exact n1
  ·exact fun z => hx x q (List.mem_cons_of_mem _ z)
 | other h t ih =>
  intro hn ha hx
  obtain ⟨n1, n2⟩ := List.nodup_cons.mp hn
  exact ih n2 ha fun x q z => hx x q (List.mem_cons_of_mem _ z)
theorem Nr {names : List (Str × NameKind)} (hn : (names.map (·.1)).Nodup) {x : Str} {k k' : NameKind} (h : (x, k) ∈ names) (h' : (x, k') ∈ names) : k = k' := by
 have := AU hn h
 rw [AU hn h'] at this
 exact (Option.some.inj this).symm
noncomputable def compEnv (scope : Scope) (cells : List (Str × Addr)) (C : Addr) (e : Env) : Env :=
 { scope := relabel scope e, locals := C, globals := e.globals, cells := cells, qual := e.qual, func := none, code := e.code, frame := e.frame, builtins := e.builtins }
theorem GZ {M : Model} {A : Around} {E : Value → Shared → Prop} {s : Shared} {scope : Scope} {globals : Addr} {cl : List (Str × Addr)} {qual : Str} {outer : Env} {bi : Addr} {Q : Env → Shared → Prop}
  (h : Q { scope, locals := s.heap.objs.size, globals, cells := cellsFrom (s.heap.objs.size + 1) scope.names cl, qual, func := none, code := outer.code, frame := outer.frame, builtins := outer.builtins }
   { s with heap := pushCells (s.heap.push { cls := .type "dict", data := .dict #[] }) scope.names }) :
  wpAny M A (newFunctionEnv scope globals cl [] qual none .none (some outer) bi) Q E s := by
 simp only [newFunctionEnv, Option.isSome_some, if_true]
 refine wpAny_bind (wpAny_alloc ?_)
 refine wpAny_bind (wpAny_layCells _ (fun name kind cells => by cases hkc : kind == NameKind.cell <;> simp [hkc]) _ _ _ _ ?_)
 rw [show ({ s with heap := s.heap.push { cls := .type "dict", data := .dict #[] } } : Shared).heap.objs.size = s.heap.objs.size + 1 from Heap.size_push ..]
 rw [List.forIn_nil]
 exact wpAny_bind (wpAny_pure (wpAny_pure h))
section
variable {B : PM} {L : Addr} {σ : St} {h h' : Heap}
theorem Own.newBoth (O : Own B L σ h) (k : Ext h h') {D : Addr} {d : Mine.D} {nz : Led} (hD : h.objs.size ≤ D) (hd : At h' D d) (hn : ∀ p ∈ nz, h.objs.size ≤ p.1 ∧ At h' p.1 p.2 ∧ p.1 ≠ D) :
  Own B L ⟨σ.loc, (D, d) :: σ.mu, nz ++ σ.fz, σ.od⟩ h' := by
 refine Ae (fun G_ hG_ => ?_)
 obtain ⟨f1, f2, f3, f4, f5, f6⟩ := O.fresh hD
 refine hG_ ?_
 clear hG_ G_
 have O' := O.ext k
 have cons : ∀ {x}, x ≠ D → x ∉ σ.mu.map (·.1) → x ∉ ((D, d) :: σ.mu).map (·.1) := fun h1 h2 q => (List.mem_cons.mp q).elim h1 h2
 refine ⟨O'.sub, O'.ns, O'.ln, O'.LB, fun p hp => ?_, List.nodup_cons.mpr ⟨f3, O.nd⟩, fun p hp => ?_, fun p hp => ?_⟩
 ·rcases List.mem_cons.mp hp with rfl | hp
  ·exact ⟨hd, f1, f2⟩
  ·exact O'.mu p hp
 ·rcases List.mem_append.mp hp with hp | hp
  ·refine Ae (fun G_ hG_ => ?_)
   obtain ⟨h1, h2, h3⟩ := hn p hp
   obtain ⟨g1, g2, g3, g4, g5, g6⟩ := O.fresh h1
   refine hG_ ?_
   clear hG_ G_
   exact ⟨h2, g2, cons h3 g3, g6⟩
  ·exact ⟨(O'.fz p hp).1, (O'.fz p hp).2.1, cons (fun q => f4 (q ▸ List.mem_map_of_mem (f := (·.1)) hp)) (O'.fz p hp).2.2.1, (O'.fz p hp).2.2.2⟩
 ·exact ⟨(O'.od p hp).1, (O'.od p hp).2.1, cons (fun q => f5 (q ▸ List.mem_map_of_mem (f := (·.1)) hp)) (O'.od p hp).2.2.1, (O'.od p hp).2.2.2⟩
theorem Own.addHid' (O : Own B L σ h) {I : Addr} {o : Obj} (hg : h.get? I = some o) (hL : L ≠ I) (hm : I ∉ σ.mu.map (·.1)) (hf : I ∉ σ.fz.map (·.1)) (hq : I ∉ σ.od.map (·.1)) : Own (B.add I o) L σ h := by
 have cons : ∀ {x}, x ≠ I → x ∉ B.hid → x ∉ (B.add I o).hid := fun h1 h2 q => (List.mem_cons.mp q).elim h1 h2
 refine ⟨fun a x e => ?_, O.ns, O.ln, (if_neg hL).trans O.LB, fun p hp => ⟨(O.mu p hp).1, (if_neg fun (q : p.1 = I) => hm (q ▸ List.mem_map_of_mem (f := (·.1)) hp)).trans (O.mu p hp).2.1, (O.mu p hp).2.2⟩, O.nd,
  fun p hp => ⟨(O.fz p hp).1, (O.fz p hp).2.1, (O.fz p hp).2.2.1, cons (fun q => hf (q ▸ List.mem_map_of_mem (f := (·.1)) hp)) (O.fz p hp).2.2.2⟩,
  fun p hp => ⟨(O.od p hp).1, (O.od p hp).2.1, (O.od p hp).2.2.1, cons (fun q => hq (q ▸ List.mem_map_of_mem (f := (·.1)) hp)) (O.od p hp).2.2.2⟩⟩
 by_cases q : a = I
 ·have e' : some o = some x := (if_pos q).symm.trans e
  cases e'; rw [q]; exact hg
 ·exact O.sub a x ((if_neg q).symm.trans e)
end
section
variable {c : Cx} {L : Addr} {n : Nat} {σ : St} {α β : Type} {e : Env} {KL : List (Str × NameKind)} {CL out : List (Str × Addr)}
noncomputable def Hv : List Comprehension → Prop
 | [] => True
 | g :: gs => (∀ e x, foldedSetIterable g.iter e x = pure x) ∧ Hv gs
theorem Hv.mem : ∀ {gs : List Comprehension}, Hv gs → ∀ g ∈ gs, ∀ e x, foldedSetIterable g.iter e x = pure x
 | g :: gs, h, g', hm => by
  rcases List.mem_cons.mp hm with rfl | hm
  ·exact h.1
  ·exact Hv.mem h.2 g' hm
inductive FinR (T : Addr → List Value → Led → St → Prop) (σ₁ : St) (ys : List Value) (σ' : St) : Prop
 | mk (nz : Led) (h1 : ∀ p ∈ nz, p ∈ σ'.fz ∨ p ∈ σ'.mu) (h2 : ∀ D, T D ys nz σ₁)
inductive Q0 (c : Cx) (n : Nat) (e : Env) (elt : Expr) (g : Comprehension) (gs : List Comprehension) (scope : Scope) (out : List (Str × Addr)) (T : Addr → List Value → Led → St → Prop) (xv : Value) (σ₁ : St) : Prop
 | mk (N : Nat) (P : Nat → Value → Prop) (ds : List Addr) (h1 : BP c σ₁ xv N P ds) (h2 : Qc σ₁ ds) (h3 : ∀ C e', Ag e' C (Qf scope.names) (cellsFrom (C + 1) scope.names [] ++ out) → e'.code = e.code → e'.qual = e.qual →
  Bw c C n e' g (CB c C n e' elt gs) sizeLine (FinR T σ₁) N P ⟨Dn scope.names [], Do [] (cellsFrom (C + 1) scope.names []), [], Hq σ₁⟩)
structure Q1 (KL : List (Str × NameKind)) (CL : List (Str × Addr)) (scope : Scope) (gens : List Comprehension) (out : List (Str × Addr)) : Prop where
 sync : ∀ g ∈ gens, g.is_async = 0
 kind : scope.kind = .function
 nodup : (scope.names.map (·.1)).Nodup
 free : ∀ p ∈ scope.names, p.2 = .free → (p.1, .cell) ∈ KL
 clos : B5 CL scope.names [] out
 fold : Hv gens
theorem K2 {elt : Expr} {g : Comprehension} {gs : List Comprehension} {scope : Scope} {pos p2 : Pos} {T : Addr → List Value → Led → St → Prop} {use : Option (Value → Sem Unit)} (hk : Ag e L KL CL) (hc : Q1 KL CL scope (g :: gs) out)
  {A : Around} {B : PM} {s : Shared} {Q : Value → Shared → Prop} (hr : Rm n A) (hb : InB c B) (ho : Own B L σ s.heap) (hg : AllBare s.gens)
  (h : V c L n (eval g.iter e) (Q0 c n e elt g gs scope out T) σ)
  (hQ : ∀ C D s' ys nz σ₁, AllBare s'.gens → s'.os = s.os → (∃ m, s'.heap.Ns C m) → B.pm C = none → Own B L ⟨σ₁.loc, (D, .list ys) :: σ₁.mu, nz ++ σ₁.fz, σ₁.od⟩ s'.heap → L ≠ C → C ∉ ((D, Mine.D.list ys) :: σ₁.mu).map (·.1) → C ∉ (nz ++ σ₁.fz).map (·.1) → C ∉ σ₁.od.map (·.1) → T D ys nz σ₁ →
   compPost (model c.prog c.w) A No use Q (.ref D) C (.ok .next) s') :
  wpAny (model c.prog c.w) A (comprehension (.ListComp elt (g :: gs) scope pos) scope e p2 (newList []) false (eval g.iter e) use) Q No s := by
 have hKn := hc.nodup
 refine wpAny_comprehension_free (g := g) (gs := gs) rfl (hc.fold.1 e) (GY hk.cl hc.clos) hc.kind (fun x hx hl => hl ▸ AU hKn hx) ?_
 refine wpAny_mono (h A B s hr hb ho hg) (fun xv s₁ hp => ?_) fun _ _ q => q
 refine Ae (fun G_ hG_ => ?_)
 obtain ⟨hg₁, hos₁, σ₁, hw₁, N, P, ds, hseq, hdep, hrest⟩ := hp
 refine hG_ ?_
 clear hG_ G_
 refine hseq A B L s₁ _ hr.hd hw₁ fun J Sg h₂ hext hJ hJg hwalk Bm hst => ?_
 obtain ⟨oJ, hoJ⟩ := hJg
 refine wpAny_newList ?_ (by simp)
 refine GZ ?_
 generalize hH3 : h₂.push { cls := .type "list", dict := none, data := .seq ([] : List Value).toArray 0 } = h₃
 have hD : h₂.objs.size < h₃.objs.size := by rw [← hH3, Heap.size_push]; exact Nat.lt_succ_self _
 have hJ2 : J < h₂.objs.size := Heap.lt_size hoJ
 have s12 : s₁.heap.objs.size ≤ h₂.objs.size := Nat.le_of_lt (Nat.lt_of_le_of_lt hJ hJ2)
 generalize hH5 : pushCells (h₃.push { cls := .type "dict", data := .dict #[] }) scope.names = h₅
 have x23 : Ext h₂ h₃ := by rw [← hH3]; exact Ext.push _ _
 have x35 : Ext h₃ h₅ := fun a o q => by rw [← hH5]; exact pushCells_keeps _ _ a o (Heap.get?_push_of_some _ q)
 have hoD : h₃.get? h₂.objs.size = some { cls := .type "list", dict := none, data := .seq ([] : List Value).toArray 0 } := by rw [← hH3]; exact Heap.get?_push_size _ rfl
 have hoC : h₅.Ns h₃.objs.size fun _ => none := by rw [← hH5]; exact (Heap.Ns.new h₃ _).keeps (pushCells_keeps _ _)
 have cok := cellsFrom_ok scope.names (h₃.push { cls := .type "dict", data := .dict #[] }) (h₃.objs.size + 1) [] ⟨fun _ _ hm => (nomatch hm), List.Pairwise.nil⟩ (by rw [Heap.size_push]; exact Nat.le_refl _)
 rw [Heap.size_push, hH5] at cok
 have hcell : ∀ cl, cellsFrom (h₃.objs.size + 1) scope.names cl = cellsFrom (h₃.objs.size + 1) scope.names [] ++ cl := fun cl => BD _ _ _
 show codeAny (model c.prog c.w) A (.compStart (.ListComp elt (g :: gs) scope pos) 0 (.ref J) (.ref h₂.objs.size) { (_ : Env) with scope := relabel scope e }) _ _
 dsimp only
 generalize hE : ({ scope := relabel scope e, locals := h₃.objs.size, globals := e.globals, cells := cellsFrom (h₃.objs.size + 1) scope.names out, qual := e.qual, func := none, code := e.code, frame := e.frame, builtins := e.builtins } : Env) = e'
 have relab : (relabel scope e).names = Qf scope.names := by
  show List.map _ _ = List.map _ _
  refine List.map_congr_left fun p hp => ?_
  obtain ⟨x, k⟩ := p
  by_cases hf : k = .free
  ·subst hf
   have hx : e.kindOf x = some .cell := hk.nm _ _ (hc.free _ hp rfl)
   show (if (NameKind.free == NameKind.free && e.scope.kind == .function && e.kindOf x == some .cell) = true then (x, NameKind.cell) else (x, NameKind.free)) = (x, NameKind.cell)
   rw [hk.kind, hx]; rfl
  ·cases k <;> first | exact absurd rfl hf | rfl
 have relN : (Qf scope.names).map (·.1) = scope.names.map (·.1) := by unfold Qf; rw [List.map_map]; rfl
 have hE' : Ag e' h₃.objs.size (Qf scope.names) (cellsFrom (h₃.objs.size + 1) scope.names [] ++ out) := by
  refine ⟨by rw [← hE]; exact hc.kind, by rw [← hE], by rw [← hE]; exact hk.glob, by rw [← hE]; exact hk.bi, fun x k hx => ?_, fun x a hx => ?_⟩
  ·rw [← hE]
   show (relabel scope e).names.lookup x = some k
   rw [relab]; exact AU (by rw [relN]; exact hKn) hx
  ·rw [← hE]
   show (cellsFrom (h₃.objs.size + 1) scope.names out).lookup x = some a
   rw [hcell]
   refine AU ?_ hx
   rw [List.map_append]
   refine List.nodup_append.mpr ⟨Bp hKn, hc.clos.nodup hKn List.Pairwise.nil (fun _ q => nomatch q), fun y hy z hz => ?_⟩
   rintro rfl
   rcases C4 _ _ _ _ hy with q | q
   ·rcases hc.clos.sub _ hz with q' | q'
    ·exact nomatch Nr hKn q q'
    ·exact nomatch q'
   ·exact nomatch q
 let B' : PM := ⟨fun b => s₁.heap.get? b, [], fun _ q => nomatch q⟩
 have hds : ∀ b ∈ ds, ∃ y, s₁.heap.get? b = some y := fun b hbm => by
  rcases hdep b hbm with z | z
  ·refine Ae (fun G_ hG_ => ?_)
   obtain ⟨p, hp, rfl⟩ := List.mem_map.mp z
   obtain ⟨y, ey, _⟩ := (hw₁.fz p hp).1
   refine hG_ ?_
   clear hG_ G_
   exact ⟨y, ey⟩
  ·refine Ae (fun G_ hG_ => ?_)
   obtain ⟨p, hp, rfl⟩ := List.mem_map.mp z
   obtain ⟨y, ey, _⟩ := (hw₁.od p hp).1
   refine hG_ ?_
   clear hG_ G_
   exact ⟨y, ey⟩
 have ndS : ∀ a, s₁.heap.objs.size ≤ a → a ∉ ds := fun a ha z => by
  obtain ⟨y, ey⟩ := hds a z
  exact absurd (Heap.lt_size ey) (Nat.not_lt.mpr ha)
 have noneS : ∀ a, s₁.heap.objs.size ≤ a → s₁.heap.get? a = none := fun a ha => Heap.get?_none_of_le ha
 have hJD : J ≠ h₂.objs.size := Nat.ne_of_lt hJ2
 have pmv : ∀ a, a ≠ h₂.objs.size → a ≠ J → ((((B'.dep s₁.heap ds).add J oJ).add h₂.objs.size { cls := .type "list", dict := none, data := .seq ([] : List Value).toArray 0 }).pm a = s₁.heap.get? a) := fun a h1 h2 => by
  show (if a = _ then _ else if a = J then _ else if a ∈ ds then (s₁.heap.get? a).or (s₁.heap.get? a) else s₁.heap.get? a) = _
  rw [if_neg h1, if_neg h2]
  split
  ·cases s₁.heap.get? a <;> rfl
  ·rfl
 have x15 : Ext s₁.heap h₅ := hext.trans (x23.trans x35)
 have hCs : s₁.heap.objs.size ≤ h₃.objs.size := Nat.le_trans s12 (Nat.le_of_lt hD)
 have own5 : Own (((B'.dep s₁.heap ds).add J oJ).add h₂.objs.size { cls := .type "list", dict := none, data := .seq ([] : List Value).toArray 0 }) h₃.objs.size
   ⟨Dn scope.names [], Do [] (cellsFrom (h₃.objs.size + 1) scope.names []), [], Hq σ₁⟩ h₅ := by
  have hcm : ∀ p ∈ Do [] (cellsFrom (h₃.objs.size + 1) scope.names []), ∃ y, (y, p.1) ∈ cellsFrom (h₃.objs.size + 1) scope.names [] ∧ p.2 = .cell none := fun p hp => by
   obtain ⟨⟨y, b⟩, hy, rfl⟩ := List.mem_map.mp hp
   exact ⟨y, hy, rfl⟩
  refine ⟨fun a x q => ?_, ?_, List.Nodup.sublist (Ch _ _) hKn, ?_, fun p hp => ?_, ?_, (fun p hp => nomatch hp), fun p hp => ?_⟩
  ·by_cases h1 : a = h₂.objs.size
   ·have q' : some _ = some x := (if_pos h1).symm.trans q
    rw [h1, ← q']; exact x35 _ _ hoD
   ·by_cases h2 : a = J
    ·have q' : some oJ = some x := ((if_neg h1).trans (if_pos h2)).symm.trans q
     rw [h2, ← q']; exact x35 _ _ (x23 _ _ hoJ)
    ·rw [pmv a h1 h2] at q
     exact x15 a x q
  ·have : lk (Dn scope.names []) = fun _ => none := by
    funext y
    rw [Fd _ _ _ hKn]
    simp
   rw [this]; exact hoC
  ·rw [pmv _ (Nat.ne_of_gt hD) (Nat.ne_of_gt (Nat.lt_trans hJ2 hD))]
   exact noneS _ hCs
  ·obtain ⟨y, hy, he⟩ := hcm p hp
   obtain ⟨c1, c2⟩ := cok.empty y p.1 hy
   have hlt : h₃.objs.size < p.1 := c2
   refine ⟨?_, ?_, hlt⟩
   ·rw [he]; exact c1
   ·rw [pmv _ (Nat.ne_of_gt (Nat.lt_trans hD hlt)) (Nat.ne_of_gt (Nat.lt_trans hJ2 (Nat.lt_trans hD hlt)))]
    exact noneS _ (Nat.le_trans hCs (Nat.le_of_lt hlt))
  ·have e4 : (Do [] (cellsFrom (h₃.objs.size + 1) scope.names [])).map (·.1) = (cellsFrom (h₃.objs.size + 1) scope.names []).map (·.2) := by
    rw [Do, List.map_map]; rfl
   show (List.map (·.1) (Do _ _)).Nodup
   rw [e4]
   exact List.pairwise_map.mpr cok.apart
  ·have hat := Ng hw₁ p hp
   have hlt := hat.lt
   refine ⟨hat.mono fun o => x15 _ o, Nat.ne_of_lt (Nat.lt_of_lt_of_le hlt hCs), fun q => ?_, fun q => ?_⟩
   ·refine Ae (fun G_ hG_ => ?_)
    obtain ⟨p', hp', e1⟩ := List.mem_map.mp q
    obtain ⟨y, hy, _⟩ := hcm p' hp'
    refine hG_ ?_
    clear hG_ G_
    have hlt' : h₃.objs.size < p'.1 := (cok.empty y p'.1 hy).2
    exact absurd (e1 ▸ hlt') (Nat.not_lt.mpr (Nat.le_of_lt (Nat.lt_of_lt_of_le hlt hCs)))
   ·rcases List.mem_cons.mp q with q | q
    ·exact absurd (q ▸ hlt) (Nat.not_lt.mpr s12)
    ·rcases List.mem_cons.mp q with q | q
     ·exact absurd (q ▸ hlt) (Nat.not_lt.mpr hJ)
     ·exact nomatch q
 have W := hwalk A hr.hd
 have hin : GX c h₃.objs.size n e' (.ListComp elt (g :: gs) scope pos) elt h₂.objs.size gs 0 := K1 (gens := g :: gs) ⟨hc.sync, fun g' hg' => hc.fold.mem g' hg' e'⟩ gs 0 fun k => by rw [show 0 + 1 + k = k + 1 from by lia]; rfl
 have hcore : codeAny (model c.prog c.w) A (.compLoop (.ListComp elt (g :: gs) scope pos) 0 (.ref J) (.ref h₂.objs.size) e') (fun r s' => compPost (model c.prog c.w) A No use Q (.ref h₂.objs.size) h₃.objs.size r s') { s₁ with heap := h₅ } := by
  have hst5 : Sg 0 h₅ := W.frame _ _ _ hst fun b _ o q => x35 _ _ (x23 _ _ q)
  refine Hu (gs := gs) (s₀ := { s₁ with heap := h₅ }) (B := B') (h₀ := s₁.heap) (ds := ds) rfl (by cases gs <;> rfl) ⟨hc.sync, fun g' hg' => hc.fold.mem g' hg' e'⟩ (fun g' q => by
   cases gs with
   | nil => cases q
   | cons g'' r => cases q; exact List.mem_cons_of_mem _ List.mem_cons_self) hin hr (fun a o q => hw₁.sub a o (hb a o q)) (noneS _ hJ) (noneS _ s12) hJD (ndS _ hJ) (ndS _ s12) hds (fun a x q => q) W Bm own5 ⟨0, rfl⟩ (Nat.le_of_eq (Nat.zero_add _)) hg₁ hst5
   (hrest h₃.objs.size e' hE' (by rw [← hE]) (by rw [← hE])) fun s' ys σ' oD' hg' hos' hD' hw' hK => ?_
  refine Ae (fun G_ hG_ => ?_)
  obtain ⟨nz, hnz, hT⟩ := hK
  obtain ⟨a1, a2, a3, a4, a5⟩ := hw'.at_hid
  refine hG_ ?_
  clear hG_ G_
  have x1 : Ext s₁.heap s'.heap := fun a x q => hw'.sub a x ((if_neg fun z : a = h₂.objs.size => by rw [z, noneS _ s12] at q; cases q).trans q)
  have nzOk : ∀ p ∈ nz, h₃.objs.size < p.1 ∧ At s'.heap p.1 p.2 ∧ p.1 ≠ h₂.objs.size := fun p hp => by
   rcases hnz p hp with q | q
   ·exact ⟨(hw'.fz p q).2.1, (hw'.fz p q).1, fun z => a4 (z ▸ List.mem_map_of_mem (f := (·.1)) q)⟩
   ·exact ⟨(hw'.mu p q).2.2, (hw'.mu p q).1, fun z => a3 (z ▸ List.mem_map_of_mem (f := (·.1)) q)⟩
  have hCf := hw₁.fresh hCs
  refine hQ _ _ s' ys nz σ₁ hg' (hos'.trans hos₁) ⟨_, hw'.ns⟩ hCf.1 (hw₁.newBoth x1 s12 ⟨oD', a1, by simpa using hD'⟩ fun p hp => ⟨Nat.le_trans hCs (Nat.le_of_lt (nzOk p hp).1), (nzOk p hp).2⟩) (Nat.ne_of_lt hCf.2.1) (fun q => ?_) (fun q => ?_) hCf.2.2.2.2.1 (hT _)
  ·rcases List.mem_cons.mp q with q | q
   ·exact absurd q (Nat.ne_of_gt hD)
   ·exact hCf.2.2.1 q
  ·rw [List.map_append] at q
   rcases List.mem_append.mp q with q | q
   ·obtain ⟨p, hp, e1⟩ := List.mem_map.mp q
    exact absurd (e1 ▸ (nzOk p hp).1) (Nat.lt_irrefl _)
   ·exact hCf.2.2.2.1 q
 have hst5 : Sg 0 h₅ := W.frame _ _ _ hst fun b _ o q => x35 _ _ (x23 _ _ q)
 exact Gu (gens := g :: gs) rfl (hc.sync g List.mem_cons_self) hcore (W.self 0 { s₁ with heap := h₅ } _ _ hst5 hcore)
theorem BJ {elt : Expr} {g : Comprehension} {gs : List Comprehension} {scope : Scope} {pos : Pos} {Q : Value → St → Prop} (hk : Ag e L KL CL) (hc : Q1 KL CL scope (g :: gs) out)
  (h : V c L n (eval g.iter e) (Q0 c n e elt g gs scope out fun D ys nz σ₁ => Q (.ref D) ⟨σ₁.loc, (D, .list ys) :: σ₁.mu, nz ++ σ₁.fz, σ₁.od⟩) σ) : V c L n (eval (.ListComp elt (g :: gs) scope pos) e) Q σ := by
 intro A B s hr hb ho hg
 obtain ⟨t, i, f, a⟩ := g
 have ha : a = 0 := hc.sync _ List.mem_cons_self
 subst ha
 rw [eval_ListComp]
 show wpAny _ A (comprehension (.ListComp elt (⟨t, i, f, 0⟩ :: gs) scope pos) scope e _ (newList []) false (eval i e)) _ _ s
 refine K2 (use := none) hk hc hr hb ho hg h fun C D s' ys nz σ₁ hg' hos hn hBC hw hL hm hf hq hT => ?_
 obtain ⟨m, hn⟩ := hn
 exact ⟨m, hn, fun h' hs => ⟨hg', hos, _, (hw.addHid' (o := Classical.choose hn) (Classical.choose_spec (Classical.choose_spec (Classical.choose_spec hn))).1 hL hm hf hq).leaveHid hs.extBut hBC, hT⟩⟩
theorem BK {y : Str} {py spos : Pos} {elt : Expr} {g : Comprehension} {gs : List Comprehension} {scope : Scope} {pos : Pos} {Q : Flow → St → Prop} (hk : Ag e L KL CL) (hc : Q1 KL CL scope (g :: gs) out) (hy : (y, NameKind.local) ∈ KL)
  (h : V c L n (eval g.iter e) (Q0 c n e elt g gs scope out fun D ys nz σ₁ => V c L n (storeName e y (.ref D)) (fun _ σ' => Q .next σ') ⟨σ₁.loc, (D, .list ys) :: σ₁.mu, nz ++ σ₁.fz, σ₁.od⟩) σ)
  (hline : (py.line == pos.line) = true := by with_unfolding_all rfl) (hfree : (scope.names.any fun (n, k) => n == y && (k == .local || k == .cell)) = false := by with_unfolding_all rfl) :
  V c L n (exec (.Assign [.Name y py] (.ListComp elt (g :: gs) scope pos) spos) e) Q σ := by
 intro A B s hr hb ho hg
 have hsw : swapsWith (.ListComp elt (g :: gs) scope pos) (some (.Name y py)) spos.line e = pure true := by
  show (pure (e.blockKind == .function && e.kindOf y == some .local && py.line == pos.line && !(scope.names.any fun (n, k) => n == y && (k == .local || k == .cell))) : Sem Bool) = _
  rw [hline, hfree, hk.nm _ _ hy]
  simp [Env.blockKind, hk.kind, ScopeKind.isAnnotationScope]
 rw [exec_Assign_Name_used _ _ _ _ hsw]
 obtain ⟨t, i, f, a⟩ := g
 have ha : a = 0 := hc.sync _ List.mem_cons_self
 subst ha
 refine wpAny_bind (wpAny_standAt (wpAny_bind ?_))
 show wpAny _ A (do let _ ← comprehension (.ListComp elt (⟨t, i, f, 0⟩ :: gs) scope pos) scope e _ (newList []) false (eval i e) (some (assign (.Name y py) e))) _ _ s
 refine wpAny_bind (wpAny_mono (K2 (use := some (assign (.Name y py) e)) (Q := fun _ s' => Pr B L s.os Q .next s') hk hc hr hb ho hg h fun C D s' ys nz σ₁ hg' hos hn hBC hw hL hm hf hq hT => ?_) (fun _ s' hq => wpAny_pure (wpAny_pure hq)) fun _ _ q => q)
 refine Ae (fun G_ hG_ => ?_)
 obtain ⟨m, o, es, ep, hC, r1⟩ := hn
 refine hG_ ?_
 clear hG_ G_
 have hw' := hw.addHid' hC hL hm hf hq
 show wpAny _ A (assign (.Name y py) e (.ref D)) _ _ _
 refine wpAny_assign_Name (wpAny_mono (hT A _ s' hr (By hb hBC) hw' hg') (fun _ s'' hp => ?_) fun _ _ q => q)
 refine Ae (fun G_ hG_ => ?_)
 obtain ⟨hg₂, hos₂, σ₂, hw₂, hQ₂⟩ := hp
 refine hG_ ?_
 clear hG_ G_
 exact ⟨m, ⟨o, es, ep, hw₂.at_hid.1, r1⟩, fun h' hs => ⟨hg₂, hos₂.trans hos, σ₂, hw₂.leaveHid hs.extBut hBC, hQ₂⟩⟩
end
section
variable {c : Cx} {L : Addr} {n : Nat} {σ : St} {α β : Type} {e : Env} {KL : List (Str × NameKind)} {CL out : List (Str × Addr)} {l l' : Loc} {m m' f q : Led}
theorem H0 {x : Str} {pos : Pos} {v : Value} {Q : Unit → St → Prop} (h : V c L n (storeName e x v) Q σ) : V c L n (assign (.Name x pos) e v) Q σ :=
 fun A B s hr hb ho hg => wpAny_assign_Name (h A B s hr hb ho hg)
theorem CQ {x : Str} {v : Value} {Q : Unit → St → Prop} (h : V c L n (storeName e x v) Q σ) : V c L n (bindName e x v) Q σ :=
 fun A B s hr hb ho hg => wpAny_bindName (h A B s hr hb ho hg)
theorem CG {elts : List Expr} {k : Nat} {pos : Pos} {t : Addr} {vs : List Value} {Q : Unit → St → Prop} (ht : Has σ t (.tup vs)) (hn : (assignEach elts e).length = vs.length)
  (h : V c L n (assignInOrder ((assignEach elts e).map (·.2)) vs) Q σ) (hstar : (assignEach elts e).findIdx? (·.1) = none := by with_unfolding_all rfl) : V c L n (assign (.Tuple elts k pos) e (.ref t)) Q σ :=
 fun A B s hr hb ho hg => wpAny_assign_Tuple hr.hd (ho.has ht).tup (by simpa using hn) hstar fun h' hk =>
  h A B { s with heap := h' } hr hb (ho.ext fun a o q => hk a o (Nat.ne_of_lt (Heap.lt_size q)) q) hg
theorem Bf {ts : List (Value → Sem Unit)} {Q : Unit → St → Prop} (h : Q () σ) : V c L n (assignInOrder ts []) Q σ := by
 cases ts <;> exact CM h
theorem Ca {t : Value → Sem Unit} {ts : List (Value → Sem Unit)} {v : Value} {vs : List Value} {Q : Unit → St → Prop} (h : V c L n (t v) (fun _ σ' => V c L n (assignInOrder ts vs) Q σ') σ) : V c L n (assignInOrder (t :: ts) (v :: vs)) Q σ := by
 show V c L n (do holding vs (t v); assignInOrder ts vs) Q σ
 exact Ay (AS h)
theorem AW {x : Expr} {rest : List Expr} {v : Value} {vs : List Value} {Q : Unit → St → Prop}
  (h : V c L n (assign x e v) (fun _ σ' => V c L n (assignInOrder ((assignEach rest e).map (·.2)) vs) Q σ') σ)
  (he : assignEach (x :: rest) e = (false, assign x e) :: assignEach rest e := by with_unfolding_all rfl) : V c L n (assignInOrder ((assignEach (x :: rest) e).map (·.2)) (v :: vs)) Q σ := by
 rw [he]; exact Ca h
theorem B8 {elts : List Expr} {k : Nat} {tpos pos : Pos} {value : Expr} {Q : Flow → St → Prop}
  (h : V c L n (eval value e) (fun v σ₁ => V c L n (assign (.Tuple elts k tpos) e v) (fun _ σ₂ => Q .next σ₂) σ₁) σ)
  (hw : swappedStores [.Tuple elts k tpos] value e = pure none) (hs : swapsWithSole [.Tuple elts k tpos] value pos.line e = pure false := by with_unfolding_all rfl) :
  V c L n (exec (.Assign [.Tuple elts k tpos] value pos) e) Q σ :=
 fun A B s hr hb ho hg => Assign_Tuple (wpAny_mono (h A B s hr hb ho hg) (fun _ _ hp => hp.next (R := fun _ σ'' => Q .next σ'') hr hb fun _ x => x) fun _ _ x => x) hs hw
theorem Eb {elts : List Expr} {k : Nat} {tpos pos : Pos} {value : Expr} {names : List Str} {Q : Flow → St → Prop}
  (h : V c L n (eval value e) (fun v σ₁ => ∃ t vs, v = .ref t ∧ Has σ₁ t (.tup vs) ∧ names.length = vs.length ∧ V c L n (assignInOrder (names.reverse.map fun x => bindName e x) vs.reverse) (fun _ σ₂ => Q .next σ₂) σ₁) σ)
  (hw : swappedStores [.Tuple elts k tpos] value e = pure (some names)) (hs : swapsWithSole [.Tuple elts k tpos] value pos.line e = pure false := by with_unfolding_all rfl) :
  V c L n (exec (.Assign [.Tuple elts k tpos] value pos) e) Q σ :=
 fun A B s hr hb ho hg => Assign_Tuple_swapped (wpAny_mono (h A B s hr hb ho hg) (fun v s₁ hp => by
  refine Ae (fun G_ hG_ => ?_)
  obtain ⟨hg₁, hos₁, σ₁, hw₁, t, vs, rfl, ht, hl, hv⟩ := hp
  refine hG_ ?_
  clear hG_ G_
  have e1 : names.length = vs.toArray.size := by simpa using hl
  rw [e1]
  refine unpackItems_tuple hr.hd (hw₁.has ht).tup fun h' hk => ?_
  have := hv A B { s₁ with heap := h' } hr hb (hw₁.ext fun a o q => hk a o (Nat.ne_of_lt (Heap.lt_size q)) q) hg₁
  rw [← hos₁]
  exact this) fun _ _ x => x) hs hw
noncomputable def swG (bk : ScopeKind) (ks : List (Str × Option NameKind × Pos)) (line : Nat) (vs : List Expr) : Sem (Option (List Str)) := do
 if bk != .function then return none
 if vs.any fun | .Starred .. => true | _ => false then return none
 let names := ks.filterMap fun p => if p.2.1 == some .local && p.2.2.line == line then some p.1 else none
 if names.length != ks.length || names.eraseDups.length != names.length then return none
 if vs.all (foldedForSure 8) then return none
 if vs.all (constantsAlone 8) then unsupported "assign.tuple-of-constant-expressions:order-of-the-stores"
 return some names
theorem ES (hk : Ag e L KL CL) : e.blockKind = .function := by simp [Env.blockKind, hk.kind, ScopeKind.isAnnotationScope]
theorem sw2 {a b : Str} {pa pb tp p2 : Pos} {k k2 : Nat} {v1 v2 : Expr} {xa xb : NameKind} {r : Sem (Option (List Str))} (hk : Ag e L KL CL) (ha : (a, xa) ∈ KL) (hb : (b, xb) ∈ KL) (h : swG .function [(a, some xa, pa), (b, some xb, pb)] pa.line [v1, v2] = r) :
  swappedStores [.Tuple [.Name a pa, .Name b pb] k tp] (.Tuple [v1, v2] k2 p2) e = r := by
 rw [← h, ← hk.nm _ _ ha, ← hk.nm _ _ hb, ← ES hk]
 rfl
theorem sw3 {a b d : Str} {pa pb pd tp p2 : Pos} {k k2 : Nat} {v1 v2 v3 : Expr} {xa xb xc : NameKind} {r : Sem (Option (List Str))} (hk : Ag e L KL CL) (ha : (a, xa) ∈ KL) (hb : (b, xb) ∈ KL) (hd : (d, xc) ∈ KL) (h : swG .function [(a, some xa, pa), (b, some xb, pb), (d, some xc, pd)] pa.line [v1, v2, v3] = r) :
  swappedStores [.Tuple [.Name a pa, .Name b pb, .Name d pd] k tp] (.Tuple [v1, v2, v3] k2 p2) e = r := by
 rw [← h, ← hk.nm _ _ ha, ← hk.nm _ _ hb, ← hk.nm _ _ hd, ← ES hk]
 rfl
theorem D4 {k : Int} {t : Tok} {Q : Value → St → Prop} (h : ∀ a, Q (.ref a) ⟨l, m, (a, DL 0 k 1) :: f, q⟩) : V c L n (call (.type "range") [.int k t]) Q ⟨l, m, f, q⟩ :=
 fun A B s hr hb ho hg => call_range_1 ⟨hg, rfl, _, ho.newFz (o := DL 0 k 1) (Ext.push _ _) (Nat.le_refl _) ⟨_, Heap.get?_push_size _ rfl, _, _, _, rfl⟩, h _⟩
theorem Nt {a b : Int} {t u : Tok} {Q : Value → St → Prop} (h : ∀ r, Q (.ref r) ⟨l, m, (r, DL a b 1) :: f, q⟩) : V c L n (call (.type "range") [.int a t, .int b u]) Q ⟨l, m, f, q⟩ :=
 fun A B s hr hb ho hg => call_range_2 ⟨hg, rfl, _, ho.newFz (o := DL a b 1) (Ext.push _ _) (Nat.le_refl _) ⟨_, Heap.get?_push_size _ rfl, _, _, _, rfl⟩, h _⟩
theorem K3 {a b k : Int} {t u v : Tok} {Q : Value → St → Prop} (hk : k ≠ 0) (hp : Builtin.divisionGoesByPylong (b - a) k = false) (h : ∀ r, Q (.ref r) ⟨l, m, (r, DL a b k) :: f, q⟩) : V c L n (call (.type "range") [.int a t, .int b u, .int k v]) Q ⟨l, m, f, q⟩ :=
 fun A B s hr hb ho hg => PySem.call_range_3 hk ⟨hg, rfl, _, ho.newFz (o := DL a b k) (Ext.push _ _) (Nat.le_refl _) ⟨_, Heap.get?_push_size _ rfl, _, _, _, rfl⟩, h _⟩ (.inl hp)
noncomputable def EqV (σ : St) (y x : Value) (b : Bool) : Prop := ∀ (A : Around) B L (s : Shared), A.units < cLine → Own B L σ s.heap → SeqAt.EqAt A s y x b
theorem EqV.strs {x y : List Nat} {t u : Tok} : EqV σ (.str (S x) t) (.str (S y) u) (decide (x = y)) := fun A B L s _ _ => by rw [← Ga]; exact SeqAt.EqAt.str_str _ _ _ _
theorem EqV.ints {a b : Int} {t u : Tok} : EqV σ (.int a t) (.int b u) (a == b) := fun A B L s _ _ => SeqAt.EqAt.int_int _ _ _ _
theorem EqV.list_str {a : Addr} {vs : List Value} {x : PySem.Str} {t : Tok} (h : Has σ a (.list vs)) : EqV σ (.ref a) (.str x t) false := fun A B L s hu ho => SeqAt.EqAt.list_str _ _ (ho.has h).list hu
theorem EqV.str_list {a : Addr} {vs : List Value} {x : PySem.Str} {t : Tok} (h : Has σ a (.list vs)) : EqV σ (.str x t) (.ref a) false := fun A B L s hu ho => SeqAt.EqAt.str_list _ _ (ho.has h).list hu
theorem EqV.none_str {x : PySem.Str} {t : Tok} : EqV σ .none (.str x t) false := fun A B L s hu ho => SeqAt.EqAt.none_str _ _
theorem EqV.str_none {x : PySem.Str} {t : Tok} : EqV σ (.str x t) .none false := fun A B L s hu ho => SeqAt.EqAt.str_none _ _
theorem EqV.list_none {a : Addr} {vs : List Value} (h : Has σ a (.list vs)) : EqV σ (.ref a) .none false := fun A B L s hu ho => SeqAt.EqAt.list_none (ho.has h).list hu
theorem EqV.none_none : EqV σ .none .none true := fun A B L s hu ho => SeqAt.EqAt.same _
theorem C5 {a : Addr} {vs : List Value} {x : PySem.Str} {t : Tok} {Q : Value → St → Prop} (ha : Has σ a (.list vs)) (h : Q (.bool false) σ) : V c L n (compareOp .Eq (.ref a) (.str x t)) Q σ :=
 fun A B s hr hb ho hg => SeqAt.RcAt.list_str _ _ (ho.has ha).list hr.units _ _ _ _ ⟨hg, rfl, σ, ho, h⟩
theorem Rm.in1' {A : Around} (h : Rm n A) : A.in1.units < cLine := by
 obtain ⟨h1, h2, h3⟩ := h
 show A.units + 1 < _; lia
theorem Fy {a : Addr} {vs : List Value} {x : Value} {Q : Value → St → Prop} (g : Value → Bool) (ha : Has σ a (.list vs)) (he : ∀ y ∈ vs, EqV σ y x (g y)) (h : Q (.bool (vs.any g)) σ) : V c L n (compareOp .In x (.ref a)) Q σ :=
 fun A B s hr hb ho hg => SeqAt.in_listAt g (ho.has ha).list (fun y hy => he y (by simpa using hy) _ B L s hr.in1' ho) (by simpa using ⟨hg, rfl, σ, ho, h⟩)
theorem ET {a : Addr} {vs : List Value} {x : Value} {Q : Value → St → Prop} (g : Value → Bool) (ha : Has σ a (.list vs)) (he : ∀ y ∈ vs, EqV σ y x (g y)) (h : Q (.bool (!vs.any g)) σ) : V c L n (compareOp .NotIn x (.ref a)) Q σ :=
 fun A B s hr hb ho hg => SeqAt.notIn_listAt g (ho.has ha).list (fun y hy => he y (by simpa using hy) _ B L s hr.in1' ho) (by simpa using ⟨hg, rfl, σ, ho, h⟩)
theorem Ff {a : Addr} {vs : List Value} {x : Value} {Q : Value → St → Prop} (g : Value → Bool) (ha : Has σ a (.tup vs)) (he : ∀ y ∈ vs, EqV σ y x (g y)) (h : Q (.bool (vs.any g)) σ) : V c L n (compareOp .In x (.ref a)) Q σ :=
 fun A B s hr hb ho hg => SeqAt.in_tupleAt g (ho.has ha).tup (fun y hy => he y (by simpa using hy) _ B L s hr.in1' ho) (by simpa using ⟨hg, rfl, σ, ho, h⟩)
theorem V_notin_tup {a : Addr} {vs : List Value} {x : Value} {Q : Value → St → Prop} (g : Value → Bool) (ha : Has σ a (.tup vs)) (he : ∀ y ∈ vs, EqV σ y x (g y)) (h : Q (.bool (!vs.any g)) σ) : V c L n (compareOp .NotIn x (.ref a)) Q σ :=
 fun A B s hr hb ho hg => SeqAt.notIn_tupleAt g (ho.has ha).tup (fun y hy => he y (by simpa using hy) _ B L s hr.in1' ho) (by simpa using ⟨hg, rfl, σ, ho, h⟩)
theorem Gv {a b : Addr} {vs ws : List Value} {Q : Value → St → Prop} (g : Nat → Bool) (ha : Has σ a (.list vs)) (hb' : Has σ b (.list ws)) (hl : vs.length = ws.length) (he : ∀ j (h1 : j < vs.length) (h2 : j < ws.length), EqV σ vs[j] ws[j] (g j))
  (h : Q (.bool ((List.range vs.length).all g)) σ) : V c L n (compareOp .Eq (.ref a) (.ref b)) Q σ :=
 fun A B s hr hb ho hg => SeqAt.RcAt.lists (ho.has ha).list (ho.has hb').list (by simpa using hl) hr.units (fun j h1 h2 => by simpa using he j (by simpa using h1) (by simpa using h2) _ B L s hr.in1' ho) _ _ _ _ (by simpa using ⟨hg, rfl, σ, ho, h⟩)
theorem DM {a b : Addr} {vs ws : List Value} {Q : Value → St → Prop} (ha : Has σ a (.list vs)) (hb' : Has σ b (.list ws)) (hl : vs.length ≠ ws.length) (h : Q (.bool false) σ) : V c L n (compareOp .Eq (.ref a) (.ref b)) Q σ :=
 fun A B s hr hb ho hg => SeqAt.RcAt.lists_lengths (ho.has ha).list (ho.has hb').list (by simpa using hl) hr.units _ _ _ _ ⟨hg, rfl, σ, ho, h⟩
theorem Gw {a b : Addr} {vs ws : List Value} {Q : Value → St → Prop} (g : Nat → Bool) (ha : Has σ a (.list vs)) (hb' : Has σ b (.list ws)) (hl : vs.length = ws.length) (he : ∀ j (h1 : j < vs.length) (h2 : j < ws.length), EqV σ vs[j] ws[j] (g j))
  (h : Q (.bool (!(List.range vs.length).all g)) σ) : V c L n (compareOp .NotEq (.ref a) (.ref b)) Q σ :=
 fun A B s hr hb ho hg => SeqAt.RcNeAt.lists (ho.has ha).list (ho.has hb').list (by simpa using hl) hr.units (fun j h1 h2 => by simpa using he j (by simpa using h1) (by simpa using h2) _ B L s hr.in1' ho) _ _ _ _ (by simpa using ⟨hg, rfl, σ, ho, h⟩)
theorem DN {a b : Addr} {vs ws : List Value} {Q : Value → St → Prop} (ha : Has σ a (.list vs)) (hb' : Has σ b (.list ws)) (hl : vs.length ≠ ws.length) (h : Q (.bool true) σ) : V c L n (compareOp .NotEq (.ref a) (.ref b)) Q σ :=
 fun A B s hr hb ho hg => SeqAt.RcNeAt.lists_lengths (ho.has ha).list (ho.has hb').list (by simpa using hl) hr.units _ _ _ _ ⟨hg, rfl, σ, ho, h⟩
theorem Cw {a : Addr} {vs : List Value} {x : Value} {Q : Value → St → Prop} (hu : Upd m a (.list vs) (.list (vs ++ [x])) m') (hl : vs.length ≤ sizeLine) (h : Q .none ⟨l, m', f, q⟩) : V c L n (call (.builtin "list.append") [.ref a, x]) Q ⟨l, m, f, q⟩ :=
 fun A B s hr hb ho hg => wpAny_list_append_plain (ho.has (.inl hu.mem)).plain (fun h' hp hs => ⟨hg, rfl, _, ho.setMut hu (At.ofPlain (by simpa using hp)) hs.extBut, h⟩) (by simpa using hl)
theorem Ec {a : Addr} {vs : List Value} {k : Int} {u : Tok} {x : Value} {Q : Value → St → Prop} (ha : Has σ a (.list vs)) (h0 : k < 0) (hk : -(vs.length : Int) ≤ k) (hk2 : -(2 ^ 62) ≤ k) (hx : vs[(k + vs.length).toNat]? = some x) (h : Q x σ) :
  V c L n (getItem (.ref a) (.int k u)) Q σ :=
 fun A B s hr hb ho hg => wpAny_getItem_list_neg (ho.has ha).list h0 (by simpa using hk) (by lia) (by simpa using hx) ⟨hg, rfl, σ, ho, h⟩
theorem H1 {a : Addr} {vs : List Value} {Q : Bool → St → Prop} (ha : Has σ a (.list vs)) (hl : vs.length < 2 ^ 62) (h : Q (!vs.isEmpty) σ) : V c L n (truthy (.ref a)) Q σ :=
 fun A B s hr hb ho hg => wpAny_truthy_list (ho.has ha).list (by rw [List.size_toArray]; lia) ⟨hg, rfl, σ, ho, by cases vs <;> exact h⟩
inductive AA {α β : Type} (R : α → β → Prop) : List α → List β → Prop
 | nil : AA R [] []
 | cons {a b as bs} (h : R a b) (t : AA R as bs) : AA R (a :: as) (b :: bs)
theorem AA.mono {α β : Type} {R R' : α → β → Prop} {as : List α} {bs : List β} (x : AA R as bs) (h : ∀ a ∈ as, ∀ b, R a b → R' a b) : AA R' as bs := by
 induction x with
 | nil => exact .nil
 | cons h1 t ih => exact .cons (h _ List.mem_cons_self _ h1) (ih fun a ha => h a (List.mem_cons_of_mem _ ha))
theorem AA.append {α β : Type} {R : α → β → Prop} {as as' : List α} {bs bs' : List β} (x : AA R as bs) (y : AA R as' bs') : AA R (as ++ as') (bs ++ bs') := by
 induction x with
 | nil => exact y
 | cons h1 t ih => exact .cons h1 ih
theorem AA.length {α β : Type} {R : α → β → Prop} {as : List α} {bs : List β} (x : AA R as bs) : as.length = bs.length := by
 induction x with
 | nil => rfl
 | cons h1 t ih => simp [ih]
theorem AA.get {α β : Type} {R : α → β → Prop} {as : List α} {bs : List β} (x : AA R as bs) : ∀ {i : Nat} {b : β}, bs[i]? = some b → ∃ a, as[i]? = some a ∧ R a b := by
 induction x with
 | nil => intro i b h; simp at h
 | cons h1 t ih =>
  intro i b h
  cases i with
  | zero => simp at h; subst h; exact ⟨_, rfl, h1⟩
  | succ i => simpa using ih (by simpa using h)
theorem AA.get' {α β : Type} {R : α → β → Prop} {as : List α} {bs : List β} (x : AA R as bs) : ∀ {i : Nat} {a : α}, as[i]? = some a → ∃ b, bs[i]? = some b ∧ R a b := by
 induction x with
 | nil => intro i b h; simp at h
 | cons h1 t ih =>
  intro i b h
  cases i with
  | zero => simp at h; subst h; exact ⟨_, rfl, h1⟩
  | succ i => simpa using ih (by simpa using h)
theorem AA.map {α β γ : Type} {R : α → β → Prop} {R' : γ → β → Prop} (g : α → γ) {as : List α} {bs : List β} (x : AA R as bs) (h : ∀ a ∈ as, ∀ b, R a b → R' (g a) b) : AA R' (as.map g) bs := by
 induction x with
 | nil => exact .nil
 | cons h1 t ih => exact .cons (h _ List.mem_cons_self _ h1) (ih fun a ha => h a (List.mem_cons_of_mem _ ha))
theorem Fg : ∀ (ts : List Expr) (K K' : Bool → St → Prop) (σ : St), (∀ b σ', K b σ' → K' b σ') → Ifs c L n e ts K σ → Ifs c L n e ts K' σ
 | [], K, K', σ, hk, h => hk _ _ h
 | t :: r, K, K', σ, hk, h => by
  refine An h fun b σ' h' => ?_
  cases b with
  | true => exact Fg r K K' σ' hk h'
  | false => exact hk _ _ h'
theorem Fh {C : Addr} {e' : Env} {elt : Expr} {g : Comprehension} {K : List Value → St → Prop} {N : Nat} {P : Nat → Value → Prop} (G : St → Prop) (p : Nat → Bool) (R : Nat → Value → Led → Prop) {cap : Nat} (hN : N < cap)
  (hR : ∀ i y f f', (∀ x ∈ f, x ∈ f') → R i y f → R i y f') (h0 : G σ)
  (turn : ∀ i v σ, i < N → P i v → G σ → V c C n (assign g.target e' v) (fun _ σ₃ => Ifs c C n e' g.ifs (fun ok σ₄ => ok = p i ∧
   (ok = true → V c C n (eval elt e') (fun y σ' => G σ' ∧ (∀ x ∈ σ.fz, x ∈ σ'.fz) ∧ R i y σ'.fz) σ₄) ∧ (ok = false → G σ₄ ∧ ∀ x ∈ σ.fz, x ∈ σ₄.fz)) σ₃) σ)
  (fin : ∀ ys σ', G σ' → AA (fun i y => R i y σ'.fz) ((List.range N).filter p) ys → K ys σ') : Bw c C n e' g (CB c C n e' elt []) cap K N P σ := by
 refine ⟨1, fun i acc σ₂ => i ≤ N ∧ G σ₂ ∧ AA (fun i y => R i y σ₂.fz) ((List.range i).filter p) acc, ⟨Nat.zero_le _, h0, AA.nil⟩, ?_, ?_, fun acc σ₂ h => fin acc σ₂ h.2.1 h.2.2⟩
 ·intro i acc σ₂ h
  have := h.2.2.length
  have h2 : ((List.range i).filter p).length ≤ i := by simpa using List.length_filter_le p (List.range i)
  have := h.1
  lia
 ·intro i acc v σ₂ hi hP h
  refine An (turn i v σ₂ hi hP h.2.1) fun _ σ₃ h₃ => ?_
  refine Fg _ _ _ _ (fun ok σ₄ h₄ => ?_) h₃
  obtain ⟨hok, ht, hf⟩ := h₄
  cases ok with
  | true =>
   rw [if_pos rfl]
   refine ⟨Nat.le_refl _, An (ht rfl) fun y σ' hy => ⟨hi, hy.1, ?_⟩⟩
   rw [List.range_succ, List.filter_append]
   have e1 : [i].filter p = [i] := by simp [← hok]
   rw [e1]
   exact (h.2.2.mono fun a _ b hab => hR a b _ _ hy.2.1 hab).append (.cons hy.2.2 .nil)
  | false =>
   rw [if_neg Bool.false_ne_true]
   refine ⟨hi, (hf rfl).1, ?_⟩
   rw [List.range_succ, List.filter_append]
   have e1 : [i].filter p = [] := by simp [← hok]
   rw [e1, List.append_nil]
   exact h.2.2.mono fun a _ b hab => hR a b _ _ (hf rfl).2 hab
theorem Fz {C : Addr} {e' : Env} {elt : Expr} {g g2 : Comprehension} {K : List Value → St → Prop} {N : Nat} {P : Nat → Value → Prop} (G : St → Prop) (G2 : Nat → St → Prop) (M : Nat → Nat) (R : Nat → Nat → Value → Led → Prop) {b cap : Nat}
  (hM : ∀ i, i < N → M i ≤ b) (hN : N * b + b + 1 ≤ cap)
  (hR : ∀ i j y f f', (∀ x ∈ f, x ∈ f') → R i j y f → R i j y f') (h0 : G σ) (hG : ∀ i σ, G2 i σ → G σ)
  (turn : ∀ i v σ, i < N → P i v → G σ → V c C n (assign g.target e' v) (fun _ σ₃ => Ifs c C n e' g.ifs (fun ok σ₄ => ok = true ∧ V c C n (eval g2.iter e') (fun xv σ₅ => G2 i σ₅ ∧ (∀ x ∈ σ.fz, x ∈ σ₅.fz) ∧ ∃ P' ds, BP c σ₅ xv (M i) P' ds ∧ Qc σ₅ ds ∧
   ∀ j v' σ₆, j < M i → P' j v' → G2 i σ₆ → V c C n (assign g2.target e' v') (fun _ σ₇ => Ifs c C n e' g2.ifs (fun ok σ₈ => ok = true ∧ V c C n (eval elt e') (fun y σ' => G2 i σ' ∧ (∀ x ∈ σ₆.fz, x ∈ σ'.fz) ∧ R i j y σ'.fz) σ₈) σ₇) σ₆) σ₄) σ₃) σ)
  (fin : ∀ ys σ', G σ' → AA (fun ij y => R ij.1 ij.2 y σ'.fz) ((List.range N).flatMap fun i => (List.range (M i)).map (Prod.mk i)) ys → K ys σ') : Bw c C n e' g (CB c C n e' elt [g2]) cap K N P σ := by
 refine ⟨b + 1, fun i acc σ₂ => i ≤ N ∧ acc.length ≤ i * b ∧ G σ₂ ∧ AA (fun ij y => R ij.1 ij.2 y σ₂.fz) ((List.range i).flatMap fun i => (List.range (M i)).map (Prod.mk i)) acc, ⟨Nat.zero_le _, Nat.zero_le _, h0, AA.nil⟩, ?_, ?_, fun acc σ₂ h => fin acc σ₂ h.2.2.1 h.2.2.2⟩
 ·intro i acc σ₂ h
  have h1 : i * b ≤ N * b := Nat.mul_le_mul_right b h.1
  have := h.2.1
  lia
 ·intro i acc v σ₂ hi hP h
  refine An (turn i v σ₂ hi hP h.2.2.1) fun _ σ₃ h₃ => ?_
  refine Fg _ _ _ _ (fun ok σ₄ h₄ => ?_) h₃
  obtain ⟨hok, h₄⟩ := h₄
  subst hok
  rw [if_pos rfl]
  refine An h₄ fun xv σ₅ h₅ => ?_
  refine Ae (fun G_ hG_ => ?_)
  obtain ⟨g2, f2, P', ds, hs, hd, turn2⟩ := h₅
  refine hG_ ?_
  clear hG_ G_
  refine ⟨_, P', ds, hs, hd, ?_⟩
  refine Fh (fun σ' => G2 i σ' ∧ ∀ x ∈ σ₅.fz, x ∈ σ'.fz) (fun _ => true) (R i) (by have := hM i hi; exact Nat.succ_le_succ (by assumption)) (hR i) ⟨g2, fun _ x => x⟩ (fun j v' σ₆ hj hP' h₆ => ?_) (fun ys σ' h' hys => ?_)
  ·refine An (turn2 j v' σ₆ hj hP' h₆.1) fun _ σ₇ h₇ => ?_
   refine Fg _ _ _ _ (fun ok σ₈ h₈ => ?_) h₇
   obtain ⟨hok, h₈⟩ := h₈
   subst hok
   refine ⟨rfl, fun _ => An h₈ fun y σ' hy => ⟨⟨hy.1, fun x hx => hy.2.1 x (h₆.2 x hx)⟩, hy.2.1, hy.2.2⟩, fun q => nomatch q⟩
  ·have ft : (List.range (M i)).filter (fun _ => true) = List.range (M i) := List.filter_eq_self.mpr fun _ _ => rfl
   rw [ft] at hys
   have hlen := hys.length
   rw [List.length_range] at hlen
   refine ⟨hi, ?_, hG _ _ h'.1, ?_⟩
   ·have := hM i hi
    have h2 := h.2.1
    rw [List.length_append, Nat.add_mul]
    clear hN; lia
   ·rw [List.range_succ, List.flatMap_append]
    refine (h.2.2.2.mono fun a _ b hab => hR _ _ _ _ _ (fun x hx => h'.2 x (f2 x hx)) hab).append ?_
    simpa using hys.map (Prod.mk i) fun a _ b hab => hab
theorem A6 {vs : List Value} {Q : Value → St → Prop} (hl : vs.length ≤ 64) (h : ∀ a, Q (.ref a) ⟨l, m, (a, .tup vs) :: f, q⟩) : V c L n (newTuple vs) Q ⟨l, m, f, q⟩ := Kz (by rw [sizeLine_eq]; exact Nat.le_trans (by assumption) (by decide)) h
theorem Ao {vs : List Value} {Q : Value → St → Prop} (hl : vs.length ≤ 64) (h : ∀ a, Q (.ref a) ⟨l, (a, .list vs) :: m, f, q⟩) : V c L n (newList vs) Q ⟨l, m, f, q⟩ := LK (by rw [sizeLine_eq]; exact Nat.le_of_lt (Nat.lt_of_le_of_lt hl (by decide))) h
theorem BP.upTo {r : Addr} {k : Nat} (hk : k < 2 ^ 62) (ha : Has σ r (DL 0 (k : Nat) 1)) : BP c σ (.ref r) k (fun i v => ∃ t, v = .int (i : Nat) t) [] := by
 have h := BP.range (c := c) (small_one (a := 0) (b := (k : Nat)) (by simp) (by simp) (by simp) (by lia)) ha
 have e1 : (Builtin.Range.rangeSize 0 (k : Nat) 1).toNat = k := by
  unfold Builtin.Range.rangeSize
  split <;> split <;> first | lia | (simp; lia)
 rw [e1] at h
 simpa using h
theorem BP.fromTo {r : Addr} {a b : Nat} (hab : a < 2 ^ 62) (hb : b < 2 ^ 62) (ha : Has σ r (DL (a : Nat) (b : Nat) 1)) : BP c σ (.ref r) (b - a) (fun i v => ∃ t, v = .int ((a : Int) + (i : Nat)) t) [] := by
 have h := BP.range (c := c) (small_one (a := (a : Nat)) (b := (b : Nat)) (by lia) (by lia) (by lia) (by lia)) ha
 have e1 : (Builtin.Range.rangeSize (a : Nat) (b : Nat) 1).toNat = b - a := by
  unfold Builtin.Range.rangeSize
  split <;> split <;> first | lia | (simp; lia)
 rw [e1] at h
 simpa using h
theorem BP.down {r : Addr} {a b : Int} {k : Nat} (hk : b + k = a) (hb : -(2 ^ 61) ≤ b) (hb2 : a < 2 ^ 61) (ha : Has σ r (DL a b (-1))) : BP c σ (.ref r) k (fun i v => ∃ t, v = .int (a - (i : Nat)) t) [] := by
 have e1 : Builtin.Range.rangeSize a b (-1) = k := by
  unfold Builtin.Range.rangeSize
  split <;> split <;> first | lia | (simp; lia)
 have hs : Builtin.Range.small a b (-1) = true := by
  unfold Builtin.Range.small
  rw [e1]
  simp only [Builtin.Range.rangeFitsLong, Bool.and_eq_true, Bool.or_eq_true, decide_eq_true_eq, beq_iff_eq, show ¬ (-1 : Int) > 0 by decide, if_false]
  clear e1; omega
 have h := BP.range (c := c) hs ha
 rw [e1] at h
 have e2 : (fun (i : Nat) (v : Value) => ∃ t, v = .int (a + i * (-1)) t) = fun i v => ∃ t, v = .int (a - (i : Nat)) t := by
  funext i v
  rw [show a + (i : Int) * (-1) = a - (i : Nat) from by lia]
 rw [e2] at h
 simpa using h
theorem A9 {p : Prop} [Decidable p] {X Y : Prop} (h : p) (x : X) : if p then X else Y := by rw [if_pos h]; exact x
theorem Ad {p : Prop} [Decidable p] {X Y : Prop} (h : ¬ p) (x : Y) : if p then X else Y := by rw [if_neg h]; exact x
theorem CH {g : Comprehension} (h : g.is_async = 0) : ∀ x ∈ [g], x.is_async = 0 := fun x hx => by rw [List.mem_singleton.mp hx]; exact h
theorem Q2 {g g' : Comprehension} (h : g.is_async = 0) (h' : g'.is_async = 0) : ∀ x ∈ [g, g'], x.is_async = 0 := fun x hx => by
 rcases List.mem_cons.mp hx with rfl | hx
 ·exact h
 ·rw [List.mem_singleton.mp hx]; exact h'
theorem AQ {y : Str} {py spos : Pos} {elt : Expr} {gens : List Comprehension} {scope : Scope} {pos : Pos} {Q : Flow → St → Prop} (hk : Ag e L KL CL) (hy : (y, NameKind.cell) ∈ KL)
  (h : V c L n (eval (.ListComp elt gens scope pos) e) (fun v σ' => V c L n (storeName e y v) (fun _ σ'' => Q .next σ'') σ') σ) : V c L n (exec (.Assign [.Name y py] (.ListComp elt gens scope pos) spos) e) Q σ := by
 refine A3 h ?_
 show (pure (e.blockKind == .function && e.kindOf y == some .local && py.line == pos.line && !(scope.names.any fun (n, k) => n == y && (k == .local || k == .cell))) : Sem Bool) = _
 rw [hk.nm _ _ hy, show ((some NameKind.cell : Option NameKind) == some NameKind.local) = false from rfl, Bool.and_false, Bool.false_and, Bool.false_and]
theorem AH {pos : Pos} {id : String} {args : List (Bool × Sem Value)} {Q : Value → St → Prop}
  (h : V c L n (spliced args) (fun vs σ₁ => V c L n (call (.builtin id) vs) Q σ₁) σ) (hp : args.any (·.1) = false := by with_unfolding_all rfl) : V c L n (callWith pos (.builtin id) [] args []) Q σ := DJ h hp
theorem Ah {pos : Pos} {id : String} {x : Value} {args : List (Bool × Sem Value)} {Q : Value → St → Prop}
  (h : V c L n (spliced args) (fun vs σ₁ => V c L n (call (.builtin id) (x :: vs)) Q σ₁) σ) (hp : args.any (·.1) = false := by with_unfolding_all rfl) : V c L n (callWith pos (.builtin id) [x] args []) Q σ := DJ h hp
theorem AI {pos : Pos} {T : String} {args : List (Bool × Sem Value)} {Q : Value → St → Prop}
  (h : V c L n (spliced args) (fun vs σ₁ => V c L n (call (.type T) vs) Q σ₁) σ) (hp : args.any (·.1) = false := by with_unfolding_all rfl) : V c L n (callWith pos (.type T) [] args []) Q σ := Jh h hp
theorem Jj {pos : Pos} {a : Addr} {o : Obj} {fd : FuncData} {args : List (Bool × Sem Value)} {Q : Value → St → Prop} (hd : o.data = .func fd) (ha : c.b.get? a = some o)
  (h : V c L n (spliced args) (fun vs σ₁ => V c L n (call (.ref a) vs) Q σ₁) σ) (hp : args.any (·.1) = false := by with_unfolding_all rfl) : V c L n (callWith pos (.ref a) [] args []) Q σ := Ky hd ha h hp
theorem Bj {K : Bool → St → Prop} (h : K true σ) : Ifs c L n e [] K σ := h
theorem Bl {t : Expr} {r : List Expr} {K : Bool → St → Prop} (h : V c L n (isTrue t e (eval t e)) (fun b σ' => if b = true then Ifs c L n e r K σ' else K false σ') σ) : Ifs c L n e (t :: r) K σ := h
theorem Ac {value slice : Expr} {a : Addr} {vs : List Value} {k : Nat} {u : Tok} {x : Value} {Q : Value → St → Prop} (ha : Has σ a (.list vs)) (hx : vs[k]? = some x) (hk : k < 2 ^ 62) (h : Q x σ) :
  V c L n (subscriptTail value slice (.ref a) (.int (k : Nat) u)) Q σ := DS ha (by simp) (by lia) (by simpa using hx) h
theorem Hw {a : Int} {t : Tok} {Q : Value → St → Prop} (h : ∀ k, Q (.int (-a) k) σ) : V c L n (unaryOp .USub (.int a t)) Q σ := GQ (fun k => .int (-a) k) (fun _ _ _ _ h => PyProof.Rows.neg_int h) h
end
noncomputable def CR (sep : List Nat) : List (List Nat) → List Nat
 | [] => []
 | [x] => x
 | x :: y :: r => x ++ sep ++ CR sep (y :: r)
theorem Ey (sep : List Nat) : ∀ xs : List (List Nat), PySem.Str.join (S sep) (xs.map S) = S (CR sep xs)
 | [] => rfl
 | [x] => rfl
 | x :: y :: r => by
  have ih := Ey sep (y :: r)
  show S x ++ S sep ++ PySem.Str.join (S sep) ((y :: r).map S) = _
  rw [ih, GT, GT]
  rfl
theorem Dp : ∀ xs : List (List Nat), CR [] xs = xs.flatten
 | [] => rfl
 | [x] => by simp [CR]
 | x :: y :: r => by
  show x ++ [] ++ CR [] (y :: r) = _
  rw [Dp (y :: r), List.append_nil]; rfl
noncomputable abbrev Bk (xs : List (List Nat)) (vs : List Value) : Prop := AA (fun x v => ∃ t, v = Value.str (S x) t) xs vs
theorem Bk.are {xs : List (List Nat)} {vs : List Value} (h : Bk xs vs) : StrsAre vs (xs.map S) := by
 induction h with
 | nil => exact .nil
 | cons h1 t ih => obtain ⟨u, rfl⟩ := h1; exact .cons _ _ ih
theorem Hx (xs : List (List Nat)) : ((xs.map S).map PySem.Str.length).sum = (xs.map List.length).sum := by
 induction xs with
 | nil => rfl
 | cons x r ih => simp only [List.map_cons, List.sum_cons]; rw [ih, Bv]
section
variable {c : Cx} {L : Addr} {n : Nat} {σ : St} {α β : Type} {e : Env} {KL : List (Str × NameKind)} {CL out : List (Str × Addr)} {l l' : Loc} {m m' f q : Led}
theorem Ez {x y : List Nat} {t u : Tok} {Q : Value → St → Prop} (hl : x.length + y.length ≤ sizeLine) (h : ∀ k, Q (.str (S (x ++ y)) k) σ) : V c L n (inplaceOp .Add (.str (S x) t) (.str (S y) u)) Q σ :=
 Go (fun v => ∃ k, v = .str (S (x ++ y)) k) (fun _ _ _ _ h => PyProof.Rows.iadd_str (fun k tk => by rw [GT]; exact h _ _ ⟨k, rfl⟩) (by rw [Bv, Bv]; exact hl)) fun _ ⟨k, hk⟩ => hk ▸ h k
theorem K4 {a : Addr} {vs : List Value} {sep : List Nat} {xs : List (List Nat)} {u : Tok} {Q : Value → St → Prop} (ha : Has σ a (.list vs)) (hv : Bk xs vs) (hsz : (xs.map List.length).sum + xs.length * sep.length ≤ 16777216)
  (h : ∀ t, Q (.str (S (CR sep xs)) t) σ) : V c L n (call (.builtin "str.join") [.str (S sep) u, .ref a]) Q σ :=
 fun A B s hr hb ho hg => PyProof.Rows.join_list (ho.has ha).list (by simpa using hv.are) (by rw [Hx, List.length_map, Bv]; exact hsz) fun t k => ⟨hg, rfl, σ, ho, by
  rw [show Txt.join (S sep) (xs.map S) = S (CR sep xs) from (StrLaws.glued_eq_join _ _).trans (Ey sep xs)]; exact h t⟩
theorem FA {x y z : Expr} {op1 op2 : CmpOp} {pos : Pos} {w : Sem Value} {Q : Bool → St → Prop}
  (h : V c L n (eval x e) (fun a σ₁ => V c L n (eval y e) (fun b σ₂ => V c L n (compareOp op1 a b) (fun v σ₃ => V c L n (truthy v) (fun t σ₄ => if t = true then
   V c L n (eval z e) (fun b' σ₅ => V c L n (compareOp op2 b b') (fun v' σ₆ => V c L n (truthy v') Q σ₆) σ₅) σ₄ else Q false σ₄) σ₃) σ₂) σ₁) σ)
  (hm : behindInMarks op2 z = false := by with_unfolding_all rfl) : V c L n (isTrue (.Compare x [op1, op2] [y, z] pos) e w) Q σ := by
 rw [arm_isTrue_Compare]
 show V c L n (do let a ← eval x e; testChain pos a [op1, op2] [eval y e, markedBehindIn op2 z (eval z e)]) Q σ
 rw [markedBehindIn_of_false hm]
 refine Ay (An h fun a σ₁ h₁ => ?_)
 show V c L n (do
  let rv ← holding [a] (eval y e)
  standAt pos
  let c ← holding [a, rv] (compareOp op1 a rv)
  release [a, rv] [c]
  if ← holding [c, rv] (truthy c) then testChain pos rv [op2] [eval z e] else pure false) Q σ₁
 refine Ay (AS (An h₁ fun b σ₂ h₂ => Ay (Bn (Ay (AS (An h₂ fun v σ₃ h₃ => Ay ?_))))))
 have rel : ∀ (vs keep : List Value) (Q : Unit → St → Prop) (σ : St), Q () σ → V c L n (release vs keep) Q σ := fun vs keep Q σ hq => AE () (fun _ _ _ _ h => wpAny_release' h) hq
 refine rel _ _ _ _ (Ay (AS (An h₃ fun t σ₄ h₄ => ?_)))
 cases t with
 | false => exact CM h₄
 | true =>
  rw [if_pos rfl] at h₄ ⊢
  show V c L n (do let rv ← holding [b] (eval z e); standAt pos; let c ← operate [b, rv] (compareOp op2 b rv); holding [c] (truthy c)) Q σ₄
  refine Ay (AS (An h₄ fun b' σ₅ h₅ => Ay (Bn (Ay ?_))))
  exact fun A B s hr hb ho hg => wpAny_operating (An h₅ (fun v σ₃ h₃ => AS h₃) A B s hr hb ho hg)
theorem LN {a : Addr} {name : PySem.Str} {ps : List PySem.Str} {body : List Stmt} {scope : Scope} {pos : Pos} {args : List (Bool × Sem Value)} {Q : Value → St → Prop} (F : D0 c a name ps body scope)
  (h : V c L n (spliced args) (fun vs σ₁ => V c L n (call (.ref a) vs) Q σ₁) σ) (hp : args.any (·.1) = false := by with_unfolding_all rfl) : V c L n (callWith pos (.ref a) [] args []) Q σ := by
 refine Ae (fun G_ hG_ => ?_)
 obtain ⟨o, fd, ho, hd, _⟩ := F.at'
 refine hG_ ?_
 clear hG_ G_
 exact Jj hd ho h hp
theorem DU {a : Addr} {name : PySem.Str} {ps : List PySem.Str} {body : List Stmt} {scope : Scope} {Q : Value → St → Prop} (hc : c.Ok) (hk : Ag e L KL CL) (hx : (name, NameKind.globalImplicit) ∈ KL) (F : D0 c a name ps body scope) (h : Q (.ref a) σ) : V c L n (loadName e name) Q σ :=
 JX hc hk hx F.glob h
theorem Hp.more {fn : Value} {vs : List Value} {fz : Led} {post : Value → Led → Prop} {k : Nat} (h : Hp c n fn vs fz post) (hk : n ≤ k) : Hp c k fn vs fz post := fun A s hr => h A s (hr.less hk)
theorem K5 {ov : Value} {R : String → String → Prop} (ht : Ty σ ov "str") (h : R "str" "str.join") : ∃ T id, PlainAttrs T ∧ Slot T (ofString "join") id ∧ typeOf (.builtin id) = pure (.type "method_descriptor") ∧ Ty σ ov T ∧ R T id :=
 ⟨_, _, PySem.F.plainAttrs_str, PySem.F.slot_str_join, PySem.F.type_str_join, ht, h⟩
theorem Cy {ov : Value} {R : String → String → Prop} (ht : Ty σ ov "list") (h : R "list" "list.append") : ∃ T id, PlainAttrs T ∧ Slot T (ofString "append") id ∧ typeOf (.builtin id) = pure (.type "method_descriptor") ∧ Ty σ ov T ∧ R T id :=
 ⟨_, _, PySem.F.plainAttrs_list, PySem.F.slot_list_append, PySem.F.type_list_append, ht, h⟩
theorem Nu {ov : Value} {R : String → String → Prop} (ht : Ty σ ov "list") (h : R "list" "list.extend") : ∃ T id, PlainAttrs T ∧ Slot T (ofString "extend") id ∧ typeOf (.builtin id) = pure (.type "method_descriptor") ∧ Ty σ ov T ∧ R T id :=
 ⟨_, _, PySem.F.plainAttrs_list, PySem.F.slot_list_extend, PySem.F.type_list_extend, ht, h⟩
theorem M_replace {ov : Value} {R : String → String → Prop} (ht : Ty σ ov "str") (h : R "str" "str.replace") : ∃ T id, PlainAttrs T ∧ Slot T (ofString "replace") id ∧ typeOf (.builtin id) = pure (.type "method_descriptor") ∧ Ty σ ov T ∧ R T id :=
 ⟨_, _, PySem.F.plainAttrs_str, PySem.F.slot_str_replace, PySem.F.type_str_replace, ht, h⟩
theorem M_find {ov : Value} {R : String → String → Prop} (ht : Ty σ ov "str") (h : R "str" "str.find") : ∃ T id, PlainAttrs T ∧ Slot T (ofString "find") id ∧ typeOf (.builtin id) = pure (.type "method_descriptor") ∧ Ty σ ov T ∧ R T id :=
 ⟨_, _, PySem.F.plainAttrs_str, PySem.F.slot_str_find, PySem.F.type_str_find, ht, h⟩
theorem EU {test : Expr} {i j : Int} {k1 k2 : Nat} {p1 p2 pos : Pos} {Q : Value → St → Prop}
  (h : V c L n (isTrue test e (eval test e)) (fun b σ' => ∀ t, Q (.int (if b = true then i else j) t) σ') σ) : V c L n (eval (.IfExp test (.Constant (.int i) k1 p1) (.Constant (.int j) k2 p2) pos) e) Q σ :=
 BS (An h fun b σ' h' => by
  cases b with
  | true => rw [if_pos rfl]; exact AC h'
  | false => rw [if_neg Bool.false_ne_true]; exact AC h')
theorem LO (J : St → Prop) {st : Stmt} {rest : List Stmt} {Q : Flow → St → Prop} (h1 : V c L n (exec st e) (fun f σ' => f = .next ∧ J σ') σ) (h2 : ∀ σ', J σ' → V c L n (execs rest e) Q σ') : V c L n (execs (st :: rest) e) Q σ :=
 AB (An h1 fun f σ' ⟨hf, hj⟩ => by subst hf; exact h2 σ' hj)
theorem BV {elts : List Expr} {k : Nat} {tpos pos : Pos} {value : Expr} {a b : Str} {Q : Flow → St → Prop}
  (h : V c L n (eval value e) (fun v σ₁ => ∃ t x y, v = .ref t ∧ Has σ₁ t (.tup [x, y]) ∧ V c L n (storeName e b y) (fun _ σ₂ => V c L n (storeName e a x) (fun _ σ₃ => Q .next σ₃) σ₂) σ₁) σ)
  (hw : swappedStores [.Tuple elts k tpos] value e = pure (some [a, b])) (hs : swapsWithSole [.Tuple elts k tpos] value pos.line e = pure false := by with_unfolding_all rfl) :
  V c L n (exec (.Assign [.Tuple elts k tpos] value pos) e) Q σ := by
 refine Eb (names := [a, b]) (An h fun v σ₁ q => ?_) hw hs
 obtain ⟨t, x, y, h1, h2, h3⟩ := q
 refine ⟨t, [x, y], h1, h2, rfl, ?_⟩
 show V c L n (assignInOrder [bindName e b, bindName e a] [y, x]) _ _
 exact Ca (CQ (An h3 fun _ σ₂ h₂ => Ca (CQ (An h₂ fun _ σ₃ h₃ => Bf h₃))))
theorem N4 {elts : List Expr} {k : Nat} {tpos pos : Pos} {value : Expr} {a b d : Str} {Q : Flow → St → Prop}
  (h : V c L n (eval value e) (fun v σ₁ => ∃ t x y z, v = .ref t ∧ Has σ₁ t (.tup [x, y, z]) ∧ V c L n (storeName e d z) (fun _ σ₂ => V c L n (storeName e b y) (fun _ σ₃ => V c L n (storeName e a x) (fun _ σ₄ => Q .next σ₄) σ₃) σ₂) σ₁) σ)
  (hw : swappedStores [.Tuple elts k tpos] value e = pure (some [a, b, d])) (hs : swapsWithSole [.Tuple elts k tpos] value pos.line e = pure false := by with_unfolding_all rfl) :
  V c L n (exec (.Assign [.Tuple elts k tpos] value pos) e) Q σ := by
 refine Eb (names := [a, b, d]) (An h fun v σ₁ q => ?_) hw hs
 obtain ⟨t, x, y, z, h1, h2, h3⟩ := q
 refine ⟨t, [x, y, z], h1, h2, rfl, ?_⟩
 show V c L n (assignInOrder [bindName e d, bindName e b, bindName e a] [z, y, x]) _ _
 exact Ca (CQ (An h3 fun _ σ₂ h₂ => Ca (CQ (An h₂ fun _ σ₃ h₃ => Ca (CQ (An h₃ fun _ σ₄ h₄ => Bf h₄))))))
theorem AX {value slice : Expr} {x : List Nat} {t : Tok} {k : Nat} {u : Tok} {ch : Nat} {Q : Value → St → Prop} (hx : x[k]? = some ch) (hk : k < 2 ^ 62) (h : ∀ t, Q (.str (S [ch]) t) σ) :
  V c L n (subscriptTail value slice (.str (S x) t) (.int (k : Nat) u)) Q σ := by
 have hlt : k < x.length := (List.getElem?_eq_some_iff.mp hx).1
 refine CP (by simp) (by lia) ?_ h
 have e : seqIndex? (k : Int) x.length = some k := by
  have := seqIndex_of (k := (k : Int)) (n := x.length) (by simp) (by exact Int.ofNat_lt.mpr hlt)
  simpa using this
 rw [e]; exact hx
end
section
variable {c : Cx} {L : Addr} {n : Nat} {σ : St} {e : Env} {α : Type}
theorem V_box {t : Sem α} {Q : α → St → Prop} (h : ∀ K : α → St → Prop, (∀ v σ', Q v σ' → K v σ') → V c L n t K σ) : V c L n t Q σ := h Q fun _ _ h => h
theorem A7 {st : Stmt} {rest : List Stmt} {Q : Flow → St → Prop} (h : ∀ K : Flow → St → Prop, (∀ f σ', (match f with | .next => V c L n (execs rest e) Q σ' | f => Q f σ') → K f σ') → V c L n (exec st e) K σ) : V c L n (execs (st :: rest) e) Q σ :=
 AB (h _ fun f _ h => by cases f <;> exact h)
theorem Ci {test : Expr} {body orelse : List Stmt} {pos : Pos} {Q : Flow → St → Prop}
  (h : ∀ K : Bool → St → Prop, (∀ b σ', (if b = true then V c L n (execs body e) Q σ' else V c L n (execs orelse e) Q σ') → K b σ') → V c L n (isTrue test e (eval test e)) K σ) : V c L n (exec (.If test body orelse pos) e) Q σ :=
 Qd (h _ fun _ _ h => h)
inductive ForR (c : Cx) (L : Addr) (n : Nat) (e : Env) (target : Expr) (body orelse : List Stmt) (Q : Flow → St → Prop) (xv : Value) (σ₁ : St) : Prop
 | mk (N : Nat) (P : Nat → Value → Prop) (ds : List Addr) (h1 : BP c σ₁ xv N P ds) (h2 : Qc σ₁ ds) (I : Nat → St → Prop) (h3 : I 0 σ₁)
  (h4 : ∀ i v σ₂, i < N → P i v → I i σ₂ → ∀ K : Flow → St → Prop, (∀ f σ₄, (match f with | .next | .cont => I (i + 1) σ₄ | .brk => Q .next σ₄ | .ret v => Q (.ret v) σ₄) → K f σ₄) → V c L n (assign target e v) (fun _ σ₃ => V c L n (execs body e) K σ₃) σ₂)
  (h5 : ∀ σ₂, I N σ₂ → V c L n (execs orelse e) Q σ₂)
theorem Ed {target iter : Expr} {body orelse : List Stmt} {pos : Pos} {Q : Flow → St → Prop}
  (h : V c L n (eval iter e) (ForR c L n e target body orelse Q) σ)
  (hs : ∀ x, foldedSetIterable iter e x = pure x := by with_unfolding_all (intro _; rfl)) (ht : ∀ it v, letOwnedTupleGo target it v = pure () := by with_unfolding_all (intro _ _; rfl)) : V c L n (exec (.For target iter body orelse pos) e) Q σ :=
 V_for (An h fun xv σ₁ ⟨N, P, ds, h1, h2, I, h3, h4, h5⟩ => ⟨N, P, ds, h1, h2, I, h3, fun i v σ₂ a b d => h4 i v σ₂ a b d _ fun f _ h => by cases f <;> exact h, h5⟩) hs ht
theorem Cz (I : Nat → St → Prop) {test : Expr} {body orelse : List Stmt} {pos : Pos} {Q : Flow → St → Prop} (k : Nat) (h0 : I k σ)
  (turn : ∀ k σ, I k σ → ∀ K : Flow → St → Prop, (∀ f σ'', (match f with | .next | .cont => ∃ j, j < k ∧ I j σ'' | .brk => Q .next σ'' | .ret v => Q (.ret v) σ'') → K f σ'') → V c L n (isTrue test e (eval test e)) (fun b σ' => if b = true then V c L n (execs body e) K σ'
   else V c L n (execs orelse e) Q σ') σ) : V c L n (exec (.While test body orelse pos) e) Q σ :=
 V_while I k h0 fun k σ hI => turn k σ hI _ fun f _ h => by cases f <;> exact h
end
theorem mem1 {α : Type} {a b : α} {t : List α} : a ∈ b :: a :: t := .tail _ (.head _)
theorem mem2 {α : Type} {a b c : α} {t : List α} : a ∈ b :: c :: a :: t := .tail _ (.tail _ (.head _))
theorem mem3 {α : Type} {a b c d : α} {t : List α} : a ∈ b :: c :: d :: a :: t := .tail _ (.tail _ (.tail _ (.head _)))
theorem mem4 {α : Type} {a b c d e : α} {t : List α} : a ∈ b :: c :: d :: e :: a :: t := .tail _ (.tail _ (.tail _ (.tail _ (.head _))))
theorem mem5 {α : Type} {a b c d e f : α} {t : List α} : a ∈ b :: c :: d :: e :: f :: a :: t := .tail _ (.tail _ (.tail _ (.tail _ (.tail _ (.head _)))))
theorem mem6 {α : Type} {a b c d e f g : α} {t : List α} : a ∈ b :: c :: d :: e :: f :: g :: a :: t := .tail _ (.tail _ (.tail _ (.tail _ (.tail _ (.tail _ (.head _))))))
theorem mem7 {α : Type} {a b c d e f g h : α} {t : List α} : a ∈ b :: c :: d :: e :: f :: g :: h :: a :: t := .tail _ (.tail _ (.tail _ (.tail _ (.tail _ (.tail _ (.tail _ (.head _)))))))
theorem mem8 {α : Type} {a b c d e f g h i : α} {t : List α} : a ∈ b :: c :: d :: e :: f :: g :: h :: i :: a :: t := .tail _ (.tail _ (.tail _ (.tail _ (.tail _ (.tail _ (.tail _ (.tail _ (.head _))))))))
set_option genSizeOf false
inductive Ex3 {α0 α1 α2 : Type} (p : α0 → α1 → α2 → Prop) : Prop
 | mk (a : α0) (b : α1) (c : α2) (h : p a b c) : Ex3 p
inductive Ex4 {α0 α1 α2 α3 : Type} (p : α0 → α1 → α2 → α3 → Prop) : Prop
 | mk (a : α0) (b : α1) (c : α2) (d : α3) (h : p a b c d) : Ex4 p
inductive Ex5 {α0 α1 α2 α3 α4 : Type} (p : α0 → α1 → α2 → α3 → α4 → Prop) : Prop
 | mk (a : α0) (b : α1) (c : α2) (d : α3) (e : α4) (h : p a b c d e) : Ex5 p
inductive Ex6 {α0 α1 α2 α3 α4 α5 : Type} (p : α0 → α1 → α2 → α3 → α4 → α5 → Prop) : Prop
 | mk (a : α0) (b : α1) (c : α2) (d : α3) (e : α4) (f : α5) (h : p a b c d e f) : Ex6 p
inductive Ex7 {α0 α1 α2 α3 α4 α5 α6 : Type} (p : α0 → α1 → α2 → α3 → α4 → α5 → α6 → Prop) : Prop
 | mk (a : α0) (b : α1) (c : α2) (d : α3) (e : α4) (f : α5) (g : α6) (h : p a b c d e f g) : Ex7 p
inductive Ex8 {α0 α1 α2 α3 α4 α5 α6 α7 : Type} (p : α0 → α1 → α2 → α3 → α4 → α5 → α6 → α7 → Prop) : Prop
 | mk (a : α0) (b : α1) (c : α2) (d : α3) (e : α4) (f : α5) (g : α6) (h : α7) (h : p a b c d e f g h) : Ex8 p
inductive Ex9 {α0 α1 α2 α3 α4 α5 α6 α7 α8 : Type} (p : α0 → α1 → α2 → α3 → α4 → α5 → α6 → α7 → α8 → Prop) : Prop
 | mk (a : α0) (b : α1) (c : α2) (d : α3) (e : α4) (f : α5) (g : α6) (h : α7) (i : α8) (h : p a b c d e f g h i) : Ex9 p
inductive Ex10 {α0 α1 α2 α3 α4 α5 α6 α7 α8 α9 : Type} (p : α0 → α1 → α2 → α3 → α4 → α5 → α6 → α7 → α8 → α9 → Prop) : Prop
 | mk (a : α0) (b : α1) (c : α2) (d : α3) (e : α4) (f : α5) (g : α6) (h : α7) (i : α8) (j : α9) (h : p a b c d e f g h i j) : Ex10 p
inductive Ex11 {α0 α1 α2 α3 α4 α5 α6 α7 α8 α9 α10 : Type} (p : α0 → α1 → α2 → α3 → α4 → α5 → α6 → α7 → α8 → α9 → α10 → Prop) : Prop
 | mk (a : α0) (b : α1) (c : α2) (d : α3) (e : α4) (f : α5) (g : α6) (h : α7) (i : α8) (j : α9) (k : α10) (h : p a b c d e f g h i j k) : Ex11 p
inductive Ex12 {α0 α1 α2 α3 α4 α5 α6 α7 α8 α9 α10 α11 : Type} (p : α0 → α1 → α2 → α3 → α4 → α5 → α6 → α7 → α8 → α9 → α10 → α11 → Prop) : Prop
 | mk (a : α0) (b : α1) (c : α2) (d : α3) (e : α4) (f : α5) (g : α6) (h : α7) (i : α8) (j : α9) (k : α10) (l : α11) (h : p a b c d e f g h i j k l) : Ex12 p
inductive Ex13 {α0 α1 α2 α3 α4 α5 α6 α7 α8 α9 α10 α11 α12 : Type} (p : α0 → α1 → α2 → α3 → α4 → α5 → α6 → α7 → α8 → α9 → α10 → α11 → α12 → Prop) : Prop
 | mk (a : α0) (b : α1) (c : α2) (d : α3) (e : α4) (f : α5) (g : α6) (h : α7) (i : α8) (j : α9) (k : α10) (l : α11) (m : α12) (h : p a b c d e f g h i j k l m) : Ex13 p
inductive Ex14 {α0 α1 α2 α3 α4 α5 α6 α7 α8 α9 α10 α11 α12 α13 : Type} (p : α0 → α1 → α2 → α3 → α4 → α5 → α6 → α7 → α8 → α9 → α10 → α11 → α12 → α13 → Prop) : Prop
 | mk (a : α0) (b : α1) (c : α2) (d : α3) (e : α4) (f : α5) (g : α6) (h : α7) (i : α8) (j : α9) (k : α10) (l : α11) (m : α12) (n : α13) (h : p a b c d e f g h i j k l m n) : Ex14 p
inductive Q3 (p0 p1 p2 : Prop) : Prop
 | mk (h0 : p0) (h1 : p1) (h2 : p2) : Q3 p0 p1 p2
inductive Qg (p0 p1 p2 p3 : Prop) : Prop
 | mk (h0 : p0) (h1 : p1) (h2 : p2) (h3 : p3) : Qg p0 p1 p2 p3
inductive And5 (p0 p1 p2 p3 p4 : Prop) : Prop
 | mk (h0 : p0) (h1 : p1) (h2 : p2) (h3 : p3) (h4 : p4) : And5 p0 p1 p2 p3 p4
inductive And6 (p0 p1 p2 p3 p4 p5 : Prop) : Prop
 | mk (h0 : p0) (h1 : p1) (h2 : p2) (h3 : p3) (h4 : p4) (h5 : p5) : And6 p0 p1 p2 p3 p4 p5
inductive And7 (p0 p1 p2 p3 p4 p5 p6 : Prop) : Prop
 | mk (h0 : p0) (h1 : p1) (h2 : p2) (h3 : p3) (h4 : p4) (h5 : p5) (h6 : p6) : And7 p0 p1 p2 p3 p4 p5 p6
inductive And8 (p0 p1 p2 p3 p4 p5 p6 p7 : Prop) : Prop
 | mk (h0 : p0) (h1 : p1) (h2 : p2) (h3 : p3) (h4 : p4) (h5 : p5) (h6 : p6) (h7 : p7) : And8 p0 p1 p2 p3 p4 p5 p6 p7
inductive And9 (p0 p1 p2 p3 p4 p5 p6 p7 p8 : Prop) : Prop
 | mk (h0 : p0) (h1 : p1) (h2 : p2) (h3 : p3) (h4 : p4) (h5 : p5) (h6 : p6) (h7 : p7) (h8 : p8) : And9 p0 p1 p2 p3 p4 p5 p6 p7 p8
inductive And10 (p0 p1 p2 p3 p4 p5 p6 p7 p8 p9 : Prop) : Prop
 | mk (h0 : p0) (h1 : p1) (h2 : p2) (h3 : p3) (h4 : p4) (h5 : p5) (h6 : p6) (h7 : p7) (h8 : p8) (h9 : p9) : And10 p0 p1 p2 p3 p4 p5 p6 p7 p8 p9
noncomputable def IsI (i : Int) (v : Value) : Prop := ∃ t, v = .int i t
noncomputable def IsT (x : List Nat) (v : Value) : Prop := ∃ t, v = .str (S x) t
noncomputable def IsB (b : Bool) (v : Value) : Prop := v = .bool b
noncomputable def Ev (c : Cx) (L : Addr) (n : Nat) (e : Env) (σ : St) (x : Expr) (P : Value → Prop) : Prop := ∀ Q : Value → St → Prop, (∀ v, P v → Q v σ) → V c L n (eval x e) Q σ
noncomputable def Tv (c : Cx) (L : Addr) (n : Nat) (e : Env) (σ : St) (x : Expr) (b : Bool) : Prop := ∀ Q : Bool → St → Prop, Q b σ → V c L n (isTrue x e (eval x e)) Q σ
noncomputable def Cm (c : Cx) (L : Addr) (n : Nat) (σ : St) (op : CmpOp) (P R : Value → Prop) (r : Bool) : Prop := ∀ a b, P a → R b → ∀ Q : Value → St → Prop, Q (.bool r) σ → V c L n (compareOp op a b) Q σ
noncomputable def Pv (c : Cx) (L : Addr) (n : Nat) (e : Env) (σ : St) (x : Option Expr) (k : Option Int) : Prop := ∀ Q : Value → St → Prop, (∀ v, IsPart v k → Q v σ) → V c L n (evalPart x e) Q σ
section
variable {c : Cx} {L : Addr} {n : Nat} {σ : St} {e : Env} {l : Loc} {m f q : Led} {KL : List (PySem.Str × NameKind)} {CL : List (PySem.Str × Addr)}
theorem B1 {x : Expr} {i : Int} {Q : Value → St → Prop} (h : Ev c L n e σ x (IsI i)) (hq : ∀ t, Q (.int i t) σ) : V c L n (eval x e) Q σ := h Q fun _ ⟨t, e⟩ => e ▸ hq t
theorem F3 {x : Expr} {y : List Nat} {Q : Value → St → Prop} (h : Ev c L n e σ x (IsT y)) (hq : ∀ t, Q (.str (S y) t) σ) : V c L n (eval x e) Q σ := h Q fun _ ⟨t, e⟩ => e ▸ hq t
theorem Q4 {x : Expr} {b : Bool} {Q : Value → St → Prop} (h : Ev c L n e σ x (IsB b)) (hq : Q (.bool b) σ) : V c L n (eval x e) Q σ := h Q fun _ e => e ▸ hq
theorem Ct {x : Expr} {b : Bool} {Q : Bool → St → Prop} (h : Tv c L n e σ x b) (hq : Q b σ) : V c L n (isTrue x e (eval x e)) Q σ := h Q hq
theorem Ap {x : PySem.Str} {pos : Pos} {i : Int} {t : Tok} (hk : Ag e L KL CL) (hx : (x, NameKind.local) ∈ KL) (hv : (x, some (.int i t)) ∈ l) (hd : (x == ("__debug__" : PySem.Str)) = false := by decide) : Ev c L n e ⟨l, m, f, q⟩ (.Name x pos) (IsI i) := fun _ h => BW (DI hk hx hv (h _ ⟨t, rfl⟩)) hd
theorem Bs {x : PySem.Str} {pos : Pos} {y : List Nat} {t : Tok} (hk : Ag e L KL CL) (hx : (x, NameKind.local) ∈ KL) (hv : (x, some (.str (S y) t)) ∈ l) (hd : (x == ("__debug__" : PySem.Str)) = false := by decide) : Ev c L n e ⟨l, m, f, q⟩ (.Name x pos) (IsT y) := fun _ h => BW (DI hk hx hv (h _ ⟨t, rfl⟩)) hd
theorem Ev_lb {x : PySem.Str} {pos : Pos} {b : Bool} (hk : Ag e L KL CL) (hx : (x, NameKind.local) ∈ KL) (hv : (x, some (.bool b)) ∈ l) (hd : (x == ("__debug__" : PySem.Str)) = false := by decide) : Ev c L n e ⟨l, m, f, q⟩ (.Name x pos) (IsB b) := fun _ h => BW (DI hk hx hv (h _ rfl)) hd
theorem Nv {x : PySem.Str} {pos : Pos} {a : Addr} (hk : Ag e L KL CL) (hx : (x, NameKind.local) ∈ KL) (hv : (x, some (.ref a)) ∈ l) (hd : (x == ("__debug__" : PySem.Str)) = false := by decide) : Ev c L n e ⟨l, m, f, q⟩ (.Name x pos) (Eq (.ref a)) := fun _ h => BW (DI hk hx hv (h _ rfl)) hd
theorem KD {x : PySem.Str} {pos : Pos} {a : Addr} {i : Int} {t : Tok} (hk : Ag e L KL CL) (hx : (x, NameKind.cell) ∈ KL) (hc : (x, a) ∈ CL) (hv : Has σ a (.cell (some (.int i t)))) (hd : (x == ("__debug__" : PySem.Str)) = false := by decide) : Ev c L n e σ (.Name x pos) (IsI i) := fun _ h => BW (BR hk hx hc hv (h _ ⟨t, rfl⟩)) hd
theorem D5 {x : PySem.Str} {pos : Pos} {a : Addr} {y : List Nat} {t : Tok} (hk : Ag e L KL CL) (hx : (x, NameKind.cell) ∈ KL) (hc : (x, a) ∈ CL) (hv : Has σ a (.cell (some (.str (S y) t)))) (hd : (x == ("__debug__" : PySem.Str)) = false := by decide) : Ev c L n e σ (.Name x pos) (IsT y) := fun _ h => BW (BR hk hx hc hv (h _ ⟨t, rfl⟩)) hd
theorem Nw {x : PySem.Str} {pos : Pos} {a : Addr} {b : Bool} (hk : Ag e L KL CL) (hx : (x, NameKind.cell) ∈ KL) (hc : (x, a) ∈ CL) (hv : Has σ a (.cell (some (.bool b)))) (hd : (x == ("__debug__" : PySem.Str)) = false := by decide) : Ev c L n e σ (.Name x pos) (IsB b) := fun _ h => BW (BR hk hx hc hv (h _ rfl)) hd
theorem KE {x : PySem.Str} {pos : Pos} {a b : Addr} (hk : Ag e L KL CL) (hx : (x, NameKind.cell) ∈ KL) (hc : (x, a) ∈ CL) (hv : Has σ a (.cell (some (.ref b)))) (hd : (x == ("__debug__" : PySem.Str)) = false := by decide) : Ev c L n e σ (.Name x pos) (Eq (.ref b)) := fun _ h => BW (BR hk hx hc hv (h _ rfl)) hd
theorem Ak {i : Int} {k : Nat} {pos : Pos} : Ev c L n e σ (.Constant (.int i) k pos) (IsI i) := fun _ h => AC fun t => h _ ⟨t, rfl⟩
theorem AY {x : PySem.Str} {y : List Nat} {k : Nat} {pos : Pos} (hx : x = S y) : Ev c L n e σ (.Constant (.str x) k pos) (IsT y) := fun _ h => AP hx fun t => h _ ⟨t, rfl⟩
theorem AF {x y : Expr} {i j : Int} {pos : Pos} (h1 : Ev c L n e σ x (IsI i)) (h2 : Ev c L n e σ y (IsI j)) : Ev c L n e σ (.BinOp x .Add y pos) (IsI (i + j)) := fun _ h => Az (B1 h1 fun _ => B1 h2 fun _ => Dk fun t => h _ ⟨t, rfl⟩)
theorem Gx {x y : Expr} {i j : Int} {pos : Pos} (h1 : Ev c L n e σ x (IsI i)) (h2 : Ev c L n e σ y (IsI j)) : Ev c L n e σ (.BinOp x .Sub y pos) (IsI (i - j)) := fun _ h => Az (B1 h1 fun _ => B1 h2 fun _ => LH fun t => h _ ⟨t, rfl⟩)
theorem EV {x : Expr} {i : Int} {pos : Pos} (h1 : Ev c L n e σ x (IsI i)) : Ev c L n e σ (.UnaryOp .USub x pos) (IsI (-i)) := fun _ h => Pt (B1 h1 fun _ => Hw fun t => h _ ⟨t, rfl⟩)
theorem FB : Pv c L n e σ none none := fun _ h => Cf (h _ .none)
theorem Ax {x : Expr} {i : Int} (h1 : Ev c L n e σ x (IsI i)) : Pv c L n e σ (some x) (some i) := fun _ h => BE (B1 h1 fun t => h _ (.int i t))
theorem BL {o : Expr} {lo hi : Option Expr} {x : List Nat} {a b : Option Int} {p1 p2 : Pos} (h1 : Ev c L n e ⟨l, m, f, q⟩ o (IsT x)) (h2 : Pv c L n e ⟨l, m, f, q⟩ lo a) (h3 : Pv c L n e ⟨l, m, f, q⟩ hi b) (hx : x.length ≤ sizeLine) :
  Ev c L n e ⟨l, m, f, q⟩ (.Subscript o (.Slice lo hi none p1) p2) (IsT (cut x a b)) := fun _ h => BY (F3 h1 fun _ => Ex (h2 _ fun _ ha => h3 _ fun _ hb _ => Ea ha hb hx fun t => h _ ⟨t, rfl⟩))
theorem EA {nm : PySem.Str} {p2 : Pos} {y : List Nat} {p1 pos : Pos} (hc : c.Ok) (hk : Ag e L KL CL) (hm : ((ofString "len"), NameKind.globalImplicit) ∈ KL) (g1 : c.mg (ofString "len") = none) (g2 : c.mb (ofString "len") = some (.builtin "len")) (h1 : Ev c L n e σ (.Name nm p2) (IsT y)) (hy : y.length < 2 ^ 62) :
  Ev c L n e σ (.Call (.Name (ofString "len") p1) [.Name nm p2] [] pos) (IsI (y.length : Nat)) := fun _ h => Cd (BW (Fu hc hk hm g1 g2 (AH (A0 (F3 h1 fun _ => A2 (Fw hy fun t => h _ ⟨t, rfl⟩))))))
theorem CI {nm : PySem.Str} {p2 : Pos} {a : Addr} {vs : List Value} {p1 pos : Pos} (hc : c.Ok) (hk : Ag e L KL CL) (hm : ((ofString "len"), NameKind.globalImplicit) ∈ KL) (g1 : c.mg (ofString "len") = none) (g2 : c.mb (ofString "len") = some (.builtin "len")) (h1 : Ev c L n e σ (.Name nm p2) (Eq (.ref a))) (ha : Has σ a (.list vs)) (hy : vs.length < 2 ^ 62) :
  Ev c L n e σ (.Call (.Name (ofString "len") p1) [.Name nm p2] [] pos) (IsI (vs.length : Nat)) := fun _ h => Cd (BW (Fu hc hk hm g1 g2 (AH (A0 (h1 _ fun _ e => e ▸ A2 (Gr ha hy fun t => h _ ⟨t, rfl⟩))))))
theorem Pu {x y : Expr} {op : CmpOp} {pos : Pos} {P R : Value → Prop} {r : Bool} (h1 : Ev c L n e σ x P) (h2 : Ev c L n e σ y R) (h3 : Cm c L n σ op P R r) (hm : behindInMarks op y = false := by with_unfolding_all rfl) : Ev c L n e σ (.Compare x [op] [y] pos) (IsB r) :=
 fun _ h => CN (h1 _ fun a pa => h2 _ fun b pb => h3 a b pa pb _ (h _ rfl)) hm
theorem Aq {x y : Expr} {op : CmpOp} {pos : Pos} {P R : Value → Prop} {r : Bool} (h1 : Ev c L n e σ x P) (h2 : Ev c L n e σ y R) (h3 : Cm c L n σ op P R r) (hm : behindInMarks op y = false := by with_unfolding_all rfl) : Tv c L n e σ (.Compare x [op] [y] pos) r :=
 fun _ h => A4 (h1 _ fun a pa => h2 _ fun b pb => h3 a b pa pb _ (A1 h)) hm
theorem H2 {x : PySem.Str} {pos : Pos} {b : Bool} (h1 : Ev c L n e σ (.Name x pos) (IsB b)) : Tv c L n e σ (.Name x pos) b := fun _ h => BT (Q4 h1 (A1 h))
theorem Ee {i j : Int} : Cm c L n σ .Lt (IsI i) (IsI j) (decide (i < j)) := fun _ _ ⟨_, e1⟩ ⟨_, e2⟩ _ h => e1 ▸ e2 ▸ Na h
theorem cm_le {i j : Int} : Cm c L n σ .LtE (IsI i) (IsI j) (decide (i ≤ j)) := fun _ _ ⟨_, e1⟩ ⟨_, e2⟩ _ h => e1 ▸ e2 ▸ Nb h
theorem cm_gt {i j : Int} : Cm c L n σ .Gt (IsI i) (IsI j) (decide (j < i)) := fun _ _ ⟨_, e1⟩ ⟨_, e2⟩ _ h => e1 ▸ e2 ▸ Nc h
theorem cm_ge {i j : Int} : Cm c L n σ .GtE (IsI i) (IsI j) (decide (j ≤ i)) := fun _ _ ⟨_, e1⟩ ⟨_, e2⟩ _ h => e1 ▸ e2 ▸ Nd h
theorem Hy {i j : Int} : Cm c L n σ .Eq (IsI i) (IsI j) (i == j) := fun _ _ ⟨_, e1⟩ ⟨_, e2⟩ _ h => e1 ▸ e2 ▸ DB h
theorem cm_ne {i j : Int} : Cm c L n σ .NotEq (IsI i) (IsI j) (i != j) := fun _ _ ⟨_, e1⟩ ⟨_, e2⟩ _ h => e1 ▸ e2 ▸ GS h
theorem B9 {x y : List Nat} : Cm c L n σ .Eq (IsT x) (IsT y) (decide (x = y)) := fun _ _ ⟨_, e1⟩ ⟨_, e2⟩ _ h => e1 ▸ e2 ▸ Cv h
theorem Hz {x y : List Nat} : Cm c L n σ .NotEq (IsT x) (IsT y) (!decide (x = y)) := fun _ _ ⟨_, e1⟩ ⟨_, e2⟩ _ h => e1 ▸ e2 ▸ Fc h
theorem cm_leT {x y : List Nat} : Cm c L n σ .LtE (IsT x) (IsT y) (!decide (y < x)) := fun _ _ ⟨_, e1⟩ ⟨_, e2⟩ _ h => e1 ▸ e2 ▸ E9 h
theorem Pw {x y : List Nat} : Cm c L n σ .Lt (IsT x) (IsT y) (decide (x < y)) := fun _ _ ⟨_, e1⟩ ⟨_, e2⟩ _ h => e1 ▸ e2 ▸ Nf h
theorem cm_gtT {x y : List Nat} : Cm c L n σ .Gt (IsT x) (IsT y) (decide (y < x)) := fun _ _ ⟨_, e1⟩ ⟨_, e2⟩ _ h => e1 ▸ e2 ▸ JY h
theorem cm_neB {x y : Bool} : Cm c L n σ .NotEq (IsB x) (IsB y) (x != y) := fun _ _ e1 e2 _ h => by rw [e1, e2]; exact E8 h
theorem cm_eqB {x y : Bool} : Cm c L n σ .Eq (IsB x) (IsB y) (x == y) := fun _ _ e1 e2 _ h => by rw [e1, e2]; exact LJ h
end
theorem gen {α : Type} {p : Prop} (e : α) (h : ∀ x : α, x = e → p) : p := h e rfl
theorem Cj {α : Type} {q : α → Prop} {p : Prop} (h : ∃ x, q x) (k : ∀ x, q x → p) : p := h.elim k
section
variable {c : Cx} {n : Nat} {σ : St}
theorem HA {C : Addr} {e' : Env} {elt : Expr} {g : Comprehension} {K : List Value → St → Prop} {N : Nat} {P : Nat → Value → Prop} (G : St → Prop) (p : Nat → Bool) (R : Nat → Value → Led → Prop) {cap : Nat} (hN : N < cap)
  (hR : ∀ i y f f', (∀ x ∈ f, x ∈ f') → R i y f → R i y f') (h0 : G σ)
  (turn : ∀ i v σ, i < N → P i v → G σ → ∀ K : Bool → St → Prop, (∀ ok σ₄, (ok = p i ∧
   (ok = true → V c C n (eval elt e') (fun y σ' => G σ' ∧ (∀ x ∈ σ.fz, x ∈ σ'.fz) ∧ R i y σ'.fz) σ₄) ∧ (ok = false → G σ₄ ∧ ∀ x ∈ σ.fz, x ∈ σ₄.fz)) → K ok σ₄) → V c C n (assign g.target e' v) (fun _ σ₃ => Ifs c C n e' g.ifs K σ₃) σ)
  (fin : ∀ ys σ', G σ' → AA (fun i y => R i y σ'.fz) ((List.range N).filter p) ys → K ys σ') : Bw c C n e' g (CB c C n e' elt []) cap K N P σ :=
 Fh G p R hN hR h0 (fun i v σ a b d => turn i v σ a b d _ fun _ _ h => h) fin
theorem Bg {C : Addr} {e' : Env} {elt : Expr} {g : Comprehension} {K : List Value → St → Prop} {N : Nat} {P : Nat → Value → Prop} {nm : PySem.Str} {od : Led} (p : Nat → Bool) (R : Nat → Value → Led → Prop) {cap : Nat} (hN : N < cap)
  (hR : ∀ i y f f', (∀ x ∈ f, x ∈ f') → R i y f → R i y f')
  (turn : ∀ i v w f, i < N → P i v → ∀ K : Bool → St → Prop, (∀ ok σ₄, (ok = p i ∧
   (ok = true → V c C n (eval elt e') (fun y σ' => (∃ w f, σ' = ⟨[((ofString ".0"), none), (nm, w)], [], f, od⟩) ∧ (∀ x ∈ f, x ∈ σ'.fz) ∧ R i y σ'.fz) σ₄) ∧ (ok = false → (∃ w f, σ₄ = ⟨[((ofString ".0"), none), (nm, w)], [], f, od⟩) ∧ ∀ x ∈ f, x ∈ σ₄.fz)) → K ok σ₄) →
   V c C n (assign g.target e' v) (fun _ σ₃ => Ifs c C n e' g.ifs K σ₃) ⟨[((ofString ".0"), none), (nm, w)], [], f, od⟩)
  (fin : ∀ ys σ', (∃ w f, σ' = ⟨[((ofString ".0"), none), (nm, w)], [], f, od⟩) → AA (fun i y => R i y σ'.fz) ((List.range N).filter p) ys → K ys σ') : Bw c C n e' g (CB c C n e' elt []) cap K N P ⟨[((ofString ".0"), none), (nm, none)], [], [], od⟩ :=
 HA (fun σ => ∃ w f, σ = ⟨[((ofString ".0"), none), (nm, w)], [], f, od⟩) p R hN hR ⟨_, _, rfl⟩ (fun i v σ a b d => by obtain ⟨w, f, rfl⟩ := d; exact turn i v w f a b) fin
end
inductive Stp | hold | free | least | most | set (l : List Nat)
deriving DecidableEq
noncomputable def wAt (ws : List (Nat × Nat)) (k : Nat) : Nat × Nat := ws[k]?.getD (0, 0)
noncomputable def Stp.run (name : List Nat) : Stp → List (Nat × Nat) → List (Nat × Nat)
 | .hold, ws => (List.range ws.length).map fun k => (k, (wAt ws k).2)
 | .free, ws => ((List.range ws.length).filter fun k => k == 0 || (wAt ws k).1 != (wAt ws (k - 1)).1).map (wAt ws)
 | .least, ws => ((List.range ws.length).flatMap fun i => (List.range (name.length + 1 - (wAt ws i).2)).map (Prod.mk i)).map fun ij => ((wAt ws ij.1).1, (wAt ws ij.1).2 + ij.2)
 | .most, ws => ((List.range ws.length).flatMap fun i => (List.range (name.length + 1 - (wAt ws i).2)).map (Prod.mk i)).map fun ij => ((wAt ws ij.1).1, name.length - ij.2)
 | .set l, ws => ((List.range ws.length).filter fun k => match name[(wAt ws k).2]? with | some ch => l.contains ch | none => false).map fun k => ((wAt ws k).1, (wAt ws k).2 + 1)
noncomputable def DO (name : List Nat) (steps : List Stp) (ws : List (Nat × Nat)) : List (Nat × Nat) := steps.foldl (fun ws s => s.run name ws) ws
noncomputable def Nx (steps : List Stp) (name : List Nat) : List Nat := (DO name steps [(0, 0)]).map (·.2)
theorem FC {ws : List (Nat × Nat)} {k : Nat} (h : k < ws.length) : wAt ws k ∈ ws := by
 unfold wAt; rw [List.getElem?_eq_getElem h]; exact List.getElem_mem h
theorem run_le {name : List Nat} {s : Stp} {ws : List (Nat × Nat)} (h : ∀ w ∈ ws, w.2 ≤ name.length) : ∀ w ∈ s.run name ws, w.2 ≤ name.length := by
 intro w hw
 cases s with
 | hold =>
  obtain ⟨k, hk, rfl⟩ := List.mem_map.mp hw
  exact h (wAt ws k) (FC (List.mem_range.mp hk))
 | free =>
  obtain ⟨k, hk, rfl⟩ := List.mem_map.mp hw
  exact h _ (FC (List.mem_range.mp (List.mem_filter.mp hk).1))
 | least =>
  obtain ⟨ij, hk, rfl⟩ := List.mem_map.mp hw
  obtain ⟨i, hi, hj⟩ := List.mem_flatMap.mp hk
  obtain ⟨j, hj2, rfl⟩ := List.mem_map.mp hj
  have := List.mem_range.mp hj2
  show (wAt ws i).2 + j ≤ _
  omega
 | most =>
  obtain ⟨ij, hk, rfl⟩ := List.mem_map.mp hw
  exact Nat.sub_le _ _
 | set l =>
  obtain ⟨k, hk, rfl⟩ := List.mem_map.mp hw
  have h2 := (List.mem_filter.mp hk).2
  show (wAt ws k).2 + 1 ≤ _
  cases hx : name[(wAt ws k).2]? with
  | none => rw [hx] at h2; cases h2
  | some c => exact (List.getElem?_eq_some_iff.mp hx).1
theorem LP {name : List Nat} : ∀ (steps : List Stp) (ws : List (Nat × Nat)), (∀ w ∈ ws, w.2 ≤ name.length) → ∀ w ∈ DO name steps ws, w.2 ≤ name.length
 | [], _, h => h
 | s :: r, ws, h => LP r (s.run name ws) (run_le h)
theorem Px (x : List Nat) (k : Nat) : cut x (some (k : Int)) (some ((k : Int) + 1)) = match x[k]? with | some ch => [ch] | none => [] := by
 unfold cut
 have e1 : Eu (k : Int) x.length = min k x.length := Bb k _
 have e2 : Eu ((k : Int) + 1) x.length = min (k + 1) x.length := Bb (k + 1) _
 simp only [e1, e2]
 by_cases h : k < x.length
 ·rw [List.getElem?_eq_getElem h, Nat.min_eq_left (by exact Nat.le_of_lt (by assumption)), Nat.min_eq_left (by assumption)]
  rw [List.drop_take, show k + 1 - k = 1 from by simp, List.drop_eq_getElem_cons h]
  rfl
 ·rw [List.getElem?_eq_none (by exact Nat.le_of_not_lt h), Nat.min_eq_right (by lia), Nat.min_eq_right (by exact Nat.le_trans (Nat.le_of_not_lt h) (Nat.le_add_right _ _))]
  simp
theorem LQ (l : List Nat) (ch : Nat) : (l.any fun c1 => decide ([c1] = [ch])) = l.contains ch := by
 induction l with
 | nil => rfl
 | cons a r ih =>
  rw [List.any_cons, List.contains_cons, ih]
  congr 1
  rw [Bool.eq_iff_iff]
  constructor
  ·intro h; have := List.cons.inj (of_decide_eq_true h); exact beq_iff_eq.mpr this.1.symm
  ·intro h; rw [beq_iff_eq.mp h]; exact decide_eq_true rfl
noncomputable def at1 (x : List Nat) (k : Nat) : List Nat := match x[k]? with | some ch => [ch] | none => []
theorem EB (x : List Nat) (k : Nat) : cut x (some (k : Int)) (some ((k : Int) + 1)) = at1 x k := Px x k
theorem Jk (x : List Nat) (k : Nat) : cut x (some ((k : Int) + 1)) (some ((k : Int) + 2)) = at1 x (k + 1) := by
 have := EB x (k + 1)
 rw [← this]
 congr 2 <;> lia
theorem Jl {x : List Nat} {k : Nat} (h : x.length ≤ k) : at1 x k = [] := by unfold at1; rw [List.getElem?_eq_none h]
theorem LR (x : List Nat) (k : Nat) : (at1 x k).length ≤ 1 := by unfold at1; split <;> simp
theorem at1_lt {x : List Nat} {k ch : Nat} (h : at1 x k = [ch]) : k < x.length := by
 by_cases q : k < x.length
 ·exact q
 ·rw [Jl (by exact Nat.le_of_not_lt q)] at h; cases h
noncomputable def KF : List Nat := [48, 49, 50, 51, 52, 53, 54, 55, 56, 57, 97, 98, 99, 100, 101, 102, 103, 104, 105, 106, 107, 108, 109, 110, 111, 112, 113, 114, 115, 116, 117, 118, 119, 120, 121, 122, 65, 66, 67, 68, 69, 70, 71, 72, 73, 74, 75, 76, 77, 78, 79, 80, 81, 82, 83, 84, 85, 86, 87, 88, 89, 90]
noncomputable def one (x : List Nat) (k : Nat) : List Nat × Nat :=
 if at1 x k = [92] then (if Nn (at1 x (k + 1)) KF = true then [] else at1 x (k + 1), k + 2) else (at1 x k, k + 1)
theorem one_len (x : List Nat) (k : Nat) : (one x k).1.length ≤ 1 := by
 unfold one
 split
 ·split
  ·exact Nat.zero_le _
  ·exact LR _ _
 ·exact LR _ _
theorem K6 (x : List Nat) (k : Nat) : k < (one x k).2 := by unfold one; split <;> (simp only []; lia)
theorem Py {x : List Nat} {k : Nat} (h : (one x k).1 ≠ []) : (one x k).2 ≤ x.length := by
 unfold one at h ⊢
 split at h
 ·rename_i q
  rw [if_pos q]
  simp only [] at h ⊢
  have : at1 x (k + 1) ≠ [] := by
   intro z
   rw [z] at h
   exact h (by simp [Nn])
  by_cases z : k + 1 < x.length
  ·assumption
  ·exact absurd (Jl (by exact Nat.le_of_not_lt z)) this
 ·rename_i q
  rw [if_neg q]
  simp only [] at h ⊢
  by_cases z : k < x.length
  ·assumption
  ·exact absurd (Jl (by lia)) h
noncomputable def AV : List Nat := [33, 45, 97, 98]
noncomputable def betw (lo hi : List Nat) (s : Nat) : Bool := !decide ([s] < lo) && !decide (hi < [s])
noncomputable def Ck (x : List Nat) (lo : List Nat × Nat) : List Nat × Nat := if at1 x lo.2 = [45] ∧ at1 x (lo.2 + 1) ≠ [93] then one x (lo.2 + 1) else lo
noncomputable def BU (x : List Nat) (front : Nat) : Nat → Nat → List Nat → Option (List Nat) × Nat
 | 0, k, _ => (none, k)
 | fuel + 1, k, found =>
  if at1 x k = [93] ∧ k ≠ front then (some found, k)
  else if (one x k).1 = [] ∨ (Ck x (one x k)).1 < (one x k).1 then (none, (Ck x (one x k)).2)
  else BU x front fuel (Ck x (one x k)).2 (found ++ AV.filter (betw (one x k).1 (Ck x (one x k)).1))
noncomputable def BQ (x : List Nat) (k : Nat) : Option (List Nat) × Nat :=
 let barred := decide (at1 x k = [94])
 let k0 := if barred = true then k + 1 else k
 match BU x k0 (x.length + 1) k0 [] with
 | (none, k') => (none, k')
 | (some found, k') => (some (AV.filter fun s => decide (s ∈ found) != barred), k' + 1)
noncomputable def opt {α : Type} (p : α → Bool) : Option α → Bool
 | some a => p a
 | none => false
theorem FD {α : Type} (p : α → Bool) (d : α) : ∀ l : List α, ((List.range l.length).filter fun i => opt p l[i]?).map (fun i => l[i]?.getD d) = l.filter p
 | [] => rfl
 | a :: r => by
  have ih := FD p d r
  rw [List.length_cons, List.range_succ_eq_map, List.filter_cons, List.filter_cons]
  have e : (List.map Nat.succ (List.range r.length)).filter (fun i => opt p (a :: r)[i]?) = ((List.range r.length).filter fun i => opt p r[i]?).map Nat.succ := by
   rw [List.filter_map]; congr 1
  have e2 : ∀ l : List Nat, (l.map Nat.succ).map (fun i => (a :: r)[i]?.getD d) = l.map fun i => r[i]?.getD d := fun l => by rw [List.map_map]; congr 1
  rw [e]
  by_cases h : p a = true
  ·rw [if_pos (by simpa [opt] using h), if_pos h, List.map_cons, e2, ih]; rfl
  ·rw [if_neg (by simpa [opt] using h), if_neg h, e2, ih]
noncomputable def gt (s : List Nat) (k : Nat) : Nat := s[k]?.getD 0
noncomputable def AD (s : List Nat) (k : Nat) : Nat := if at1 s (k + 1) = [45] ∧ k + 2 < s.length then 2 else 0
noncomputable def AZ (s : List Nat) : Nat → Nat → Bool → List (Nat × Nat) → Bool × List (Nat × Nat)
 | 0, _, b, it => (b, it)
 | fuel + 1, k, b, it =>
  if k < s.length then
   if gt s k = 33 ∧ it = [] ∧ b = false then AZ s fuel (k + AD s k + 1) true (if AD s k = 2 then [(45, 45), (gt s (k + AD s k), gt s (k + AD s k))] else [])
   else if gt s k ≤ gt s (k + AD s k) then AZ s fuel (k + AD s k + 1) b (it ++ [(gt s k, gt s (k + AD s k))])
   else AZ s fuel (k + AD s k + 1) b it
  else (b, it)
noncomputable def Ef (ch : Nat) (p : Nat × Nat) : Bool := !decide ([ch] < [p.1]) && !decide ([p.2] < [ch])
noncomputable def CJ (b : Bool) (it : List (Nat × Nat)) : List Nat := AV.filter fun ch => it.any (Ef ch) != b
noncomputable def BM (x : List Nat) : List Nat :=
 let b := decide (cut x none (some 1) = [33])
 let s := if b = true then cut x (some 1) none else x
 CJ (AZ s (s.length + 1) 0 b []).1 (AZ s (s.length + 1) 0 b []).2
noncomputable def Bz (s : List Nat) (k : Nat) (b : Bool) (it : List (Nat × Nat)) : Bool × List (Nat × Nat) :=
 if gt s k = 33 ∧ it = [] ∧ b = false then (true, if AD s k = 2 then [(45, 45), (gt s (k + AD s k), gt s (k + AD s k))] else [])
 else if gt s k ≤ gt s (k + AD s k) then (b, it ++ [(gt s k, gt s (k + AD s k))]) else (b, it)
theorem DP {s : List Nat} {fuel k : Nat} {b : Bool} {it : List (Nat × Nat)} (h : k < s.length) : AZ s (fuel + 1) k b it = AZ s fuel (k + AD s k + 1) (Bz s k b it).1 (Bz s k b it).2 := by
 rw [AZ, if_pos h]
 unfold Bz
 split
 ·rfl
 ·split <;> rfl
theorem Eg {s : List Nat} {fuel k : Nat} {b : Bool} {it : List (Nat × Nat)} (h : ¬ k < s.length) : AZ s fuel k b it = (b, it) := by
 cases fuel with
 | zero => rfl
 | succ f => rw [AZ, if_neg h]
theorem H3 {s : List Nat} {k : Nat} (h : k < s.length) : s[k]? = some (gt s k) := by unfold gt; rw [List.getElem?_eq_getElem h]; rfl
theorem HB {s : List Nat} {k : Nat} (h : k < s.length) : k + AD s k < s.length := by unfold AD; split <;> lia
theorem LS (s : List Nat) (k : Nat) : AD s k = 2 ∨ AD s k = 0 := by unfold AD; split <;> simp
theorem H4 (s : List Nat) (k : Nat) (b : Bool) (it : List (Nat × Nat)) : (Bz s k b it).2.length ≤ it.length + 2 := by
 unfold Bz
 split
 ·split <;> simp
 ·split <;> simp
theorem BN {α : Type} (d : α) {R : α → Value → Prop} {l : List α} {p : α → Bool} {ys : List Value} (h : AA (fun i y => ∃ a, l[i]? = some a ∧ R a y) ((List.range l.length).filter fun i => opt p l[i]?) ys) : AA R (l.filter p) ys :=
 (FD p d l) ▸ h.map (fun i => l[i]?.getD d) fun i _ y ⟨a, h1, h2⟩ => by rw [h1]; exact h2
section
variable {c : Cx} {n : Nat} {σ : St}
inductive Post1 (nm : PySem.Str) (od f : Led) (R : Value → Led → Prop) : Value → St → Prop
 | mk {y : Value} {w : Option Value} {f' : Led} (h : ∀ x ∈ f, x ∈ f') (hr : R y f') : Post1 nm od f R y ⟨[((ofString ".0"), none), (nm, w)], [], f', od⟩
inductive Qh (c : Cx) (C : Addr) (n : Nat) (elt : Expr) (e' : Env) (nm : PySem.Str) (od f : Led) (p : Bool) (R : Value → Led → Prop) : Bool → St → Prop
 | yes {σ : St} (h : p = true) (hv : V c C n (eval elt e') (Post1 nm od f R) σ) : Qh c C n elt e' nm od f p R true σ
 | no {w : Option Value} (h : p = false) : Qh c C n elt e' nm od f p R false ⟨[((ofString ".0"), none), (nm, w)], [], f, od⟩
 | no' {w : Option Value} {f' : Led} (h : p = false) (hf : ∀ x ∈ f, x ∈ f') : Qh c C n elt e' nm od f p R false ⟨[((ofString ".0"), none), (nm, w)], [], f', od⟩
theorem HC {α τ : Type} {C : Addr} {e' : Env} {elt : Expr} {g : Comprehension} {K : List Value → St → Prop} {N : Nat} {P : Nat → Value → Prop} {nm : PySem.Str} {od : Led} (l : List α) (F : α → τ → Value) (Ok : α → τ → Prop) (d : α) (p : α → Bool) (R : α → Value → Led → Prop) {cap : Nat} (hl : N = l.length)
  (hP : ∀ i v, i < N → P i v → ∃ a t, l[i]? = some a ∧ Ok a t ∧ v = F a t) (hN : N < cap) (hR : ∀ a y f f', (∀ x ∈ f, x ∈ f') → R a y f → R a y f')
  (turn : ∀ (i : Nat) a t w f, l[i]? = some a → Ok a t → ∀ K : Bool → St → Prop, (∀ ok σ, Qh c C n elt e' nm od f (p a) (R a) ok σ → K ok σ) →
   V c C n (assign g.target e' (F a t)) (fun _ σ₃ => Ifs c C n e' g.ifs K σ₃) ⟨[((ofString ".0"), none), (nm, w)], [], f, od⟩)
  (fin : ∀ ys σ', AA (fun a y => R a y σ'.fz) (l.filter p) ys → K ys σ') : Bw c C n e' g (CB c C n e' elt []) cap K N P ⟨[((ofString ".0"), none), (nm, none)], [], [], od⟩ := by
 subst hl
 refine Bg (fun i => opt p l[i]?) (fun i y f => ∃ a, l[i]? = some a ∧ R a y f) hN (fun i y f f' hf ⟨a, h1, h2⟩ => ⟨a, h1, hR a y f f' hf h2⟩) (fun i v w f hi hv K hK => ?_) (fun ys σ' hG h => fin ys σ' (BN d h))
 refine Ae (fun G_ hG_ => ?_)
 obtain ⟨a, t, ha, hok, rfl⟩ := hP i v hi hv
 refine hG_ ?_
 clear hG_ G_
 refine turn i a t w f ha hok K fun ok σ₄ h => hK ok σ₄ ?_
 rw [ha]
 cases h with
 | yes h hv => exact ⟨h.symm, fun _ => An hv fun y σ' h => by cases h with | mk h hr => exact ⟨⟨_, _, rfl⟩, h, a, rfl, hr⟩, (fun h => nomatch h)⟩
 | no h => exact ⟨h.symm, (fun h => nomatch h), fun _ => ⟨⟨_, _, rfl⟩, fun _ h => h⟩⟩
 | no' h hf => exact ⟨h.symm, (fun h => nomatch h), fun _ => ⟨⟨_, _, rfl⟩, hf⟩⟩
theorem CT {α τ : Type} {C : Addr} {e' : Env} {elt : Expr} {g : Comprehension} {K : List Value → St → Prop} {N : Nat} {P : Nat → Value → Prop} {nm : PySem.Str} {od : Led} (l : List α) (F : α → τ → Value) (d : α) (p : α → Bool) (R : α → Value → Led → Prop) {cap : Nat} (hl : N = l.length)
  (hP : ∀ i v, i < N → P i v → ∃ a t, l[i]? = some a ∧ v = F a t) (hN : N < cap) (hR : ∀ a y f f', (∀ x ∈ f, x ∈ f') → R a y f → R a y f')
  (turn : ∀ (i : Nat) a t w f, l[i]? = some a → ∀ K : Bool → St → Prop, (∀ ok σ, Qh c C n elt e' nm od f (p a) (R a) ok σ → K ok σ) →
   V c C n (assign g.target e' (F a t)) (fun _ σ₃ => Ifs c C n e' g.ifs K σ₃) ⟨[((ofString ".0"), none), (nm, w)], [], f, od⟩)
  (fin : ∀ ys σ', AA (fun a y => R a y σ'.fz) (l.filter p) ys → K ys σ') : Bw c C n e' g (CB c C n e' elt []) cap K N P ⟨[((ofString ".0"), none), (nm, none)], [], [], od⟩ :=
 HC l F (fun _ _ => True) d p R hl (fun i v hi hv => let ⟨a, t, h1, h2⟩ := hP i v hi hv; ⟨a, t, h1, trivial, h2⟩) hN hR (fun i a t w f h _ => turn i a t w f h) fin
theorem src_ref {α τ : Type} {F : α → τ → Value} {Ok : α → τ → Prop} {R : α → Value → Prop} {l : List α} {vs : List Value} (h : AA R l vs) (hR : ∀ a v, R a v → ∃ t, Ok a t ∧ v = F a t) : ∀ i v, i < vs.length → vs[i]? = some v → ∃ a t, l[i]? = some a ∧ Ok a t ∧ v = F a t := fun i v _ hv => by
 refine Ae (fun G_ hG_ => ?_)
 obtain ⟨a, h1, h2⟩ := h.get hv
 obtain ⟨t, h3, h4⟩ := hR a v h2
 refine hG_ ?_
 clear hG_ G_
 exact ⟨a, t, h1, h3, h4⟩
theorem H5 {α : Type} {F : α → Tok → Value} {l : List α} {vs : List Value} (h : AA (fun a v => ∃ t, v = F a t) l vs) : ∀ i v, i < vs.length → vs[i]? = some v → ∃ a t, l[i]? = some a ∧ v = F a t := fun i v _ hv => by
 obtain ⟨a, h1, t, h2⟩ := h.get hv
 exact ⟨a, t, h1, h2⟩
theorem LT {x : List Nat} : ∀ (i : Nat) (v : Value), i < x.length → (∃ ch u, x[i]? = some ch ∧ v = .str (S [ch]) u) → ∃ a t, x[i]? = some a ∧ v = (fun (a : Nat) t => Value.str (S [a]) t) a t := fun _ _ _ ⟨ch, u, h1, h2⟩ => ⟨ch, u, h1, h2⟩
theorem LU {N : Nat} : ∀ (i : Nat) (v : Value), i < N → (∃ t, v = Value.int (i : Nat) t) → ∃ a t, (List.range N)[i]? = some a ∧ v = (fun (a : Nat) t => Value.int (a : Nat) t) a t := fun i _ hi ⟨t, h⟩ => ⟨i, t, by rw [List.getElem?_range hi], h⟩
end
section
variable {c : Cx} {L : Addr} {n : Nat} {σ : St} {e : Env} {l l' l'' : Loc} {m m' f q : Led} {KL : List (PySem.Str × NameKind)} {CL : List (PySem.Str × Addr)}
theorem AJ {x : PySem.Str} {pos : Pos} {v : Value} {Q : Value → St → Prop} (hk : Ag e L KL CL) (hx : (x, NameKind.local) ∈ KL) (hv : (x, some v) ∈ l) (h : Q v ⟨l, m, f, q⟩) (hd : (x == ("__debug__" : PySem.Str)) = false := by decide) : V c L n (eval (.Name x pos) e) Q ⟨l, m, f, q⟩ := BW (DI hk hx hv h) hd
theorem B4 {x : PySem.Str} {pos : Pos} {a : Addr} {v : Value} {Q : Value → St → Prop} (hk : Ag e L KL CL) (hx : (x, NameKind.cell) ∈ KL) (hc : (x, a) ∈ CL) (hv : Has σ a (.cell (some v))) (h : Q v σ) (hd : (x == ("__debug__" : PySem.Str)) = false := by decide) : V c L n (eval (.Name x pos) e) Q σ := BW (BR hk hx hc hv h) hd
noncomputable def EvE (c : Cx) (L : Addr) (n : Nat) (e : Env) (σ : St) (x : Expr) (v : Value) : Prop := ∀ Q : Value → St → Prop, Q v σ → V c L n (eval x e) Q σ
theorem E_l {x : PySem.Str} {pos : Pos} {v : Value} (hk : Ag e L KL CL) (hx : (x, NameKind.local) ∈ KL) (hv : (x, some v) ∈ l) (hd : (x == ("__debug__" : PySem.Str)) = false := by decide) : EvE c L n e ⟨l, m, f, q⟩ (.Name x pos) v := fun _ h => AJ hk hx hv h hd
theorem E_c {x : PySem.Str} {pos : Pos} {a : Addr} {v : Value} (hk : Ag e L KL CL) (hx : (x, NameKind.cell) ∈ KL) (hc : (x, a) ∈ CL) (hv : Has σ a (.cell (some v))) (hd : (x == ("__debug__" : PySem.Str)) = false := by decide) : EvE c L n e σ (.Name x pos) v := fun _ h => B4 hk hx hc hv h hd
theorem DV {x : PySem.Str} {p pos : Pos} {v : Value} {Q : List Value → St → Prop} (h1 : EvE c L n e σ (.Name x p) v) (h : Q [v] σ) : V c L n (spliced (backTo pos (starEach [.Name x p] e))) Q σ := A0 (h1 _ (A2 h))
theorem HD {x y : PySem.Str} {p p' pos : Pos} {v w : Value} {Q : List Value → St → Prop} (h1 : EvE c L n e σ (.Name x p) v) (h2 : EvE c L n e σ (.Name y p') w) (h : Q [v, w] σ) : V c L n (spliced (backTo pos (starEach [.Name x p, .Name y p'] e))) Q σ := A0 (h1 _ (DV h2 h))
theorem V_an3 {x y z : PySem.Str} {p p' p'' pos : Pos} {v w u : Value} {Q : List Value → St → Prop} (h1 : EvE c L n e σ (.Name x p) v) (h2 : EvE c L n e σ (.Name y p') w) (h3 : EvE c L n e σ (.Name z p'') u) (h : Q [v, w, u] σ) : V c L n (spliced (backTo pos (starEach [.Name x p, .Name y p', .Name z p''] e))) Q σ := A0 (h1 _ (HD h2 h3 h))
theorem LC {x : PySem.Str} {p pos : Pos} {v : Value} {rest : List Expr} {Q : List Value → St → Prop} (h1 : EvE c L n e σ (.Name x p) v) (h : V c L n (spliced (backTo pos (starEach rest e))) (fun vs σ₂ => Q (v :: vs) σ₂) σ) : V c L n (spliced (backTo pos (starEach (.Name x p :: rest) e))) Q σ := A0 (h1 _ h)
theorem FE {x : PySem.Str} {y : List Nat} {k : Nat} {p pos : Pos} {Q : List Value → St → Prop} (hx : x = S y) (h : ∀ t, Q [.str (S y) t] σ) : V c L n (spliced (backTo pos (starEach [.Constant (.str x) k p] e))) Q σ := A0 (AP hx fun t => A2 (h t))
theorem H6 {x x' : PySem.Str} {y y' : List Nat} {k k' : Nat} {p p' pos : Pos} {Q : List Value → St → Prop} (hx : x = S y) (hx' : x' = S y') (h : ∀ t t', Q [.str (S y) t, .str (S y') t'] σ) : V c L n (spliced (backTo pos (starEach [.Constant (.str x) k p, .Constant (.str x') k' p'] e))) Q σ := A0 (AP hx fun t => FE hx' (h t))
theorem Q5 {x x' x'' : PySem.Str} {y y' y'' : List Nat} {k k' k'' : Nat} {p p' p'' pos : Pos} {Q : List Value → St → Prop} (hx : x = S y) (hx' : x' = S y') (hx'' : x'' = S y'') (h : ∀ t t' t'', Q [.str (S y) t, .str (S y') t', .str (S y'') t''] σ) : V c L n (spliced (backTo pos (starEach [.Constant (.str x) k p, .Constant (.str x') k' p', .Constant (.str x'') k'' p''] e))) Q σ := A0 (AP hx fun t => H6 hx' hx'' (h t))
theorem LV {x : PySem.Str} {p : Pos} {rest : List Expr} {v : Value} {vs : List Value} {Q : Unit → St → Prop} (hk : Ag e L KL CL) (hx : (x, NameKind.local) ∈ KL) (hv : Hl l x v l') (h : V c L n (assignInOrder ((assignEach rest e).map (·.2)) vs) Q ⟨l', m, f, q⟩) :
  V c L n (assignInOrder ((assignEach (.Name x p :: rest) e).map (·.2)) (v :: vs)) Q ⟨l, m, f, q⟩ := AW (H0 (A8 hk hx hv h))
theorem V_t2 {x y : PySem.Str} {p p' pos : Pos} {k : Nat} {t : Addr} {v w : Value} {Q : Unit → St → Prop} (ht : Has ⟨l, m, f, q⟩ t (.tup [v, w])) (hk : Ag e L KL CL) (hx : (x, NameKind.local) ∈ KL) (hv : Hl l x v l') (hy : (y, NameKind.local) ∈ KL) (hw : Hl l' y w l'')
  (h : Q () ⟨l'', m, f, q⟩) : V c L n (assign (.Tuple [.Name x p, .Name y p'] k pos) e (.ref t)) Q ⟨l, m, f, q⟩ := CG ht rfl (LV hk hx hv (LV hk hy hw (Bf h)))
theorem C0 {x : PySem.Str} {p : Pos} {v : Value} {Q : Unit → St → Prop} (hk : Ag e L KL CL) (hx : (x, NameKind.local) ∈ KL) (hv : Hl l x v l') (h : Q () ⟨l', m, f, q⟩) : V c L n (assign (.Name x p) e v) Q ⟨l, m, f, q⟩ := H0 (A8 hk hx hv h)
theorem CK {x : PySem.Str} {p : Pos} {a : Addr} {v : Value} {d : Option Value} {Q : Unit → St → Prop} (hk : Ag e L KL CL) (hx : (x, NameKind.cell) ∈ KL) (hc : (x, a) ∈ CL) (hu : Upd m a (.cell d) (.cell (some v)) m') (h : Q () ⟨l, m', f, q⟩) : V c L n (assign (.Name x p) e v) Q ⟨l, m, f, q⟩ := H0 (Aj hk hx hc hu h)
theorem DW {o i : Expr} {pos : Pos} {v w : Value} {Q : Value → St → Prop} (h1 : EvE c L n e σ o v) (h2 : EvE c L n e σ i w) (h : V c L n (subscriptTail o i v w) Q σ) : V c L n (eval (.Subscript o i pos) e) Q σ := BY (h1 _ (h2 _ h))
theorem LW {o i : Expr} {pos : Pos} {v : Value} {k : Int} {Q : Value → St → Prop} (h1 : EvE c L n e σ o v) (h2 : Ev c L n e σ i (IsI k)) (h : ∀ t, V c L n (subscriptTail o i v (.int k t)) Q σ) : V c L n (eval (.Subscript o i pos) e) Q σ := BY (h1 _ (B1 h2 h))
theorem DX {test : Expr} {body orelse : List Stmt} {pos : Pos} {b : Bool} {Q : Flow → St → Prop} (h1 : Tv c L n e σ test b) (hb : ¬ b = true) (h : V c L n (execs orelse e) Q σ) : V c L n (exec (.If test body orelse pos) e) Q σ := Qd (h1 _ (Ad hb h))
theorem D6 {test : Expr} {body orelse : List Stmt} {pos : Pos} {b : Bool} {Q : Flow → St → Prop} (h1 : Tv c L n e σ test b) (hb : b = true) (h : V c L n (execs body e) Q σ) : V c L n (exec (.If test body orelse pos) e) Q σ := Qd (h1 _ (A9 hb h))
theorem B7 {st : Stmt} {Q : Flow → St → Prop} (h : V c L n (exec st e) Q σ) : V c L n (execs [st] e) Q σ := AB (An h fun f _ h => by cases f <;> first | exact Au h | exact h)
theorem HE {x : PySem.Str} {p pos : Pos} {v : Value} {args : List Expr} {Q : Value → St → Prop} (hc : c.Ok) (hk : Ag e L KL CL) (hx : (x, NameKind.globalImplicit) ∈ KL) (hm : c.mg x = none) (hv : c.mb x = some v) (h : V c L n (callWith pos v [] (backTo pos (starEach args e)) []) Q σ)
  (he : eval (.Call (.Name x p) args [] pos) e = (do callWith pos (← eval (.Name x p) e) [] (backTo pos (starEach args e)) (backToKw pos (keywordEach [] e))) := by with_unfolding_all rfl) (hd : (x == ("__debug__" : PySem.Str)) = false := by decide) : V c L n (eval (.Call (.Name x p) args [] pos) e) Q σ :=
 Cd (BW (Fu hc hk hx hm hv h) hd) he
theorem Q6 {a : Addr} {x : PySem.Str} {ps : List PySem.Str} {body : List Stmt} {scope : Scope} {p pos : Pos} {args : List Expr} {Q : Value → St → Prop} (hc : c.Ok) (hk : Ag e L KL CL) (hx : (x, NameKind.globalImplicit) ∈ KL) (F : D0 c a x ps body scope)
  (h : V c L n (spliced (backTo pos (starEach args e))) (fun vs σ₁ => V c L n (call (.ref a) vs) Q σ₁) σ) (hp : (backTo pos (starEach args e)).any (·.1) = false := by with_unfolding_all rfl)
  (he : eval (.Call (.Name x p) args [] pos) e = (do callWith pos (← eval (.Name x p) e) [] (backTo pos (starEach args e)) (backToKw pos (keywordEach [] e))) := by with_unfolding_all rfl) (hd : (x == ("__debug__" : PySem.Str)) = false := by decide) : V c L n (eval (.Call (.Name x p) args [] pos) e) Q σ :=
 Cd (BW (DU hc hk hx F (LN F h hp)) hd) he
end
section
variable {c : Cx} {L : Addr} {n : Nat} {σ : St} {α β : Type} {e : Env} {KL : List (Str × NameKind)} {CL out : List (Str × Addr)} {l l' : Loc} {m m' f q : Led}
noncomputable def DF (c : Cx) (kvs : List (Int × Value)) : D := .prop fun o => o.ExactDict ∧ ∃ es ep, o.data = .dict es ep ∧ KeysOf (intKind c.prog c.w) es ∧ Pairs (intKind c.prog c.w) es.toList kvs ∧ (kvs.map (·.1)).Nodup
theorem Dq {h : Heap} {d : Addr} {kvs : List (Int × Value)} : At h d (DF c kvs) ↔ h.DictOf (intKind c.prog c.w) d kvs :=
 ⟨fun q => by obtain ⟨o, e, h1, es, ep, h2⟩ := q; exact ⟨o, es, ep, e, h1, h2⟩, fun q => by obtain ⟨o, es, ep, e, h1, h2⟩ := q; exact ⟨o, e, h1, es, ep, h2⟩⟩
theorem Pz (hc : c.Ok) {B : PM} {s : Heap} (ho : Own B L σ s) (hb : InB c B) {d : Addr} (hd : s.objs.size ≤ d) : d ≠ sysModules := by
 refine Ae (fun G_ hG_ => ?_)
 obtain ⟨o, es, ep, e, _⟩ := hc.g
 refine hG_ ?_
 clear hG_ G_
 have := Heap.lt_size (ho.sub _ _ (hb _ _ e))
 intro q
 rw [q] at hd
 exact absurd (Nat.lt_of_lt_of_le this hd) (by decide)
theorem HF (hc : c.Ok) {pos : Pos} {Q : Value → St → Prop} (h : ∀ d, d ≠ sysModules → Q (.ref d) ⟨l, (d, DF c []) :: m, f, q⟩) : V c L n (eval (.Dict [] [] pos) e) Q ⟨l, m, f, q⟩ :=
 fun A B s hr hb ho hg => wpAny_Dict_empty ⟨hg, rfl, _, ho.newMut (o := DF c []) (Ext.push _ _) (Nat.le_refl _) (by
  refine Dq.mpr ⟨_, #[], 0, Heap.get?_push_size _ rfl, ⟨rfl, rfl, rfl⟩, rfl, (fun e he => by simp at he), .nil, List.Pairwise.nil⟩), h _ (Pz hc ho hb (Nat.le_refl _))⟩
theorem KG (hc : c.Ok) {i j : Int} {k1 k2 : Nat} {p1 p2 pos : Pos} {Q : Value → St → Prop} (h : ∀ d t, d ≠ sysModules → Q (.ref d) ⟨l, (d, DF c [(i, .int j t)]) :: m, f, q⟩) :
  V c L n (eval (.Dict [some (.Constant (.int i) k1 p1)] [.Constant (.int j) k2 p2] pos) e) Q ⟨l, m, f, q⟩ :=
 fun A B s hr hb ho hg => by
  refine wpAny_Dict_walk (knd := intKind c.prog c.w) rfl rfl (by simp) (by simp) ?_
  refine pairTrees_cons_walk (wpAny_Constant_int (wpAny_Constant_int (pairTrees_nil_walk ?_)))
  refine ⟨[(i, .int j _)], ⟨by simp [intKind, Value.isInt], rfl, trivial⟩, ⟨_, #[], 0, Heap.get?_push_size _ rfl, ⟨rfl, rfl, rfl⟩, rfl, (fun e he => by simp at he), .nil, List.Pairwise.nil⟩, fun h' hd hs => ?_⟩
  refine ⟨hg, rfl, _, ho.newMut (o := DF c [(i, .int j _)]) (fun a o q => hs.extBut a o (Nat.ne_of_lt (Heap.lt_size q)) (Heap.get?_push_of_some _ q)) (Nat.le_refl _) (Dq.mpr hd), h _ _ (Pz hc ho hb (Nat.le_refl _))⟩
theorem BP.dict {d : Addr} {kvs : List (Int × Value)} (hd : d ≠ sysModules) (ha : (d, DF c kvs) ∈ σ.fz ∨ (d, DF c kvs) ∈ σ.od) : BP c σ (.ref d) kvs.length (fun i v => ∃ k x t, kvs[i]? = some (k, x) ∧ v = .int k t) [d] := by
 intro A B L s Q hh ho hQ
 obtain ⟨ep, hat⟩ := (Dq.mp (ho.has (.inr ha))).dictAt
 have hne : d ≠ s.heap.objs.size := Nat.ne_of_lt (ho.has (.inr ha)).lt
 refine wpAny_pyIter_dict (by simpa using hd) hat (hQ s.heap.objs.size (fun i h => h.IsKeyIter s.heap.objs.size d i kvs.length ep ∧ h.DictAt (intKind c.prog c.w) d kvs ep) _ (Ext.push _ _) (Nat.le_refl _) ⟨_, Heap.get?_push_size _ rfl⟩ (fun A' hA => ?_) (fun i h st => ?_)
  ⟨⟨_, Heap.get?_push_size _ rfl, rfl, rfl⟩, hat.push _⟩)
 ·have W := Walks.dictKeys (knd := intKind c.prog c.w) hA s.heap.objs.size d hne kvs ep
  have e : (fun (i : Nat) (v : Value) => ∃ k x, kvs[i]? = some (k, x) ∧ (intKind c.prog c.w).is k v = true) = fun i v => ∃ k x t, kvs[i]? = some (k, x) ∧ v = .int k t := by
   funext i v
   refine propext ⟨fun ⟨k, x, h1, h2⟩ => ?_, fun ⟨k, x, t, h1, h2⟩ => ⟨k, x, h1, by subst h2; simp [intKind, Value.isInt]⟩⟩
   obtain ⟨t, rfl⟩ := Value.isInt_shape h2
   exact ⟨k, x, t, h1, rfl⟩
  rw [e] at W; exact W
 ·obtain ⟨⟨o, e, hcl, _⟩, _⟩ := st; exact ⟨o, e, _, hcl, by decide⟩
theorem Jm {d : Addr} {kvs : List (Int × Value)} {k : Int} {t : Tok} {dv : Value} {Q : Value → St → Prop} (hd : d ≠ sysModules) (ha : Has σ d (DF c kvs)) (h : Q ((valueAt kvs k).getD dv) σ) :
  V c L n (call (.builtin "dict.get") [.ref d, .int k t, dv]) Q σ :=
 fun A B s hr hb ho hg => by
  have hm := (Dq.mp (ho.has ha)).mapOf
  exact call_meetsIn PySem.F.slot_dict_get hm.typeIs PySem.F.entry_dict_get (PySem.F.args_dict_get_3 _ _ _) (meets_dict_get_default (intKind c.prog c.w) d (k := k) (by simp [intKind, Value.isInt]) (by simpa using hd) dv) ⟨_, hm, hg, rfl, σ, ho, h⟩
theorem FF {value slice : Expr} {d : Addr} {kvs : List (Int × Value)} {k : Int} {t : Tok} {x : Value} {Q : Value → St → Prop} (ha : Has σ d (DF c kvs)) (hv : valueAt kvs k = some x) (h : Q x σ) :
  V c L n (subscriptTail value slice (.ref d) (.int k t)) Q σ :=
 Fx (T := "dict") (fun _ _ s ho => (Dq.mp (ho.has ha)).typeIs) PySem.F.slot_dict_getitem.lookup fun A B s hr hb ho hg => wpAny_getItem_of (knd := intKind c.prog c.w) (k := k) (by simp [intKind, Value.isInt]) (Dq.mp (ho.has ha)).mapOf hv ⟨hg, rfl, σ, ho, h⟩
theorem Gd {d : Addr} {kvs : List (Int × Value)} {k : Int} {t : Tok} {v : Value} {Q : Unit → St → Prop} (hu : Upd m d (DF c kvs) (DF c (stored kvs k v)) m') (hl : kvs.length ≤ sizeLine) (h : Q () ⟨l, m', f, q⟩) :
  V c L n (setItem (.ref d) (.int k t) v) Q ⟨l, m, f, q⟩ :=
 fun A B s hr hb ho hg => wpAny_setItem_pairs (knd := intKind c.prog c.w) (k := k) (by simp [intKind, Value.isInt]) (Dq.mp (ho.has (.inl hu.mem))) (fun h' hd hs => ⟨hg, rfl, _, ho.setMut hu (Dq.mpr hd) hs.extBut, h⟩) hl
noncomputable abbrev PA (ns : List Nat) (vs : List Value) : Prop := AA (fun i v => ∃ t, v = Value.int (i : Nat) t) ns vs
theorem PA.items {ns : List Nat} {vs : List Value} (h : PA ns vs) : ∃ xs : Array (Int × Tok), vs.toArray = intItems xs ∧ xs.toList.map (·.1) = ns.map fun (i : Nat) => (i : Int) := by
 induction h with
 | nil => exact ⟨#[], by simp [intItems], rfl⟩
 | @cons i v is vs h1 _ ih =>
  obtain ⟨t, rfl⟩ := h1
  obtain ⟨xs, e1, e2⟩ := ih
  refine ⟨((i : Int), t) :: xs.toList |>.toArray, ?_, by simp [e2]⟩
  have e3 : vs = (intItems xs).toList := by rw [← e1]
  rw [e3]
  simp [intItems]
theorem Ny (ns : List Nat) : (ns.map fun (i : Nat) => (i : Int)).sum = (ns.sum : Nat) := by
 induction ns with
 | nil => rfl
 | cons a r ih => simp only [List.map_cons, List.sum_cons]; rw [ih]; rfl
theorem V_sum {a : Addr} {vs : List Value} {ns : List Nat} {Q : Value → St → Prop} (ha : Has σ a (.list vs)) (hn : PA ns vs) (h : ∀ t, Q (.int (ns.sum : Nat) t) σ) : V c L n (call (.builtin "sum") [.ref a]) Q σ :=
 fun A B s hr hb ho hg => by
  obtain ⟨xs, e1, e2⟩ := hn.items
  refine sum_intListG hr.hd (e1 ▸ (ho.has ha).list) fun h' tk t' hk => ⟨hg, rfl, σ, ho.ext hk, ?_⟩
  have e3 : preSum (numAt xs) xs.size = (ns.sum : Nat) := by
   rw [preSum_eq, List.take_of_length_le (by simp), e2, Ny]
  rw [e3]; exact h t'
theorem Nz {a b : Addr} {vs ws : List Value} {Q : Value → St → Prop} (hu : Upd m a (.list vs) (.list (vs ++ ws)) m') (hb' : Has ⟨l, m, f, q⟩ b (.list ws)) (hl : vs.length + ws.length ≤ sizeLine) (h : Q .none ⟨l, m', f, q⟩) :
  V c L n (call (.builtin "list.extend") [.ref a, .ref b]) Q ⟨l, m, f, q⟩ :=
 fun A B s hr hb ho hg => by
  refine Ae (fun G_ hG_ => ?_)
  obtain ⟨o, e, n1, rfl⟩ := ho.has (.inl hu.mem)
  obtain ⟨o2, e2, n2, rfl⟩ := ho.has hb'
  refine hG_ ?_
  clear hG_ G_
  have hsz' : vs.toArray.size + ws.toArray.size ≤ sizeLine := by simpa using hl
  refine call_meets PySem.F.slot_list_extend ⟨_, e, rfl⟩ PySem.F.entry_list_extend (PySem.F.args_list_extend_2 _ _) (AutoSeq1.list_extend_list_list_0 a vs.toArray n1 b ws.toArray n2 (PyProof.Rows.extend_door hsz') (Nat.le_trans (Nat.le_add_right _ _) hsz')) ⟨e, e2, ?_⟩
  have ho' := Heap.get?_update_self (Obj.mapSeq fun x => x ++ ws.toArray) e (by rw [PyProof.Rows.mapSeq_app]; rfl)
  rw [PyProof.Rows.mapSeq_app] at ho'
  refine ⟨hg, rfl, _, ho.setMut hu ⟨_, ho', ?_, ?_⟩ (Heap.SameBut.update ..).extBut, h⟩
  ·exact (if (vs.toArray ++ ws.toArray).size == vs.toArray.size then n1 else n1 + 1)
  ·simp
end
noncomputable def C3 (tb : List (Nat × Nat)) (k : Nat) : Nat := ((tb.find? fun p => p.1 == k).map (·.2)).getD 0
noncomputable def Jg (tb : List (Nat × Nat)) (k v : Nat) : List (Nat × Nat) := if tb.any (fun p => p.1 == k) = true then tb.map (fun p => if p.1 = k then (p.1, v) else p) else tb ++ [(k, v)]
noncomputable def B3 (len mask : Nat) : List Nat := (List.range len).filter fun k => mask / 2 ^ k % 2 == 1
noncomputable def Bc (pieces : List (List Nat)) (k s : Nat) : Bool := match pieces[k]? with | some p => p.contains s | none => false
noncomputable def Bh (pieces : List (List Nat)) (stars : List Bool) (here : List Nat) (s : Nat) : List Nat :=
 ((here.filter fun k => Bc pieces k s).map (· + 1)) ++ here.filter fun k => (stars[k]?.getD false) && !((here.filter fun k => Bc pieces k s).map (· + 1)).contains k
noncomputable def Ge (went : List Nat) : Nat := (went.map fun k => 2 ^ k).sum
noncomputable def AK (pieces : List (List Nat)) (stars : List Bool) (tb : List (Nat × Nat)) (mask : Nat) (sg : List Nat) (fr : List (Nat × Nat)) : List (Nat × Nat) :=
 sg.foldl (fun fr s => Jg fr (Ge (Bh pieces stars (B3 stars.length mask) s)) (C3 fr (Ge (Bh pieces stars (B3 stars.length mask) s)) + C3 tb mask)) fr
noncomputable def Cl (pieces : List (List Nat)) (stars : List Bool) (tb : List (Nat × Nat)) (sg : List Nat) : List (Nat × Nat) := tb.foldl (fun fr p => AK pieces stars tb p.1 sg fr) []
noncomputable def Bq (pieces : List (List Nat)) (stars : List Bool) (choices : List (List Nat)) : List (Nat × Nat) := choices.foldl (Cl pieces stars) [(1, 1)]
noncomputable def EC (pieces : List (List Nat)) (stars : List Bool) (choices : List (List Nat)) : Nat :=
 (((Bq pieces stars choices).filter fun p => p.1 / 2 ^ pieces.length == 1).map fun p => C3 (Bq pieces stars choices) p.1).sum
theorem NA (tb : List (Nat × Nat)) (k v : Nat) : (Jg tb k v).length ≤ tb.length + 1 := by unfold Jg; split <;> simp
noncomputable abbrev KV (tb : List (Nat × Nat)) (kvs : List (Int × Value)) : Prop := AA (fun p kv => kv.1 = ((p.1 : Nat) : Int) ∧ ∃ t, kv.2 = Value.int (p.2 : Nat) t) tb kvs
theorem KV.get {tb : List (Nat × Nat)} {kvs : List (Int × Value)} (h : KV tb kvs) (k : Nat) : ((tb.find? fun p => p.1 == k).map (·.2) = none ∧ valueAt kvs (k : Int) = none) ∨ ∃ v t, (tb.find? fun p => p.1 == k).map (·.2) = some v ∧ valueAt kvs (k : Int) = some (.int (v : Nat) t) := by
 induction h with
 | nil => exact .inl ⟨rfl, rfl⟩
 | @cons p kv ps kvs h1 _ ih =>
  obtain ⟨e1, t, e2⟩ := h1
  unfold valueAt at ih ⊢
  rw [List.find?_cons, List.find?_cons]
  by_cases hk : p.1 = k
  ·have hk' : kv.1 = (k : Int) := by rw [e1, hk]
   rw [show (p.1 == k) = true from by simpa using hk, show decide (kv.1 = (k : Int)) = true from by simpa using hk']
   exact .inr ⟨p.2, t, rfl, by rw [← e2]; rfl⟩
  ·have hk' : ¬ kv.1 = (k : Int) := by rw [e1]; clear e1; lia
   rw [show (p.1 == k) = false from by simpa using hk, show decide (kv.1 = (k : Int)) = false from by simpa using hk']
   exact ih
theorem KV.val {tb : List (Nat × Nat)} {kvs : List (Int × Value)} (h : KV tb kvs) (k : Nat) {u : Tok} : ∃ t, (valueAt kvs (k : Int)).getD (.int 0 u) = .int (C3 tb k : Nat) t := by
 rcases h.get k with ⟨h1, h2⟩ | ⟨v, t, h1, h2⟩
 ·exact ⟨u, by unfold C3; rw [h1, h2]; rfl⟩
 ·exact ⟨t, by unfold C3; rw [h1, h2]; rfl⟩
theorem KV.has {tb : List (Nat × Nat)} {kvs : List (Int × Value)} (h : KV tb kvs) {i : Nat} {p : Nat × Nat} (hp : tb[i]? = some p) : ∃ t, valueAt kvs (p.1 : Int) = some (.int (C3 tb p.1 : Nat) t) := by
 rcases h.get p.1 with ⟨h1, h2⟩ | ⟨v, t, h1, h2⟩
 ·have hm := List.mem_of_getElem? hp
  rw [Option.map_eq_none_iff, List.find?_eq_none] at h1
  exact absurd (beq_self_eq_true p.1) (h1 p hm)
 ·exact ⟨t, by unfold C3; rw [h1, h2]; rfl⟩
theorem KV.any {tb : List (Nat × Nat)} {kvs : List (Int × Value)} (h : KV tb kvs) (k : Nat) : (kvs.any fun kv => decide (kv.1 = (k : Int))) = tb.any fun p => p.1 == k := by
 induction h with
 | nil => rfl
 | @cons p kv ps kvs h1 _ ih =>
  obtain ⟨e1, _⟩ := h1
  rw [List.any_cons, List.any_cons, ih]
  congr 1
  rw [e1, Bool.eq_iff_iff]
  simp only [decide_eq_true_eq, beq_iff_eq]
  lia
theorem KV.put {tb : List (Nat × Nat)} {kvs : List (Int × Value)} (h : KV tb kvs) (k v : Nat) (t : Tok) : KV (Jg tb k v) (stored kvs (k : Int) (.int (v : Nat) t)) := by
 unfold stored Jg
 rw [h.any k]
 split
 ·induction h with
  | nil => exact .nil
  | @cons p kv ps kvs h1 _ ih =>
   rename_i hany
   rw [List.map_cons, List.map_cons]
   obtain ⟨e1, t1, e2⟩ := h1
   have aux : ∀ (ps : List (Nat × Nat)) (kvs : List (Int × Value)), KV ps kvs → KV (ps.map fun p => if p.1 = k then (p.1, v) else p) (kvs.map fun kv => if kv.1 = (k : Int) then (kv.1, .int (v : Nat) t) else kv) := by
    intro ps kvs hh
    induction hh with
    | nil => exact .nil
    | @cons p kv ps kvs h1 _ ih =>
     obtain ⟨e1, t1, e2⟩ := h1
     rw [List.map_cons, List.map_cons]
     refine .cons ?_ ih
     by_cases hk : p.1 = k
     ·rw [if_pos hk, if_pos (by rw [e1, hk])]; exact ⟨e1, t, rfl⟩
     ·rw [if_neg hk, if_neg (by rw [e1]; lia)]; exact ⟨e1, t1, e2⟩
   refine .cons ?_ (aux _ _ ‹_›)
   by_cases hk : p.1 = k
   ·rw [if_pos hk, if_pos (by rw [e1, hk])]; exact ⟨e1, t, rfl⟩
   ·rw [if_neg hk, if_neg (by rw [e1]; lia)]; exact ⟨e1, t1, e2⟩
 ·exact h.append (.cons ⟨rfl, t, rfl⟩ .nil)
section
variable {c : Cx} {L : Addr} {n : Nat} {σ : St} {l : Loc} {m m' f q : Led}
theorem LX {k : Nat} {t u : Tok} {Q : Value → St → Prop} (hk : k ≤ 64) (h : ∀ t, Q (.int ((2 ^ k : Nat) : Int) t) σ) : V c L n (binaryOp .Pow (.int 2 t) (.int (k : Nat) u)) Q σ :=
 LI (by simp) (by rw [show Builtin.Int.intBits 2 = 2 from by decide +kernel]; lia) fun t => by
  have : ((2 : Int) ^ (k : Int).toNat) = ((2 ^ k : Nat) : Int) := by rw [Int.toNat_natCast]; simp
  rw [this]; exact h t
theorem ED {a b : Nat} {t u : Tok} {Q : Value → St → Prop} (hb : b ≠ 0) (hb2 : b < 1073741824) (h : ∀ t, Q (.int ((a / b : Nat) : Int) t) σ) : V c L n (binaryOp .FloorDiv (.int (a : Nat) t) (.int (b : Nat) u)) Q σ :=
 Gq (by lia) (PyProof.noPylong_small (by assumption)) fun t => by
  have : Int.fdiv (a : Int) (b : Int) = ((a / b : Nat) : Int) := by rw [Int.fdiv_eq_ediv_of_nonneg _ (by clear hb; exact Int.natCast_nonneg _)]; rfl
  rw [this]; exact h t
theorem LY {a : Nat} {t u : Tok} {Q : Value → St → Prop} (h : ∀ t, Q (.int ((a % 2 : Nat) : Int) t) σ) : V c L n (binaryOp .Mod (.int (a : Nat) t) (.int 2 u)) Q σ :=
 Dl (by decide) fun t => by
  have : Int.fmod (a : Int) 2 = ((a % 2 : Nat) : Int) := by rw [Int.fmod_eq_emod_of_nonneg _ (by simp)]; rfl
  rw [this]; exact h t
theorem Ty.dict {d : Addr} {kvs : List (Int × Value)} (h : Has σ d (DF c kvs)) : Ty σ (.ref d) "dict" := fun _ _ s ho => by
 obtain ⟨o, e, h1, _⟩ := ho.has h
 exact ⟨⟨_, e, h1.1⟩, fun b q => by cases q; exact ⟨_, e, h1.2.1⟩⟩
theorem M_get {ov : Value} {R : String → String → Prop} (ht : Ty σ ov "dict") (h : R "dict" "dict.get") : ∃ T id, PlainAttrs T ∧ Slot T (ofString "get") id ∧ typeOf (.builtin id) = pure (.type "method_descriptor") ∧ Ty σ ov T ∧ R T id :=
 ⟨_, _, PySem.F.plainAttrs_dict, PySem.F.slot_dict_get, PySem.F.type_dict_get, ht, h⟩
end
theorem Gg {pieces : List (List Nat)} {stars : List Bool} {choices : List (List Nat)} {i : Nat} {sg : List Nat} (h : choices[i]? = some sg) :
  Bq pieces stars (choices.take (i + 1)) = Cl pieces stars (Bq pieces stars (choices.take i)) sg := by
 unfold Bq
 rw [List.take_add_one, h, List.foldl_append]; rfl
theorem HG {α β : Type} (g : β → α → β) (b : β) {l : List α} {i : Nat} {a : α} (h : l[i]? = some a) : (l.take (i + 1)).foldl g b = g ((l.take i).foldl g b) a := by
 rw [List.take_add_one, h, List.foldl_append]; rfl
theorem D7 (pieces : List (List Nat)) (stars : List Bool) (tb : List (Nat × Nat)) (mask : Nat) : ∀ (sg : List Nat) (fr : List (Nat × Nat)), (AK pieces stars tb mask sg fr).length ≤ fr.length + sg.length
 | [], fr => Nat.le_refl _
 | s :: r, fr => by
  have h := D7 pieces stars tb mask r (Jg fr (Ge (Bh pieces stars (B3 stars.length mask) s)) (C3 fr (Ge (Bh pieces stars (B3 stars.length mask) s)) + C3 tb mask))
  have h2 := NA fr (Ge (Bh pieces stars (B3 stars.length mask) s)) (C3 fr (Ge (Bh pieces stars (B3 stars.length mask) s)) + C3 tb mask)
  show (AK pieces stars tb mask r _).length ≤ _
  simp only [List.length_cons]; lia
theorem DY (pieces : List (List Nat)) (stars : List Bool) (sg : List Nat) (hs : sg.length ≤ 4) (tb0 : List (Nat × Nat)) : ∀ (tb : List (Nat × Nat)) (fr : List (Nat × Nat)), (tb.foldl (fun fr p => AK pieces stars tb0 p.1 sg fr) fr).length ≤ fr.length + 4 * tb.length
 | [], fr => Nat.le_refl _
 | p :: r, fr => by
  have h := DY pieces stars sg hs tb0 r (AK pieces stars tb0 p.1 sg fr)
  have h2 := D7 pieces stars tb0 p.1 sg fr
  simp only [List.foldl_cons, List.length_cons]; lia
theorem D8 (pieces : List (List Nat)) (stars : List Bool) : ∀ (choices : List (List Nat)) (tb : List (Nat × Nat)), (∀ x ∈ choices, x.length ≤ 4) → (choices.foldl (Cl pieces stars) tb).length ≤ 4 ^ choices.length * tb.length
 | [], tb, _ => by simp
 | sg :: r, tb, h => by
  have h1 := D8 pieces stars r (Cl pieces stars tb sg) fun x hx => h x (List.mem_cons_of_mem _ hx)
  have h2 := DY pieces stars sg (h sg List.mem_cons_self) tb tb []
  have h3 : (Cl pieces stars tb sg).length ≤ 4 * tb.length := by simpa [Cl] using h2
  rw [List.foldl_cons, List.length_cons, Nat.pow_succ]
  calc _ ≤ 4 ^ r.length * (Cl pieces stars tb sg).length := h1
   _ ≤ 4 ^ r.length * (4 * tb.length) := Nat.mul_le_mul_left _ h3
   _ = _ := by rw [Nat.mul_assoc]
theorem HH {len mask k : Nat} (h : k ∈ B3 len mask) : k < len := List.mem_range.mp (List.mem_filter.mp h).1
section
variable {c : Cx} {L : Addr} {n : Nat} {σ : St} {l : Loc} {m m' f q : Led}
theorem HI {d : Addr} {tb : List (Nat × Nat)} {kvs : List (Int × Value)} {k : Nat} {t u : Tok} {Q : Value → St → Prop} (hK : KV tb kvs) (hd : d ≠ sysModules) (ha : Has σ d (DF c kvs)) (h : ∀ t, Q (.int (C3 tb k : Nat) t) σ) :
  V c L n (call (.builtin "dict.get") [.ref d, .int (k : Nat) t, .int 0 u]) Q σ :=
 Jm hd ha (by obtain ⟨t', e⟩ := hK.val k (u := u); rw [e]; exact h t')
theorem NB (k : Nat) : ∀ {is : List Nat} {vs : List Value}, PA is vs → (vs.any fun v => match v with | .int i _ => i == (k : Int) | _ => false) = is.contains k := by
 intro is vs t
 induction t with
 | nil => rfl
 | @cons i v is vs h1 t ih =>
  obtain ⟨t6, rfl⟩ := h1
  rw [List.any_cons, List.contains_cons, ih]
  congr 1
  show (((i : Nat) : Int) == (k : Int)) = (k == i)
  rw [Bool.eq_iff_iff]; simp only [beq_iff_eq]; lia
theorem HJ {a : Addr} {vs : List Value} {ns : List Nat} {k : Nat} {t : Tok} {Q : Value → St → Prop} (ha : Has σ a (.list vs)) (hn : PA ns vs) (h : Q (.bool (!ns.contains k)) σ) : V c L n (compareOp .NotIn (.int (k : Nat) t) (.ref a)) Q σ := by
 refine ET (fun v => match v with | .int i _ => i == (k : Int) | _ => false) ha (fun y hy => ?_) ?_
 ·obtain ⟨j, hj, rfl⟩ := List.getElem_of_mem hy
  obtain ⟨i, _, t5, e5⟩ := hn.get (List.getElem?_eq_getElem hj)
  rw [e5]
  exact EqV.ints
 ·rw [NB k hn]; exact h
end
theorem H7 {prog : Program} {w : World} {A : Around} {E : Value → Shared → Prop} {s : Shared} {l : Addr} {items : Array Value} {k : Nat} {x : Int} {u : Tok} {Q : Value → Shared → Prop}
  (hl : s.heap.get? l = some { cls := .type "list", dict := none, data := .seq items k, slots := #[] })
  (hlo : -(2 ^ 63 : Int) ≤ x) (hhi : x < 2 ^ 63) (hsz : items.size * x.toNat ≤ 2 ^ 24)
  (h : Q (.ref s.heap.objs.size) { s with heap := s.heap.push { cls := .type "list", data := .seq (List.foldl (fun x1 x2 => x1 ++ x2) #[] (List.replicate (if items.isEmpty = true then 0 else x.toNat) items)) } }) :
  wpAny (model prog w) A (binaryOp .Mult (.ref l) (.int x u)) Q E s :=
 wpAny_binaryOp_repeat_ref (T := "list") (U := "int") (by decide) ⟨_, hl, rfl⟩ (fun s' => typeIs_int s' x u) noFill_list_mul PySem.F.fills_int_mul PySem.F.slot_int_rmul repeat_list PySem.F.slot_int_index.lookup
  (call_meets PySem.F.slot_int_rmul (typeIs_int s x u) PySem.F.entry_int_rmul (PySem.F.args_int_rmul_2 _ _) (int___rmul___int_list x u l items k)
   ⟨hl, rfl, ⟨_, hl, rfl⟩, call_meets PySem.F.slot_list_mul ⟨_, hl, rfl⟩ PySem.F.entry_list_mul (PySem.F.args_list_mul_2 _ _)
    (AutoListH.list___mul___list_int_3 l items k x u (by simp [Builtin.List.listFitsIndex]; lia) (by lia) (by simp [Builtin.List.listTooLong, sizeLine]; assumption))
    ⟨hl, h⟩⟩)
section
variable {c : Cx} {L : Addr} {n : Nat} {σ : St} {α β : Type} {e : Env} {l l' : Loc} {m m' f q : Led}
theorem LZ (vs : List Value) : ∀ (j : Nat) (acc : Array Value), List.foldl (fun x1 x2 => x1 ++ x2) acc (List.replicate j vs.toArray) = acc ++ ((List.replicate j vs).flatten).toArray
 | 0, acc => by simp
 | j + 1, acc => by
  rw [List.replicate_succ, List.foldl_cons, LZ vs j, List.replicate_succ, List.flatten_cons]
  simp
theorem KH {a : Addr} {vs : List Value} {j : Nat} {u : Tok} {Q : Value → St → Prop} (ha : Has ⟨l, m, f, q⟩ a (.list vs)) (hne : vs ≠ []) (hj : j ≤ 2 ^ 20) (hsz : vs.length * j ≤ 2 ^ 24)
  (h : ∀ r, Q (.ref r) ⟨l, (r, .list (List.replicate j vs).flatten) :: m, f, q⟩) : V c L n (binaryOp .Mult (.ref a) (.int (j : Nat) u)) Q ⟨l, m, f, q⟩ := fun A B s hr hb ho hg => by
 obtain ⟨o, hl, k, rfl⟩ := ho.has ha
 have e : (if vs.toArray.isEmpty = true then 0 else ((j : Nat) : Int).toNat) = j := by
  rw [if_neg (by simpa using hne), Int.toNat_natCast]
 refine H7 hl (by simp) (by lia) (by rw [List.size_toArray, Int.toNat_natCast]; exact hsz) ?_
 rw [e, LZ]
 refine ⟨hg, rfl, _, ho.newMut (o := .list (List.replicate j vs).flatten) (Ext.push _ _) (Nat.le_refl _) ⟨_, Heap.get?_push_size _ rfl, 0, ?_⟩, h _⟩
 rw [Array.empty_append]
theorem KI {a : Nat} {t u : Tok} {Q : Value → St → Prop} (h : ∀ t, Q (.int ((a / 2 : Nat) : Int) t) σ) : V c L n (binaryOp .FloorDiv (.int (a : Nat) t) (.int 2 u)) Q σ := ED (b := 2) (by decide) (by decide) h
theorem EW {value slice : Expr} {a : Addr} {vs : List Value} {u : Tok} {x : Value} {Q : Value → St → Prop} (ha : Has σ a (.list vs)) (hx : vs[0]? = some x) (h : Q x σ) : V c L n (subscriptTail value slice (.ref a) (.int 0 u)) Q σ := DS ha (by decide) (by decide) hx h
end
noncomputable def BG : List (List Nat × Stp) := [([40, 63, 62], .hold), ([41], .free), ([46, 42, 63], .least), ([46, 42], .most), ([40, 63, 33, 41], .set []), ([46], .set [33, 45, 97, 98])]
noncomputable def HK (x : List Nat) (k : Nat) (w : List Nat × Stp) : Bool := decide (cut x (some (k : Int)) (some ((k : Int) + (w.1.length : Nat))) = w.1)
noncomputable def B0 (x : List Nat) (k : Nat) : Option Stp × Nat := match BG.filter (HK x k) with
 | w :: _ => (some w.2, k + w.1.length)
 | [] => if at1 x k = [91] then ((BQ x (k + 1)).1.map Stp.set, (BQ x (k + 1)).2) else (none, k + 1)
noncomputable def Bi (x : List Nat) : Nat → Nat → List (Option Stp) → List (Option Stp)
 | 0, _, acc => acc
 | fuel + 1, k, acc => if k < x.length then Bi x fuel (B0 x k).2 (acc ++ [(B0 x k).1]) else acc
noncomputable def Cn : Option Stp → Bool
 | some .hold => true
 | some .free => true
 | _ => false
noncomputable def KJ : Option Stp → List Nat
 | some .hold => [104, 111, 108, 100]
 | some .free => [102, 114, 101, 101]
 | _ => []
noncomputable def FG (s : List (Option Stp)) : Bool := decide ((s.filter Cn).map KJ = (List.replicate ((s.filter Cn).length / 2) [[104, 111, 108, 100], [102, 114, 101, 101]]).flatten)
noncomputable def C6 (x : List Nat) : Option (List Stp) :=
 if FG (Bi x (x.length + 1) 0 []) && !(Bi x (x.length + 1) 0 []).contains none then some ((Bi x (x.length + 1) 0 []).filterMap id) else none
theorem V_gen {c : Cx} {L : Addr} {n : Nat} {σ : St} {α : Type} {t : Sem α} {Q : α → St → Prop} (J : St → Prop) (hj : J σ) (h : ∀ σ', J σ' → V c L n t Q σ') : V c L n t Q σ := h σ hj
theorem NC (x : List Nat) (lo : List Nat × Nat) : lo.2 ≤ (Ck x lo).2 := by
 unfold Ck
 split
 ·have := K6 x (lo.2 + 1); exact Nat.le_of_lt (Nat.lt_trans (Nat.lt_succ_self _) this)
 ·exact Nat.le_refl _
theorem Gy (x : List Nat) (front : Nat) : ∀ (fuel k : Nat) (found : List Nat), k ≤ (BU x front fuel k found).2
 | 0, k, _ => Nat.le_refl _
 | fuel + 1, k, found => by
  have h1 := K6 x k
  have h2 := NC x (one x k)
  unfold BU
  split
  ·exact Nat.le_refl _
  ·split
   ·simp only []; exact Nat.le_of_lt (Nat.lt_of_lt_of_le h1 h2)
   ·exact Nat.le_trans (by exact Nat.le_of_lt (Nat.lt_of_lt_of_le h1 h2)) (Gy x front fuel _ _)
theorem M0 (x : List Nat) (k : Nat) : k ≤ (BQ x k).2 := by
 unfold BQ
 simp only []
 have h := Gy x (if decide (at1 x k = [94]) = true then k + 1 else k) (x.length + 1) (if decide (at1 x k = [94]) = true then k + 1 else k) []
 have h2 : k ≤ (if decide (at1 x k = [94]) = true then k + 1 else k) := by split <;> lia
 split
 ·rename_i q; rw [q] at h; exact Nat.le_trans h2 h
 ·rename_i q; rw [q] at h; exact Nat.le_succ_of_le (Nat.le_trans h2 h)
theorem FH (x : List Nat) (k : Nat) : k + 1 ≤ (B0 x k).2 := by
 unfold B0
 split
 ·rename_i w r q
  have hm : w ∈ BG := (List.mem_filter.mp (by rw [q]; exact List.mem_cons_self)).1
  have : 1 ≤ w.1.length := by
   simp only [BG, List.mem_cons, List.not_mem_nil, or_false] at hm
   rcases hm with rfl | rfl | rfl | rfl | rfl | rfl <;> simp
  simp only []; lia
 ·split
  ·exact M0 x (k + 1)
  ·exact Nat.le_refl _
theorem HL (xs ys : List (List Nat)) (h : xs.length = ys.length) : ((List.range xs.length).all fun j => decide (xs[j]? = ys[j]?)) = decide (xs = ys) := by
 rw [Bool.eq_iff_iff, List.all_eq_true, decide_eq_true_eq]
 constructor
 ·intro q
  refine List.ext_getElem? fun j => ?_
  by_cases hj : j < xs.length
  ·exact of_decide_eq_true (q j (List.mem_range.mpr hj))
  ·rw [List.getElem?_eq_none (by exact Nat.le_of_not_lt hj), List.getElem?_eq_none (by exact Nat.le_trans (Nat.le_of_eq h.symm) (Nat.le_of_not_lt hj))]
 ·intro q j _
  rw [q]; simp
theorem KK {c : Cx} {L : Addr} {n : Nat} {σ : St} {a b : Addr} {xs ys : List (List Nat)} {vs ws : List Value} {Q : Value → St → Prop} (ha : Has σ a (.list vs)) (hb : Has σ b (.list ws)) (hx : Bk xs vs) (hy : Bk ys ws)
  (h : Q (.bool (decide (xs = ys))) σ) : V c L n (compareOp .Eq (.ref a) (.ref b)) Q σ := by
 have l1 := hx.length
 have l2 := hy.length
 by_cases hl : xs.length = ys.length
 ·refine Gv (fun j => decide (xs[j]? = ys[j]?)) ha hb (by exact Nat.le_antisymm (Nat.le_trans (Nat.le_trans (Nat.le_of_eq l1.symm) (Nat.le_of_eq hl)) (Nat.le_of_eq l2)) (Nat.le_trans (Nat.le_trans (Nat.le_of_eq l2.symm) (Nat.le_of_eq hl.symm)) (Nat.le_of_eq l1))) (fun j h1 h2 => ?_) ?_
  ·refine Ae (fun G_ hG_ => ?_)
   obtain ⟨x, ex, t, e1⟩ := hx.get (List.getElem?_eq_getElem h1)
   obtain ⟨y, ey, u, e2⟩ := hy.get (List.getElem?_eq_getElem h2)
   refine hG_ ?_
   clear hG_ G_
   rw [e1, e2, ex, ey]
   have : decide (some x = some y) = decide (x = y) := by simp
   rw [this]; exact EqV.strs
  ·rw [← l1, HL xs ys hl]; exact h
 ·refine DM ha hb (by lia) ?_
  rw [decide_eq_false fun q => hl (by rw [q])] at h
  exact h
theorem AA.flatten_rep {α β : Type} {R : α → β → Prop} {as : List α} {bs : List β} (h : AA R as bs) : ∀ j : Nat, AA R (List.replicate j as).flatten (List.replicate j bs).flatten
 | 0 => .nil
 | j + 1 => by rw [List.replicate_succ, List.replicate_succ, List.flatten_cons, List.flatten_cons]; exact h.append (AA.flatten_rep h j)
section
variable {c : Cx} {L : Addr} {n : Nat} {σ : St}
theorem M1 {a : Addr} {Q : Value → St → Prop} (h : Q (.bool true) σ) : V c L n (compareOp .Is (.ref a) (.ref a)) Q σ := AE _ (fun _ _ _ _ h => wpAny_is_ref_self h) h
theorem Dr {a : Addr} {Q : Value → St → Prop} (h : Q (.bool false) σ) : V c L n (compareOp .IsNot (.ref a) (.ref a)) Q σ := AE _ (fun _ _ _ _ h => wpAny_isNot_ref_self h) h
theorem D9 {x : PySem.Str} {t : Tok} {a : Addr} {Q : Value → St → Prop} (h : Q (.bool true) σ) : V c L n (compareOp .IsNot (.str x t) (.ref a)) Q σ := AE _ (fun _ _ _ _ h => wpAny_isNot_other rfl (fun q => nomatch q) h) h
theorem V_is_str {x : PySem.Str} {t : Tok} {a : Addr} {Q : Value → St → Prop} (h : Q (.bool false) σ) : V c L n (compareOp .Is (.str x t) (.ref a)) Q σ := AE _ (fun _ _ _ _ h => wpAny_is_other rfl (fun q => nomatch q) h) h
end
local macro_rules | `(tactic| tb_rel) => `(tactic| with_reducible first
 | apply List.mem_cons_self
 | assumption
 | apply mem1
 | apply mem2
 | apply mem3
 | apply mem4
 | apply mem5
 | apply mem6
 | apply mem7
 | apply mem8
 | (refine List.mem_cons_of_mem _ ?_; tb_rel)
 | (refine List.mem_append_left _ ?_; tb_rel)
 | (refine List.mem_append_right _ ?_; tb_rel))
local macro_rules | `(tactic| top_args) => `(tactic| first
 | (refine Or.inl ?_; tb_rel; done)
 | (refine Or.inr (Or.inl ?_); tb_rel; done)
 | (refine Or.inr (Or.inr ?_); tb_rel; done)
 | assumption)
local macro_rules | `(tactic| top_caught) => `(tactic| with_reducible first
 | apply Hl.head
 | (refine' Hl.tail ?b1; (case b1 => top_caught))
 | apply Upd.head
 | (refine' Upd.tail ?b1; (case b1 => top_caught))
 | apply Rem.head
 | (refine' Rem.tail ?b1; (case b1 => top_caught)))
noncomputable def KLone : List (PySem.Str × NameKind) := [(ofString "text", .local), (ofString "k", .local), (ofString "sign", .local)]
theorem M2 : (Al 11).names = [(ofString "text", .local), (ofString "k", .local), (ofString "sign", .local)] := by rfl
noncomputable def FI (x : List Nat) (k : Int) : List Nat × Int :=
 if cut x (some k) (some (k + 1)) = [92] then (if Nn (cut x (some (k + 1)) (some (k + 2))) KF = true then [] else cut x (some (k + 1)) (some (k + 2)), k + 2)
 else (cut x (some k) (some (k + 1)), k + 1)
theorem M3 {x : List Nat} {k : Int} (h : 0 ≤ k) : (cut x (some k) (some (k + 1))).length ≤ 1 := by
 obtain ⟨k, rfl⟩ := Int.eq_ofNat_of_zero_le h
 show (cut x (some ((k : Nat) : Int)) (some ((k + 1 : Nat) : Int))).length ≤ 1
 simp only [cut, List.length_drop, List.length_take, Bb]
 omega
theorem ND {x : List Nat} {k : Int} (h : 0 ≤ k) : (cut x (some (k + 1)) (some (k + 2))).length ≤ 1 :=
 (Int.add_assoc k 1 1) ▸ M3 (Int.le_add_one h)
section
variable {c : Cx} {n : Nat}
theorem NE (hc : c.Ok) {a : Addr} (F : D0 c a (ofString "_law_one") [ofString "text", ofString "k"] (Av 11) (Al 11)) {x : List Nat} {k : Int} {t u : Tok}
  (hx : x.length ≤ 2 ^ 20) (hk : 0 ≤ k) :
  Hp c 1 (.ref a) [.str (S x) t, .int k u] [] (fun v nz => ∃ r t1 t2, v = .ref r ∧ nz = [(r, .tup [.str (S (FI x k).1) t1, .int (FI x k).2 t2])]) := by
 refine DT hc F M2 rfl rfl rfl (by decide) (by decide) rfl (by decide) fun L e he _ => ?_
 have hs : x.length ≤ sizeLine := by rw [sizeLine_eq]; exact Nat.le_trans (by assumption) (by decide)
 show V c L 0 (execs (Av 11) e) _ ⟨[(ofString "text", some (.str (S x) t)), (ofString "k", some (.int k u)), (ofString "sign", none)], [], [], []⟩
 refine AB ?_
 with_reducible
  refine A3 ?_
  refine F3 (BL (Bs (by assumption) (by tb_rel) (by tb_rel)) (Ax (AF (Ap (by assumption) (by tb_rel) (by tb_rel)) Ak)) (Ax (AF (Ap (by assumption) (by tb_rel) (by tb_rel)) Ak)) (by assumption)) ?_; intro _
  refine A8 (by assumption) (by tb_rel) (by top_caught) ?_
  refine A7 ?_; intro K_ hK_
  refine Ci ?_; intro K_ hK_
  refine Ct (Aq (BL (Bs (by assumption) (by tb_rel) (by tb_rel)) (Ax (Ap (by assumption) (by tb_rel) (by tb_rel))) (Ax (AF (Ap (by assumption) (by tb_rel) (by tb_rel)) Ak)) (by assumption)) (AY Qe) Hz) ?_
  refine hK_ _ _ ?_; clear hK_ K_
 have h1 := M3 (x := x) hk
 refine Ab (fun h => ?_) (fun h => ?_)
 ·have h' : ¬ cut x (some k) (some (k + 1)) = [92] := by simpa using h
  with_reducible
   refine A7 ?_; intro K_ hK_
   refine BC ?_
   refine Aw ?_
   refine A0 ?_
   refine F3 (BL (Bs (by assumption) (by tb_rel) (by tb_rel)) (Ax (Ap (by assumption) (by tb_rel) (by tb_rel))) (Ax (AF (Ap (by assumption) (by tb_rel) (by tb_rel)) Ak)) (by assumption)) ?_; intro _
   refine A0 ?_
   refine B1 (AF (Ap (by assumption) (by tb_rel) (by tb_rel)) Ak) ?_; intro _
   refine A2 ?_
   refine A6 (by with_unfolding_all exact Nat.le_of_ble_eq_true rfl) ?_; intro _
   refine hK_ _ _ ?_; clear hK_ K_
   refine hK_ _ _ ?_; clear hK_ K_
  rw [show FI x k = _ from if_neg h']
  exact ⟨_, [_], rfl, ⟨_, _, _, rfl, rfl⟩, fun p hp => .inl hp⟩
 ·have h' : cut x (some k) (some (k + 1)) = [92] := by simpa using h
  with_reducible
   refine Au ?_
   refine hK_ _ _ ?_; clear hK_ K_
   refine A7 ?_; intro K_ hK_
   refine BC ?_
   refine Aw ?_
   refine A0 ?_
   refine BS ?_
   refine A4 ?_
   refine AJ (by assumption) (by tb_rel) (by tb_rel) ?_
   refine AP lit20 ?_; intro _
  refine JZ (ND (by omega)) ?_
  with_reducible
   refine A1 ?_
  refine Ab (fun h2 => ?_) (fun h2 => ?_)
  ·with_reducible
    refine AP D3 ?_; intro _
    refine A0 ?_
    refine B1 (AF (Ap (by assumption) (by tb_rel) (by tb_rel)) Ak) ?_; intro _
    refine A2 ?_
    refine A6 (by with_unfolding_all exact Nat.le_of_ble_eq_true rfl) ?_; intro _
    refine hK_ _ _ ?_; clear hK_ K_
   rw [show FI x k = _ from if_pos h', if_pos (show Nn _ KF = true from h2)]
   exact ⟨_, [_], rfl, ⟨_, _, _, rfl, rfl⟩, fun p hp => .inl hp⟩
  ·with_reducible
    refine AJ (by assumption) (by tb_rel) (by tb_rel) ?_
    refine A0 ?_
    refine B1 (AF (Ap (by assumption) (by tb_rel) (by tb_rel)) Ak) ?_; intro _
    refine A2 ?_
    refine A6 (by with_unfolding_all exact Nat.le_of_ble_eq_true rfl) ?_; intro _
    refine hK_ _ _ ?_; clear hK_ K_
   rw [show FI x k = _ from if_pos h', if_neg (show ¬ Nn _ KF = true from by rw [show Nn _ KF = false from h2]; decide)]
   exact ⟨_, [_], rfl, ⟨_, _, _, rfl, rfl⟩, fun p hp => .inl hp⟩
theorem KM (x : List Nat) (k : Nat) : FI x (k : Int) = ((one x k).1, ((one x k).2 : Int)) := by
 unfold FI one
 rw [EB, Jk]
 by_cases h : at1 x k = [92]
 ·rw [if_pos h, if_pos h]; rfl
 ·rw [if_neg h, if_neg h]; rfl
theorem HM (hc : c.Ok) {a : Addr} (F : D0 c a (ofString "_law_one") [ofString "text", ofString "k"] (Av 11) (Al 11)) {x : List Nat} {k : Nat} {t u : Tok} (hx : x.length ≤ 2 ^ 20) :
  Hp c 1 (.ref a) [.str (S x) t, .int (k : Int) u] [] (fun v nz => ∃ r t1 t2, v = .ref r ∧ nz = [(r, .tup [.str (S (one x k).1) t1, .int ((one x k).2 : Nat) t2])]) := by
 have := NE hc F (x := x) (k := k) (t := t) (u := u) hx (by simp)
 rw [KM] at this
 exact this
end
theorem KN : (Al 14).names = [(ofString "steps", .local), (ofString "name", .cell), (ofString "ways", .cell), (ofString "step", .cell), (ofString "range", .globalImplicit), (ofString "len", .globalImplicit)] := by rfl
inductive Q7 (fs : Led) (l : List Nat) (v : Value) : Prop
 | mk (a : Addr) (vs : List Value) (h1 : v = .ref a) (h2 : (a, D.list vs) ∈ fs) (h3 : AA (fun ch y => ∃ t, y = .str (S [ch]) t) l vs)
noncomputable def DZ (fs : Led) : Stp → Value → Prop
 | .hold, v => ∃ t, v = .str (S [104, 111, 108, 100]) t
 | .free, v => ∃ t, v = .str (S [102, 114, 101, 101]) t
 | .least, v => ∃ t, v = .str (S [108, 101, 97, 115, 116]) t
 | .most, v => ∃ t, v = .str (S [109, 111, 115, 116]) t
 | .set l, v => Q7 fs l v
inductive FJ (fs : Led) (w : Nat × Nat) (v : Value) : Prop
 | mk (a : Addr) (t u : Tok) (h1 : v = .ref a) (h2 : (a, D.tup [.int (w.1 : Nat) t, .int (w.2 : Nat) u]) ∈ fs)
section
variable {c : Cx} {n : Nat}
theorem M4 (hc : c.Ok) {a : Addr} (F : D0 c a (ofString "_law_ends") [ofString "steps", ofString "name"] (Av 14) (Al 14)) (hlen : c.mg (ofString "len") = none) (hlen' : c.mb (ofString "len") = some (.builtin "len"))
  (hran : c.mg (ofString "range") = none) (hran' : c.mb (ofString "range") = some (.type "range"))
  {b : Addr} {sv : List Value} {steps : List Stp} {name : List Nat} {t : Tok} {fs : Led} (hb : (b, D.list sv) ∈ fs) (hsv : AA (DZ fs) steps sv) (hname : name.length ≤ 4) (hW : ∀ k, (DO name (steps.take k) [(0, 0)]).length ≤ 1000) :
  Hp c 1 (.ref a) [.ref b, .str (S name) t] fs (fun v nz => ∃ r ys, v = .ref r ∧ nz = [(r, .list ys)] ∧ AA (fun p y => ∃ t, y = .int (p : Nat) t) (Nx steps name) ys) := by
 refine DT hc F KN rfl rfl rfl (by decide) (by decide) rfl (by decide) fun L e he0 _ => ?_
 have he : Ag e L [(ofString "steps", .local), (ofString "name", .cell), (ofString "ways", .cell), (ofString "step", .cell), (ofString "range", .globalImplicit), (ofString "len", .globalImplicit)]
  [(ofString "step", L + 1 + 1 + 1), (ofString "ways", L + 1 + 1), (ofString "name", L + 1)] := he0
 clear he0
 show V c L 0 (execs (Av 14) e) _ ⟨[(ofString "steps", some (.ref b))], [(L + 1 + 1 + 1, .cell none), (L + 1 + 1, .cell none), (L + 1, .cell (some (.str (S name) t)))], [], fs⟩
 refine AB ?_
 with_reducible
  refine A3 ?_
  refine Bo ?_
  refine A0 ?_
  refine Aw ?_
  refine A0 ?_
  refine AC ?_; intro _
  refine A0 ?_
  refine AC ?_; intro _
  refine A2 ?_
  refine A6 (by with_unfolding_all exact Nat.le_of_ble_eq_true rfl) ?_; intro _
  refine A2 ?_
  refine Ao (by with_unfolding_all exact Nat.le_of_ble_eq_true rfl) ?_; intro _
  refine Aj (by assumption) (by tb_rel) (by tb_rel) (by top_caught) ?_
  refine A7 ?_; intro K_ hK_
 refine Am _ (by top_caught) ?_
 refine Ed ?_
 with_reducible
  refine AJ (by assumption) (by tb_rel) (by tb_rel) ?_
 refine ⟨_, _, [b], BP.list (.inr hb), (fun x hx => .inr (by rw [List.mem_singleton.mp hx]; exact List.mem_map_of_mem (f := (·.1)) hb)),
  fun i σ => Ex4 fun (w : Option Value) (r : Addr) (ys : List Value) (f : Led) => Q3 (σ = ⟨[((ofString "steps"), some (.ref b))], [(L + 1 + 1 + 1, .cell w), (L + 1 + 1, .cell (some (.ref r))), (L + 1, .cell (some (.str (S name) t)))], f, fs⟩) ((r, D.list ys) ∈ f) (AA (FJ f) (DO name (steps.take i) [(0, 0)]) ys), ?_, ?_, ?_⟩
 ·refine ⟨_, _, _, _, rfl, by tb_rel, ?_⟩
  exact AA.cons ⟨_, _, _, rfl, show (_, D.tup [.int 0 _, .int 0 _]) ∈ _ from by tb_rel⟩ .nil
 ·intro i v σ₂ hi hP hI K_ hK_
  refine Ae (fun G_ hG_ => ?_)
  obtain ⟨w, r, ys, f, rfl, hr, hys⟩ := hI
  obtain ⟨st, hst, hv⟩ := hsv.get hP
  refine hG_ ?_
  clear hG_ G_
  have hWi := hW i
  have hle : ∀ w ∈ DO name (steps.take i) [(0, 0)], w.2 ≤ name.length := LP _ _ (by simp)
  have hrun : DO name (steps.take (i + 1)) [(0, 0)] = st.run name (DO name (steps.take i) [(0, 0)]) := by
   rw [List.take_add_one, hst]; simp [DO]
  refine gen (DO name (steps.take i) [(0, 0)]) (fun ws hws => ?_)
  rw [← hws] at hys hWi hrun hle
  have hlen2 := hys.length
  have hys62 : ys.length < 2 ^ 62 := by exact Nat.lt_of_le_of_lt (Nat.le_trans (Nat.le_of_eq hlen2.symm) hWi) (by decide)
  have hn62 : name.length < 2 ^ 62 := by exact Nat.lt_of_le_of_lt (by assumption) (by decide)
  have hnS : name.length ≤ sizeLine := by rw [sizeLine_eq]; exact Nat.le_trans (by assumption) (by decide)
  cases st with
  | hold =>
   obtain ⟨t', rfl⟩ := hv
   with_reducible
    refine CK (by assumption) (by tb_rel) (by tb_rel) (by top_caught) ?_
    refine A7 ?_; intro K_ hK_
    refine D6 (Aq (D5 (by assumption) (by tb_rel) (by tb_rel) (by top_args)) (AY Hs) B9) (by decide) ?_
    refine B7 ?_
    refine AQ (by assumption) (by tb_rel) ?_
   refine' BJ he ?cc1 ?cg1
   case cc1 => exact ⟨CH rfl, rfl, by decide, by decide, by dsimp only; repeat first | exact B5.nil | (apply B5.free; focus tb_rel) | (apply B5.other; focus decide), ⟨fun _ _ => by with_unfolding_all rfl, trivial⟩⟩
   with_reducible
    refine HE (by assumption) (by assumption) (by tb_rel) (by assumption) (by assumption) ?_
    refine AI ?_
    refine A0 ?_
    refine B1 (CI (by assumption) (by assumption) (by tb_rel) (by assumption) (by assumption) (KE (by assumption) (by tb_rel) (by tb_rel) (by top_args)) (by top_args) (by assumption)) ?_; intro _
    refine A2 ?_
    refine D4 ?_; intro _
   refine ⟨_, _, [], BP.upTo hys62 (by top_args), (fun _ h => nomatch h), fun C e' he' _ _ => ?_⟩
   have he' : Ag e' C [((ofString ".0"), .local), ((ofString "k"), .local), ((ofString "ways"), .cell)] [((ofString "ways"), L + 1 + 1)] := he'
   show Bw c C _ e' _ _ sizeLine _ _ _ ⟨[((ofString ".0"), none), ((ofString "k"), none)], [], [], _⟩
   refine Bg (fun _ => true) (fun i y f => FJ f (i, (wAt ws i).2) y) (by rw [sizeLine_eq]; exact Nat.lt_of_le_of_lt (Nat.le_trans (Nat.le_of_eq hlen2.symm) hWi) (by decide)) (fun i y f f' hf h => ?_) (fun i v w f hi hP K_ hK_ => ?_) (fun ys' σ' hG hys' => ?_)
   ·obtain ⟨a, t, u, h1, h2⟩ := h; exact ⟨a, t, u, h1, hf _ h2⟩
   ·refine Ae (fun G_ hG_ => ?_)
    obtain ⟨t1, rfl⟩ := hP
    obtain ⟨y, hy, a1, u1, u2, rfl, ha1⟩ := hys.get' (show ws[i]? = some (wAt ws i) by unfold wAt; rw [List.getElem?_eq_getElem (by exact Nat.lt_of_lt_of_le hi (Nat.le_of_eq hlen2.symm))]; rfl)
    refine hG_ ?_
    clear hG_ G_
    clear he
    with_reducible
     refine C0 (by assumption) (by tb_rel) (by top_caught) ?_
     refine Bj ?_
     refine hK_ _ _ ?_; clear hK_ K_
    refine ⟨rfl, fun _ => ?_, fun h => nomatch h⟩
    with_reducible
     refine Aw ?_
     refine LC (E_l (by assumption) (by tb_rel) (by tb_rel)) ?_
     refine A0 ?_
     refine BY ?_
     refine DW (E_c (by assumption) (by tb_rel) (by tb_rel) (by top_args)) (E_l (by assumption) (by tb_rel) (by tb_rel)) ?_
     refine Ac (by top_args) (by assumption) (by exact Nat.lt_trans hi hys62) ?_
     refine AC ?_; intro _
     refine Br (by top_args) (by decide) (by decide) (by with_unfolding_all rfl) ?_
     refine A2 ?_
     refine A6 (by with_unfolding_all exact Nat.le_of_ble_eq_true rfl) ?_; intro _
    exact ⟨⟨_, _, rfl⟩, fun x hx => List.mem_cons_of_mem _ hx, _, _, _, rfl, by tb_rel⟩
   ·clear he'
    refine ⟨_, fun p hp => .inl hp, fun D => ?_⟩
    dsimp only
    refine Am D (by top_caught) ?_
    with_reducible
     refine Aj (by assumption) (by tb_rel) (by tb_rel) (by top_caught) ?_
     refine hK_ _ _ ?_; clear hK_ K_
     refine Au ?_
     refine hK_ _ _ ?_; clear hK_ K_
    refine ⟨_, _, _, _, rfl, by tb_rel, ?_⟩
    rw [hrun]
    have := hys'.map (R' := fun w y => FJ σ'.fz w y) (fun k => (k, (wAt ws k).2)) fun a _ b hab => hab
    have ft : (List.range ys.length).filter (fun _ => true) = List.range ys.length := List.filter_eq_self.mpr fun _ _ => rfl
    rw [ft, ← hlen2] at this
    exact this.mono fun w _ y hab => by
     refine Ae (fun G_ hG_ => ?_)
     obtain ⟨a, t, u, h1, h2⟩ := hab
     refine hG_ ?_
     clear hG_ G_
     exact ⟨a, t, u, h1, List.mem_cons_of_mem _ (List.mem_append_left _ h2)⟩
  | free =>
   obtain ⟨t', rfl⟩ := hv
   with_reducible
    refine CK (by assumption) (by tb_rel) (by tb_rel) (by top_caught) ?_
    refine A7 ?_; intro K_ hK_
    refine DX (Aq (D5 (by assumption) (by tb_rel) (by tb_rel) (by top_args)) (AY Hs) B9) (by decide) ?_
    refine B7 ?_
    refine D6 (Aq (D5 (by assumption) (by tb_rel) (by tb_rel) (by top_args)) (AY Ji) B9) (by decide) ?_
    refine B7 ?_
    refine AQ (by assumption) (by tb_rel) ?_
   refine' BJ he ?cc2 ?cg2
   case cc2 => exact ⟨CH rfl, rfl, by decide, by decide, by dsimp only; repeat first | exact B5.nil | (apply B5.free; focus tb_rel) | (apply B5.other; focus decide), ⟨fun _ _ => by with_unfolding_all rfl, trivial⟩⟩
   with_reducible
    refine HE (by assumption) (by assumption) (by tb_rel) (by assumption) (by assumption) ?_
    refine AI ?_
    refine A0 ?_
    refine B1 (CI (by assumption) (by assumption) (by tb_rel) (by assumption) (by assumption) (KE (by assumption) (by tb_rel) (by tb_rel) (by top_args)) (by top_args) (by assumption)) ?_; intro _
    refine A2 ?_
    refine D4 ?_; intro _
   refine ⟨_, _, [], BP.upTo hys62 (by top_args), (fun _ h => nomatch h), fun C e' he' _ _ => ?_⟩
   have he' : Ag e' C [((ofString ".0"), .local), ((ofString "k"), .local), ((ofString "ways"), .cell)] [((ofString "ways"), L + 1 + 1)] := he'
   show Bw c C _ e' _ _ sizeLine _ _ _ ⟨[((ofString ".0"), none), ((ofString "k"), none)], [], [], _⟩
   refine Bg (fun k => k == 0 || (wAt ws k).1 != (wAt ws (k - 1)).1) (fun i y fl => FJ f (wAt ws i) y) (by rw [sizeLine_eq]; lia) (fun i y f f' hf h => h) (fun i v w f2 hi hP K_ hK_ => ?_) (fun ys' σ' hG hys' => ?_)
   ·refine Ae (fun G_ hG_ => ?_)
    obtain ⟨t1, rfl⟩ := hP
    obtain ⟨y, hy, a1, u1, u2, rfl, ha1⟩ := hys.get' (show ws[i]? = some (wAt ws i) by unfold wAt; rw [List.getElem?_eq_getElem (by lia)]; rfl)
    obtain ⟨y, hy2, a2, u3, u4, rfl, ha2⟩ := hys.get' (show ws[i - 1]? = some (wAt ws (i - 1)) by unfold wAt; rw [List.getElem?_eq_getElem (by clear hname hn62 hnS; exact Nat.lt_of_lt_of_le (Nat.lt_of_le_of_lt (Nat.sub_le _ _) hi) (Nat.le_of_eq hlen2.symm))]; rfl)
    refine hG_ ?_
    clear hG_ G_
    clear he
    have hf : ∀ x ∈ f2, x ∈ (f2 : Led) := fun _ x => x
    with_reducible
     refine C0 (by assumption) (by tb_rel) (by top_caught) ?_
     refine Bl ?_
     refine Ai ?_
     refine Be ?_
     refine Ct (Aq (Ap (by assumption) (by tb_rel) (by tb_rel)) Ak Hy) ?_
    by_cases h0 : i = 0
    ·subst h0
     with_reducible
      refine A9 (by decide) ?_
      refine A9 (by decide) ?_
      refine Bj ?_
      refine hK_ _ _ ?_; clear hK_ K_
     refine ⟨rfl, fun _ => ?_, fun h => nomatch h⟩
     with_reducible
      refine DW (E_c (by assumption) (by tb_rel) (by tb_rel) (by top_args)) (E_l (by assumption) (by tb_rel) (by tb_rel)) ?_
      refine Ac (by top_args) (by assumption) (by exact Nat.succ_pos _) ?_
     first
      | exact ⟨⟨_, _, rfl⟩, fun x hx => hx, _, _, _, rfl, ha1⟩
      | exact ⟨⟨_, _, rfl⟩, fun x hx => hx, _, _, _, rfl, ha2⟩
    ·refine Ad (by simp [h0]) ?_
     with_reducible
      refine Be ?_
      refine A4 ?_
      refine BY ?_
      refine DW (E_c (by assumption) (by tb_rel) (by tb_rel) (by top_args)) (E_l (by assumption) (by tb_rel) (by tb_rel)) ?_
      refine Ac (by top_args) (by assumption) (by lia) ?_
      refine AC ?_; intro _
      refine Br (by top_args) (by decide) (by decide) (by with_unfolding_all rfl) ?_
      refine BY ?_
      refine LW (E_c (by assumption) (by tb_rel) (by tb_rel) (by top_args)) (Gx (Ap (by assumption) (by tb_rel) (by tb_rel)) Ak) ?_; intro _
     rw [show ((i : Int) - 1) = ((i - 1 : Nat) : Int) from by lia]
     with_reducible
      refine Ac (by top_args) (by assumption) (by clear hname hn62 hnS; exact Nat.lt_trans (Nat.lt_of_le_of_lt (Nat.sub_le _ _) hi) hys62) ?_
      refine AC ?_; intro _
      refine Br (by top_args) (by decide) (by decide) (by with_unfolding_all rfl) ?_
      refine GS ?_
      refine A1 ?_
     have hb1 : ∀ b : Bool, ((((wAt ws i).1 : Int) != ((wAt ws (i - 1)).1 : Int)) = b) → b = ((wAt ws i).1 != (wAt ws (i - 1)).1) := fun b hb => by
      rw [← hb, Bool.eq_iff_iff]; simp; lia
     refine Ab (fun h => ?_) (fun h => ?_)
     ·refine hK_ _ _ ?_
      refine ⟨by rw [← hb1 _ h]; simp, fun _ => ?_, fun h => nomatch h⟩
      with_reducible
       refine DW (E_c (by assumption) (by tb_rel) (by tb_rel) (by top_args)) (E_l (by assumption) (by tb_rel) (by tb_rel)) ?_
       refine Ac (by top_args) (by assumption) (by lia) ?_
      exact ⟨⟨_, _, rfl⟩, fun x hx => hx, _, _, _, rfl, ha1⟩
     ·with_reducible
       refine E6 ?_
       refine Ad (by decide) ?_
       refine hK_ _ _ ?_; clear hK_ K_
      refine ⟨by rw [← hb1 _ h]; simp [h0], (fun h => nomatch h), fun _ => ⟨⟨_, _, rfl⟩, fun x hx => hx⟩⟩
   ·clear he'
    refine ⟨_, fun p hp => .inl hp, fun D => ?_⟩
    dsimp only
    refine Am D (by top_caught) ?_
    with_reducible
     refine Aj (by assumption) (by tb_rel) (by tb_rel) (by top_caught) ?_
     refine hK_ _ _ ?_; clear hK_ K_
     refine Au ?_
     refine hK_ _ _ ?_; clear hK_ K_
    refine ⟨_, _, _, _, rfl, by tb_rel, ?_⟩
    rw [hrun]
    have := hys'.map (R' := fun w y => FJ f w y) (wAt ws) fun a _ b hab => hab
    rw [← hlen2] at this
    exact this.mono fun w _ y hab => by
     refine Ae (fun G_ hG_ => ?_)
     obtain ⟨a, t, u, h1, h2⟩ := hab
     refine hG_ ?_
     clear hG_ G_
     exact ⟨a, t, u, h1, List.mem_cons_of_mem _ (List.mem_append_right _ (List.mem_cons_of_mem _ h2))⟩
  | least =>
   obtain ⟨t', rfl⟩ := hv
   with_reducible
    refine CK (by assumption) (by tb_rel) (by tb_rel) (by top_caught) ?_
    refine B7 ?_
    refine DX (Aq (D5 (by assumption) (by tb_rel) (by tb_rel) (by top_args)) (AY Hs) B9) (by decide) ?_
    refine B7 ?_
    refine DX (Aq (D5 (by assumption) (by tb_rel) (by tb_rel) (by top_args)) (AY Ji) B9) (by decide) ?_
    refine B7 ?_
    refine D6 (Aq (D5 (by assumption) (by tb_rel) (by tb_rel) (by top_args)) (AY Nm) B9) (by decide) ?_
    refine A7 ?_; intro K_ hK_
    refine AQ (by assumption) (by tb_rel) ?_
   refine' BJ he ?cc3 ?cg3
   case cc3 => exact ⟨Q2 rfl rfl, rfl, by decide, by decide, by dsimp only; repeat first | exact B5.nil | (apply B5.free; focus tb_rel) | (apply B5.other; focus decide), ⟨fun _ _ => by with_unfolding_all rfl, fun _ _ => by with_unfolding_all rfl, trivial⟩⟩
   with_reducible
    refine B4 (by assumption) (by tb_rel) (by tb_rel) (by top_args) ?_
   refine ⟨_, _, [r], BP.list (.inl hr), (fun x hx => .inl (by rw [List.mem_singleton.mp hx]; exact List.mem_map_of_mem (f := (·.1)) hr)), fun C e' he' _ _ => ?_⟩
   have he' : Ag e' C [((ofString ".0"), .local), ((ofString "mark"), .local), ((ofString "place"), .local), ((ofString "end"), .local), ((ofString "range"), .globalImplicit), ((ofString "len"), .globalImplicit), ((ofString "name"), .cell)] [((ofString "name"), L + 1)] := he'
   show Bw c C _ e' _ _ sizeLine _ _ _ ⟨[((ofString ".0"), none), ((ofString "mark"), none), ((ofString "place"), none), ((ofString "end"), none)], [], [], _⟩
   refine Fz (fun σ => Ex4 fun (w1 w2 w3 : Option Value) (g : Led) => σ = ⟨[((ofString ".0"), none), ((ofString "mark"), w1), ((ofString "place"), w2), ((ofString "end"), w3)], [], g, Hq ⟨[((ofString "steps"), some (.ref b))], [(L + 1 + 1 + 1, .cell (some (.str (S [108, 101, 97, 115, 116]) t'))), (L + 1 + 1, .cell (some (.ref r))), (L + 1, .cell (some (.str (S name) t)))], f, fs⟩⟩)
    (fun i σ => Ex4 fun (u1 u2 : Tok) (w3 : Option Value) (g : Led) => σ = ⟨[((ofString ".0"), none), ((ofString "mark"), some (.int ((wAt ws i).1 : Nat) u1)), ((ofString "place"), some (.int ((wAt ws i).2 : Nat) u2)), ((ofString "end"), w3)], [], g, Hq ⟨[((ofString "steps"), some (.ref b))], [(L + 1 + 1 + 1, .cell (some (.str (S [108, 101, 97, 115, 116]) t'))), (L + 1 + 1, .cell (some (.ref r))), (L + 1, .cell (some (.str (S name) t)))], f, fs⟩⟩)
    (fun i => name.length + 1 - (wAt ws i).2) (fun i j y f => FJ f ((wAt ws i).1, (wAt ws i).2 + j) y) (b := 5) (fun i hi => by clear hlen2 hys62 hi; omega) (by rw [sizeLine_eq]; lia) (fun i j y f f' hf h => ?_) ⟨_, _, _, _, rfl⟩ (fun i σ h => ?_) (fun i v σ hi hP hG => ?_) (fun ys' σ' hG hys' => ?_)
   ·obtain ⟨a, t, u, h1, h2⟩ := h; exact ⟨a, t, u, h1, hf _ h2⟩
   ·obtain ⟨u1, u2, w3, f, rfl⟩ := h; exact ⟨_, _, _, _, rfl⟩
   ·refine Ae (fun G_ hG_ => ?_)
    obtain ⟨w1, w2, w3, f2, rfl⟩ := hG
    obtain ⟨w', hw', a1, u1, u2, rfl, ha1⟩ := hys.get hP
    refine hG_ ?_
    clear hG_ G_
    have ew : wAt ws i = w' := by unfold wAt; rw [hw']; rfl
    subst ew
    have hle := hle (wAt ws i) (FC (by lia))
    clear he
    with_reducible
     refine V_t2 (by top_args) (by assumption) (by tb_rel) (by top_caught) (by tb_rel) (by top_caught) ?_
     refine Bj ?_
    refine ⟨rfl, ?_⟩
    with_reducible
     refine HE (by assumption) (by assumption) (by tb_rel) (by assumption) (by assumption) ?_
     refine AI ?_
     refine LC (E_l (by assumption) (by tb_rel) (by tb_rel)) ?_
     refine A0 ?_
     refine B1 (AF (EA (by assumption) (by assumption) (by tb_rel) (by assumption) (by assumption) (D5 (by assumption) (by tb_rel) (by tb_rel) (by top_args)) (by assumption)) Ak) ?_; intro _
     refine A2 ?_
     refine Nt ?_; intro _
    refine ⟨⟨_, _, _, _, rfl⟩, fun x hx => List.mem_cons_of_mem _ hx, _, [], BP.fromTo (a := (wAt ws i).2) (b := name.length + 1) (by exact Nat.lt_of_le_of_lt hle hn62) (by clear hn62; lia) (.inr (.inl List.mem_cons_self)), (fun _ h => nomatch h), fun j v' σ₆ hj hP' hG2 => ?_⟩
    refine Ae (fun G_ hG_ => ?_)
    obtain ⟨u3, u4, w4, f3, rfl⟩ := hG2
    obtain ⟨t1, rfl⟩ := hP'
    refine hG_ ?_
    clear hG_ G_
    with_reducible
     refine C0 (by assumption) (by tb_rel) (by top_caught) ?_
     refine Bj ?_
    refine ⟨rfl, ?_⟩
    with_reducible
     refine Aw ?_
     refine HD (E_l (by assumption) (by tb_rel) (by tb_rel)) (E_l (by assumption) (by tb_rel) (by tb_rel)) ?_
     refine A6 (by with_unfolding_all exact Nat.le_of_ble_eq_true rfl) ?_; intro _
    exact ⟨⟨_, _, _, _, rfl⟩, fun x hx => List.mem_cons_of_mem _ hx, _, _, _, rfl, show (_, D.tup [.int _ _, .int (((wAt ws i).2 : Int) + (j : Nat)) _]) ∈ _ from by tb_rel⟩
   ·clear he'
    refine ⟨_, fun p hp => .inl hp, fun D => ?_⟩
    dsimp only
    refine Am D (by top_caught) ?_
    with_reducible
     refine Aj (by assumption) (by tb_rel) (by tb_rel) (by top_caught) ?_
     refine hK_ _ _ ?_; clear hK_ K_
     refine Au ?_
     refine hK_ _ _ ?_; clear hK_ K_
    refine ⟨_, _, _, _, rfl, by tb_rel, ?_⟩
    rw [hrun]
    have := hys'.map (R' := fun w y => FJ σ'.fz w y) (fun ij : Nat × Nat => ((wAt ws ij.1).1, (wAt ws ij.1).2 + ij.2)) fun a _ b hab => hab
    rw [← hlen2] at this
    exact this.mono fun w _ y hab => by
     refine Ae (fun G_ hG_ => ?_)
     obtain ⟨a, t, u, h1, h2⟩ := hab
     refine hG_ ?_
     clear hG_ G_
     exact ⟨a, t, u, h1, List.mem_cons_of_mem _ (List.mem_append_left _ h2)⟩
  | most =>
   obtain ⟨t', rfl⟩ := hv
   with_reducible
    refine CK (by assumption) (by tb_rel) (by tb_rel) (by top_caught) ?_
    refine B7 ?_
    refine DX (Aq (D5 (by assumption) (by tb_rel) (by tb_rel) (by top_args)) (AY Hs) B9) (by decide) ?_
    refine B7 ?_
    refine DX (Aq (D5 (by assumption) (by tb_rel) (by tb_rel) (by top_args)) (AY Ji) B9) (by decide) ?_
    refine B7 ?_
    refine DX (Aq (D5 (by assumption) (by tb_rel) (by tb_rel) (by top_args)) (AY Nm) B9) (by decide) ?_
    refine B7 ?_
    refine D6 (Aq (D5 (by assumption) (by tb_rel) (by tb_rel) (by top_args)) (AY PT) B9) (by decide) ?_
    refine A7 ?_; intro K_ hK_
    refine AQ (by assumption) (by tb_rel) ?_
   refine' BJ he ?cc4 ?cg4
   case cc4 => exact ⟨Q2 rfl rfl, rfl, by decide, by decide, by dsimp only; repeat first | exact B5.nil | (apply B5.free; focus tb_rel) | (apply B5.other; focus decide), ⟨fun _ _ => by with_unfolding_all rfl, fun _ _ => by with_unfolding_all rfl, trivial⟩⟩
   with_reducible
    refine B4 (by assumption) (by tb_rel) (by tb_rel) (by top_args) ?_
   refine ⟨_, _, [r], BP.list (.inl hr), (fun x hx => .inl (by rw [List.mem_singleton.mp hx]; exact List.mem_map_of_mem (f := (·.1)) hr)), fun C e' he' _ _ => ?_⟩
   have he' : Ag e' C [((ofString ".0"), .local), ((ofString "mark"), .local), ((ofString "place"), .local), ((ofString "end"), .local), ((ofString "range"), .globalImplicit), ((ofString "len"), .globalImplicit), ((ofString "name"), .cell)] [((ofString "name"), L + 1)] := he'
   show Bw c C _ e' _ _ sizeLine _ _ _ ⟨[((ofString ".0"), none), ((ofString "mark"), none), ((ofString "place"), none), ((ofString "end"), none)], [], [], _⟩
   refine Fz (fun σ => Ex4 fun (w1 w2 w3 : Option Value) (g : Led) => σ = ⟨[((ofString ".0"), none), ((ofString "mark"), w1), ((ofString "place"), w2), ((ofString "end"), w3)], [], g, Hq ⟨[((ofString "steps"), some (.ref b))], [(L + 1 + 1 + 1, .cell (some (.str (S [109, 111, 115, 116]) t'))), (L + 1 + 1, .cell (some (.ref r))), (L + 1, .cell (some (.str (S name) t)))], f, fs⟩⟩)
    (fun i σ => Ex4 fun (u1 u2 : Tok) (w3 : Option Value) (g : Led) => σ = ⟨[((ofString ".0"), none), ((ofString "mark"), some (.int ((wAt ws i).1 : Nat) u1)), ((ofString "place"), some (.int ((wAt ws i).2 : Nat) u2)), ((ofString "end"), w3)], [], g, Hq ⟨[((ofString "steps"), some (.ref b))], [(L + 1 + 1 + 1, .cell (some (.str (S [109, 111, 115, 116]) t'))), (L + 1 + 1, .cell (some (.ref r))), (L + 1, .cell (some (.str (S name) t)))], f, fs⟩⟩)
    (fun i => name.length + 1 - (wAt ws i).2) (fun i j y f => FJ f ((wAt ws i).1, name.length - j) y) (b := 5) (fun i hi => by lia) (by rw [sizeLine_eq]; lia) (fun i j y f f' hf h => ?_) ⟨_, _, _, _, rfl⟩ (fun i σ h => ?_) (fun i v σ hi hP hG => ?_) (fun ys' σ' hG hys' => ?_)
   ·obtain ⟨a, t, u, h1, h2⟩ := h; exact ⟨a, t, u, h1, hf _ h2⟩
   ·obtain ⟨u1, u2, w3, f, rfl⟩ := h; exact ⟨_, _, _, _, rfl⟩
   ·refine Ae (fun G_ hG_ => ?_)
    obtain ⟨w1, w2, w3, f2, rfl⟩ := hG
    obtain ⟨w', hw', a1, u1, u2, rfl, ha1⟩ := hys.get hP
    refine hG_ ?_
    clear hG_ G_
    have ew : wAt ws i = w' := by unfold wAt; rw [hw']; rfl
    subst ew
    have hle := hle (wAt ws i) (FC (by lia))
    clear he
    with_reducible
     refine V_t2 (by top_args) (by assumption) (by tb_rel) (by top_caught) (by tb_rel) (by top_caught) ?_
     refine Bj ?_
    refine ⟨rfl, ?_⟩
    with_reducible
     refine HE (by assumption) (by assumption) (by tb_rel) (by assumption) (by assumption) ?_
     refine AI ?_
     refine A0 ?_
     refine B1 (EA (by assumption) (by assumption) (by tb_rel) (by assumption) (by assumption) (D5 (by assumption) (by tb_rel) (by tb_rel) (by top_args)) (by assumption)) ?_; intro _
     refine A0 ?_
     refine B1 (Gx (Ap (by assumption) (by tb_rel) (by tb_rel)) Ak) ?_; intro _
     refine A0 ?_
     refine B1 (EV Ak) ?_; intro _
     refine A2 ?_
     refine K3 (by decide) (PyProof.noPylong_small (by decide)) ?_; intro _
    refine ⟨⟨_, _, _, _, rfl⟩, fun x hx => List.mem_cons_of_mem _ hx, _, [], BP.down (a := name.length) (b := (wAt ws i).2 - 1) (k := name.length + 1 - (wAt ws i).2) (by clear hname hn62 hnS; lia) (by lia) (by lia) (.inr (.inl List.mem_cons_self)), (fun _ h => nomatch h), fun j v' σ₆ hj hP' hG2 => ?_⟩
    refine Ae (fun G_ hG_ => ?_)
    obtain ⟨u3, u4, w4, f3, rfl⟩ := hG2
    obtain ⟨t1, rfl⟩ := hP'
    refine hG_ ?_
    clear hG_ G_
    with_reducible
     refine C0 (by assumption) (by tb_rel) (by top_caught) ?_
     refine Bj ?_
    refine ⟨rfl, ?_⟩
    with_reducible
     refine Aw ?_
     refine HD (E_l (by assumption) (by tb_rel) (by tb_rel)) (E_l (by assumption) (by tb_rel) (by tb_rel)) ?_
     refine A6 (by with_unfolding_all exact Nat.le_of_ble_eq_true rfl) ?_; intro _
    have ej : ((name.length - j : Nat) : Int) = (name.length : Int) - (j : Nat) := by lia
    exact ⟨⟨_, _, _, _, rfl⟩, fun x hx => List.mem_cons_of_mem _ hx, _, _, _, rfl, ej ▸ (show (_, D.tup [.int _ _, .int ((name.length : Int) - (j : Nat)) _]) ∈ _ from by tb_rel)⟩
   ·clear he'
    refine ⟨_, fun p hp => .inl hp, fun D => ?_⟩
    dsimp only
    refine Am D (by top_caught) ?_
    with_reducible
     refine Aj (by assumption) (by tb_rel) (by tb_rel) (by top_caught) ?_
     refine hK_ _ _ ?_; clear hK_ K_
     refine Au ?_
     refine hK_ _ _ ?_; clear hK_ K_
    refine ⟨_, _, _, _, rfl, by tb_rel, ?_⟩
    rw [hrun]
    have := hys'.map (R' := fun w y => FJ σ'.fz w y) (fun ij : Nat × Nat => ((wAt ws ij.1).1, name.length - ij.2)) fun a _ b hab => hab
    rw [← hlen2] at this
    exact this.mono fun w _ y hab => by
     refine Ae (fun G_ hG_ => ?_)
     obtain ⟨a, t, u, h1, h2⟩ := hab
     refine hG_ ?_
     clear hG_ G_
     exact ⟨a, t, u, h1, List.mem_cons_of_mem _ (List.mem_append_left _ h2)⟩
  | set l =>
   refine Ae (fun G_ hG_ => ?_)
   obtain ⟨a', vs, rfl, ha', hvs⟩ := hv
   refine hG_ ?_
   clear hG_ G_
   have hfs : (a', D.list vs) ∈ fs := ha'
   with_reducible
    refine CK (by assumption) (by tb_rel) (by tb_rel) (by top_caught) ?_
    refine B7 ?_
    refine Ci ?_; intro K_ hK_
    refine A4 ?_
    refine B4 (by assumption) (by tb_rel) (by tb_rel) (by top_args) ?_
    refine AP Hs ?_; intro _
    refine C5 (by top_args) ?_
    refine A1 ?_
    refine hK_ _ _ ?_; clear hK_ K_
    refine Ad (by decide) ?_
    refine B7 ?_
    refine Ci ?_; intro K_ hK_
    refine A4 ?_
    refine B4 (by assumption) (by tb_rel) (by tb_rel) (by top_args) ?_
    refine AP Ji ?_; intro _
    refine C5 (by top_args) ?_
    refine A1 ?_
    refine hK_ _ _ ?_; clear hK_ K_
    refine Ad (by decide) ?_
    refine B7 ?_
    refine Ci ?_; intro K_ hK_
    refine A4 ?_
    refine B4 (by assumption) (by tb_rel) (by tb_rel) (by top_args) ?_
    refine AP Nm ?_; intro _
    refine C5 (by top_args) ?_
    refine A1 ?_
    refine hK_ _ _ ?_; clear hK_ K_
    refine Ad (by decide) ?_
    refine B7 ?_
    refine Ci ?_; intro K_ hK_
    refine A4 ?_
    refine B4 (by assumption) (by tb_rel) (by tb_rel) (by top_args) ?_
    refine AP PT ?_; intro _
    refine C5 (by top_args) ?_
    refine A1 ?_
    refine hK_ _ _ ?_; clear hK_ K_
    refine Ad (by decide) ?_
    refine A7 ?_; intro K_ hK_
    refine AQ (by assumption) (by tb_rel) ?_
   refine' BJ he ?cc5 ?cg5
   case cc5 => exact ⟨CH rfl, rfl, by decide, by decide, by dsimp only; repeat first | exact B5.nil | (apply B5.free; focus tb_rel) | (apply B5.other; focus decide), ⟨fun _ _ => by with_unfolding_all rfl, trivial⟩⟩
   with_reducible
    refine B4 (by assumption) (by tb_rel) (by tb_rel) (by top_args) ?_
   refine ⟨_, _, [r], BP.list (.inl hr), (fun x hx => .inl (by rw [List.mem_singleton.mp hx]; exact List.mem_map_of_mem (f := (·.1)) hr)), fun C e' he' _ _ => ?_⟩
   have he' : Ag e' C [((ofString ".0"), .local), ((ofString "mark"), .local), ((ofString "place"), .local), ((ofString "name"), .cell), ((ofString "step"), .cell)] [((ofString "step"), L + 1 + 1 + 1), ((ofString "name"), L + 1)] := he'
   show Bw c C _ e' _ _ sizeLine _ _ _ ⟨[((ofString ".0"), none), ((ofString "mark"), none), ((ofString "place"), none)], [], [], _⟩
   refine Fh (fun σ => Ex3 fun (w1 w2 : Option Value) (f : Led) => σ = ⟨[((ofString ".0"), none), ((ofString "mark"), w1), ((ofString "place"), w2)], [], f, _⟩)
    (fun k => match name[(wAt ws k).2]? with | some ch => l.contains ch | none => false) (fun i y f => FJ f ((wAt ws i).1, (wAt ws i).2 + 1) y) (by rw [sizeLine_eq]; lia) (fun i y f f' hf h => ?_) ⟨_, _, _, rfl⟩ (fun i v σ hi hP hG => ?_) (fun ys' σ' hG hys' => ?_)
   ·obtain ⟨a, t, u, h1, h2⟩ := h; exact ⟨a, t, u, h1, hf _ h2⟩
   ·refine Ae (fun G_ hG_ => ?_)
    obtain ⟨w1, w2, f2, rfl⟩ := hG
    obtain ⟨w', hw', a1, u1, u2, rfl, ha1⟩ := hys.get hP
    refine hG_ ?_
    clear hG_ G_
    have ew : wAt ws i = w' := by unfold wAt; rw [hw']; rfl
    subst ew
    clear he
    with_reducible
     refine V_t2 (by top_args) (by assumption) (by tb_rel) (by top_caught) (by tb_rel) (by top_caught) ?_
     refine Bl ?_
     refine A4 ?_
     refine F3 (BL (D5 (by assumption) (by tb_rel) (by tb_rel) (by top_args)) (Ax (Ap (by assumption) (by tb_rel) (by tb_rel))) (Ax (AF (Ap (by assumption) (by tb_rel) (by tb_rel)) Ak)) (by assumption)) ?_; intro _
     refine B4 (by assumption) (by tb_rel) (by tb_rel) (by top_args) ?_
    refine' Fy (a := a') (vs := vs) (fun v => match v with | .str x _ => x == S (cut name (some ((wAt ws i).2 : Int)) (some (((wAt ws i).2 : Int) + 1))) | _ => false) ?i1 ?i2 ?i3
    case i1 => top_args
    case i2 =>
     intro y hy
     refine Ae (fun G_ hG_ => ?_)
     obtain ⟨k, hk, rfl⟩ := List.getElem_of_mem hy
     obtain ⟨ch, _, t5, e5⟩ := hvs.get (List.getElem?_eq_getElem hk)
     refine hG_ ?_
     clear hG_ G_
     rw [e5]
     show EqV _ _ _ (S [ch] == S _)
     rw [Ga]; exact EqV.strs
    case i3 =>
     with_reducible
      refine A1 ?_
     have hb1 : (vs.any fun v => match v with | .str x _ => x == S (cut name (some ((wAt ws i).2 : Int)) (some (((wAt ws i).2 : Int) + 1))) | _ => false) = match name[(wAt ws i).2]? with | some ch => l.contains ch | none => false := by
      rw [Px]
      have key : ∀ (z : List Nat) (vs : List Value) (l : List Nat), AA (fun ch y => ∃ t, y = Value.str (S [ch]) t) l vs → (vs.any fun v => match v with | .str x _ => x == S z | _ => false) = l.any fun ch => decide ([ch] = z) := by
       intro z vs l h
       induction h with
       | nil => rfl
       | cons h1 t ih =>
        obtain ⟨t6, rfl⟩ := h1
        rw [List.any_cons, List.any_cons, ih, ← Ga]
      rw [key _ _ _ hvs]
      cases name[(wAt ws i).2]? with
      | none => simp
      | some ch =>
       show (l.any fun c1 => decide ([c1] = [ch])) = l.contains ch
       exact LQ l ch
     rw [hb1]
     refine Ab (fun h => ?_) (fun h => ?_)
     ·refine ⟨h.symm, fun _ => ?_, fun h => nomatch h⟩
      with_reducible
       refine Aw ?_
       refine LC (E_l (by assumption) (by tb_rel) (by tb_rel)) ?_
       refine A0 ?_
       refine B1 (AF (Ap (by assumption) (by tb_rel) (by tb_rel)) Ak) ?_; intro _
       refine A2 ?_
       refine A6 (by with_unfolding_all exact Nat.le_of_ble_eq_true rfl) ?_; intro _
      exact ⟨⟨_, _, _, rfl⟩, fun x hx => List.mem_cons_of_mem _ hx, _, _, _, rfl, show (_, D.tup [.int _ _, .int (((wAt ws i).2 : Int) + 1) _]) ∈ _ from by tb_rel⟩
     ·exact ⟨h.symm, (fun h => nomatch h), fun _ => ⟨⟨_, _, _, rfl⟩, fun x hx => hx⟩⟩
   ·clear he'
    refine ⟨_, fun p hp => .inl hp, fun D => ?_⟩
    dsimp only
    refine Am D (by top_caught) ?_
    with_reducible
     refine Aj (by assumption) (by tb_rel) (by tb_rel) (by top_caught) ?_
     refine hK_ _ _ ?_; clear hK_ K_
     refine Au ?_
     refine hK_ _ _ ?_; clear hK_ K_
    refine ⟨_, _, _, _, rfl, by tb_rel, ?_⟩
    rw [hrun]
    have := hys'.map (R' := fun w y => FJ σ'.fz w y) (fun k => ((wAt ws k).1, (wAt ws k).2 + 1)) fun a _ b hab => hab
    rw [← hlen2] at this
    exact this.mono fun w _ y hab => by
     refine Ae (fun G_ hG_ => ?_)
     obtain ⟨a, t, u, h1, h2⟩ := hab
     refine hG_ ?_
     clear hG_ G_
     exact ⟨a, t, u, h1, List.mem_cons_of_mem _ (List.mem_append_left _ h2)⟩
 ·intro σ₂ hI
  refine Ae (fun G_ hG_ => ?_)
  obtain ⟨w, r, ys, f, rfl, hr, hys⟩ := hI
  refine hG_ ?_
  clear hG_ G_
  have hlen3 := hsv.length
  rw [List.take_of_length_le (by exact Nat.le_of_eq hlen3)] at hys
  have hWi := hW steps.length
  rw [List.take_of_length_le (by exact Nat.le_refl _)] at hWi
  have hlen2 := hys.length
  with_reducible
   refine Au ?_
   refine hK_ _ _ ?_; clear hK_ K_
   refine A7 ?_; intro K_ hK_
   refine BC ?_
  refine' BJ he ?cc6 ?cg6
  case cc6 => exact ⟨CH rfl, rfl, by decide, by decide, by dsimp only; repeat first | exact B5.nil | (apply B5.free; focus tb_rel) | (apply B5.other; focus decide), ⟨fun _ _ => by with_unfolding_all rfl, trivial⟩⟩
  with_reducible
   refine B4 (by assumption) (by tb_rel) (by tb_rel) (by top_args) ?_
  refine ⟨_, _, [r], BP.list (.inl hr), (fun x hx => .inl (by rw [List.mem_singleton.mp hx]; exact List.mem_map_of_mem (f := (·.1)) hr)), fun C e' he' _ _ => ?_⟩
  have he' : Ag e' C [((ofString ".0"), .local), ((ofString "mark"), .local), ((ofString "place"), .local)] [] := he'
  show Bw c C _ e' _ _ sizeLine _ _ _ ⟨[((ofString ".0"), none), ((ofString "mark"), none), ((ofString "place"), none)], [], [], _⟩
  refine Fh (fun σ => Ex3 fun (w1 w2 : Option Value) (f : Led) => σ = ⟨[((ofString ".0"), none), ((ofString "mark"), w1), ((ofString "place"), w2)], [], f, _⟩)
   (fun k => true) (fun i y f => ∃ t, y = .int ((wAt (DO name steps [(0, 0)]) i).2 : Nat) t) (by rw [sizeLine_eq]; exact Nat.lt_of_le_of_lt (Nat.le_trans (Nat.le_of_eq hlen2.symm) hWi) (by decide)) (fun i y f f' hf h => h) ⟨_, _, _, rfl⟩ (fun i v σ hi hP hG => ?_) (fun ys' σ' hG hys' => ?_)
  ·refine Ae (fun G_ hG_ => ?_)
   obtain ⟨w1, w2, f2, rfl⟩ := hG
   obtain ⟨w', hw', a1, u1, u2, rfl, ha1⟩ := hys.get hP
   refine hG_ ?_
   clear hG_ G_
   have ew : wAt (DO name steps [(0, 0)]) i = w' := by unfold wAt; rw [hw']; rfl
   subst ew
   clear he
   with_reducible
    refine V_t2 (by top_args) (by assumption) (by tb_rel) (by top_caught) (by tb_rel) (by top_caught) ?_
    refine Bj ?_
   refine ⟨rfl, fun _ => ?_, fun h => nomatch h⟩
   with_reducible
    refine AJ (by assumption) (by tb_rel) (by tb_rel) ?_
   exact ⟨⟨_, _, _, rfl⟩, fun x hx => hx, _, rfl⟩
  ·refine ⟨_, fun p hp => .inl hp, fun D => ?_⟩
   have := hys'.map (R' := fun p y => ∃ t, y = .int (p : Nat) t) (fun k => (wAt (DO name steps [(0, 0)]) k).2) fun a _ b hab => hab
   have ft : (List.range ys.length).filter (fun _ => true) = List.range ys.length := List.filter_eq_self.mpr fun _ _ => rfl
   rw [ft, ← hlen2] at this
   have e9 : (List.range (DO name steps [(0, 0)]).length).map (fun k => (wAt (DO name steps [(0, 0)]) k).2) = Nx steps name := by
    unfold Nx
    refine List.ext_getElem (by simp) fun k h1 h2 => ?_
    have : k < (DO name steps [(0, 0)]).length := by simpa using h1
    simp [wAt, List.getElem?_eq_getElem this]
   rw [e9] at this
   refine hK_ _ _ ?_
   exact ⟨_, _, rfl, ⟨D, ys', rfl, rfl, this⟩, fun p hp => by rw [List.mem_singleton.mp hp]; exact .inr List.mem_cons_self⟩
end
theorem M5 : (Al 12).names = [((ofString "text"), .local), ((ofString "k"), .local), ((ofString "barred"), .cell), ((ofString "front"), .local), ((ofString "found"), .cell), ((ofString "low"), .cell), ((ofString "high"), .cell), ((ofString "_law_one"), .globalImplicit)] := by rfl
noncomputable abbrev Jn (l : List Nat) (vs : List Value) : Prop := AA (fun ch v => ∃ t, v = Value.str (S [ch]) t) l vs
noncomputable def OptSet (fs : Led) (o : Option (List Nat)) (v : Value) : Prop := match o with
 | none => v = .none
 | some l => ∃ a vs, v = .ref a ∧ (a, D.list vs) ∈ fs ∧ Jn l vs
theorem Jn.texts {l : List Nat} {vs : List Value} (h : Jn l vs) : Bk (l.map ([·])) vs := h.map _ fun a _ b hab => hab
theorem NF (l : List Nat) : CR [] (l.map ([·])) = l := by
 rw [Dp]
 induction l with
 | nil => rfl
 | cons a r ih => simp only [List.map_cons, List.flatten_cons]; rw [ih]; rfl
theorem NG (l : List Nat) : ((l.map ([·])).map List.length).sum = l.length := by
 induction l with
 | nil => rfl
 | cons a r ih => simp only [List.map_cons, List.sum_cons]; rw [ih]; simp; lia
inductive SetI (L : Addr) (x : List Nat) (t : Tok) (k0 : Nat) (bb : Bool) (R : Option (List Nat) × Nat) (fuel : Nat) : St → Prop
 | mk (kk : Nat) (found : List Nat) (w1 w2 : Option Value) (u1 u2 t3 : Tok) (f : Led) (h1 : BU x k0 fuel kk found = R) (h2 : kk ≤ x.length) (h3 : x.length + 1 ≤ fuel + kk) (h4 : found.length + 4 * fuel ≤ 4 * (x.length + 1)) :
  SetI L x t k0 bb R fuel ⟨[((ofString "text"), some (.str (S x) t)), ((ofString "k"), some (.int (kk : Nat) u1)), ((ofString "front"), some (.int (k0 : Nat) u2))],
   [(L + 1 + 1 + 1 + 1, .cell w1), (L + 1 + 1 + 1, .cell w2), (L + 1 + 1, .cell (some (.str (S found) t3))), (L + 1, .cell (some (.bool bb)))], f, []⟩
inductive SetJ (L : Addr) (x found : List Nat) (t u2 t3 : Tok) (k0 : Nat) (lo : List Nat) (hi : List Nat × Nat) (bb : Bool) : St → Prop
 | mk (t4 t5 t6 : Tok) (f' : Led) : SetJ L x found t u2 t3 k0 lo hi bb ⟨[((ofString "text"), some (.str (S x) t)), ((ofString "k"), some (.int (hi.2 : Nat) t4)), ((ofString "front"), some (.int (k0 : Nat) u2))],
   [(L + 1 + 1 + 1 + 1, .cell (some (.str (S hi.1) t5))), (L + 1 + 1 + 1, .cell (some (.str (S lo) t6))), (L + 1 + 1, .cell (some (.str (S found) t3))), (L + 1, .cell (some (.bool bb)))], f', []⟩
section
variable {c : Cx} {n : Nat}
theorem NH (hc : c.Ok) {a1 a : Addr} (F1 : D0 c a1 (ofString "_law_one") [(ofString "text"), (ofString "k")] (Av 11) (Al 11)) (F : D0 c a (ofString "_law_set") [(ofString "text"), (ofString "k")] (Av 12) (Al 12)) {x : List Nat} {k : Nat} {t u : Tok}
  (hx : x.length ≤ 2 ^ 16) (hk : k ≤ x.length) :
  Hp c 2 (.ref a) [.str (S x) t, .int (k : Int) u] [] (fun v nz => ∃ r v1 t2 nz', v = .ref r ∧ nz = (r, .tup [v1, .int ((BQ x k).2 : Nat) t2]) :: nz' ∧ OptSet nz' (BQ x k).1 v1) := by
 refine DT hc F M5 rfl rfl rfl (by decide) (by decide) rfl (by decide) fun L e he0 _ => ?_
 have he : Ag e L [((ofString "text"), .local), ((ofString "k"), .local), ((ofString "barred"), .cell), ((ofString "front"), .local), ((ofString "found"), .cell), ((ofString "low"), .cell), ((ofString "high"), .cell), ((ofString "_law_one"), .globalImplicit)]
  [((ofString "high"), L + 1 + 1 + 1 + 1), ((ofString "low"), L + 1 + 1 + 1), ((ofString "found"), L + 1 + 1), ((ofString "barred"), L + 1)] := he0
 clear he0
 have hs : x.length ≤ sizeLine := by rw [sizeLine_eq]; exact Nat.le_trans (by assumption) (by decide)
 show V c L 1 (execs (Av 12) e) _ ⟨[((ofString "text"), some (.str (S x) t)), ((ofString "k"), some (.int k u)), ((ofString "front"), none)], [(L + 1 + 1 + 1 + 1, .cell none), (L + 1 + 1 + 1, .cell none), (L + 1 + 1, .cell none), (L + 1, .cell none)], [], []⟩
 refine AB ?_
 with_reducible
  refine A3 ?_
  refine Q4 (Pu (BL (Bs (by assumption) (by tb_rel) (by tb_rel)) (Ax (Ap (by assumption) (by tb_rel) (by tb_rel))) (Ax (AF (Ap (by assumption) (by tb_rel) (by tb_rel)) Ak)) (by assumption)) (AY Ni) B9) ?_
  refine Aj (by assumption) (by tb_rel) (by tb_rel) (by top_caught) ?_
  refine A7 ?_; intro K_ hK_
  refine C9 ?_
  refine DI (by assumption) (by tb_rel) (by tb_rel) ?_
  refine EU ?_
  refine Ct (H2 (Nw (by assumption) (by tb_rel) (by tb_rel) (by top_args))) ?_
  intro _
  refine CO ?_; intro _
  refine A8 (by assumption) (by tb_rel) (by top_caught) ?_
  refine hK_ _ _ ?_; clear hK_ K_
  refine A7 ?_; intro K_ hK_
  refine B8 ?_ (by with_unfolding_all first | rfl | exact sw2 (by assumption) (by tb_rel) (by tb_rel) rfl | exact sw3 (by assumption) (by tb_rel) (by tb_rel) (by tb_rel) rfl)
  refine Aw ?_
  refine LC (E_l (by assumption) (by tb_rel) (by tb_rel)) ?_
  refine FE D3 ?_; intro _
  refine A6 (by with_unfolding_all exact Nat.le_of_ble_eq_true rfl) ?_; intro _
  refine CG (by top_args) (by with_unfolding_all rfl) ?_
  refine LV (by assumption) (by tb_rel) (by top_caught) ?_
  refine AW ?_
  refine CK (by assumption) (by tb_rel) (by tb_rel) (by top_caught) ?_
  refine Bf ?_
  refine hK_ _ _ ?_; clear hK_ K_
  refine A7 ?_; intro K_ hK_
 rw [EB]
 skip
 refine gen (if decide (at1 x k = [94]) = true then k + 1 else k : Nat) (fun k0 hk0 => ?_)
 have e0 : ((k : Int) + if decide (at1 x k = [94]) = true then 1 else 0) = (k0 : Int) := by rw [hk0]; split <;> simp
 have hk0le : k0 ≤ x.length := by
  rw [hk0]; split
  ·rename_i h; exact at1_lt (of_decide_eq_true h)
  ·exact hk
 rw [e0]
 refine gen (decide (at1 x k = [94])) (fun bb hbb => ?_)
 rw [← hbb]
 have hset : BQ x k = match BU x k0 (x.length + 1) k0 [] with
   | (none, k') => (none, k')
   | (some found, k') => (some (AV.filter fun s => decide (s ∈ found) != bb), k' + 1) := by rw [hbb, hk0]; rfl
 refine gen (BU x k0 (x.length + 1) k0 []) (fun R hR => ?_)
 rw [← hR] at hset
 refine Cz (SetI L x t k0 bb R) (x.length + 1) ⟨k0, [], _, _, _, _, _, _, hR.symm, hk0le, by simp, by simp⟩ (fun fuel σ hI K_ hK_ => ?_)
 refine Ae (fun G_ hG_ => ?_)
 obtain ⟨kk, found, w1, w2, u1, u2, t3, f, hrun, hkk, hfu, hfo⟩ := hI
 refine hG_ ?_
 clear hG_ G_
 obtain ⟨fuel, rfl⟩ : ∃ j, fuel = j + 1 := ⟨fuel - 1, by clear hset; lia⟩
 refine An (Q := fun b σ' => b = !decide (at1 x kk = [93] ∧ kk ≠ k0) ∧ σ' = ⟨[((ofString "text"), some (.str (S x) t)), ((ofString "k"), some (.int (kk : Nat) u1)), ((ofString "front"), some (.int (k0 : Nat) u2))],
   [(L + 1 + 1 + 1 + 1, .cell w1), (L + 1 + 1 + 1, .cell w2), (L + 1 + 1, .cell (some (.str (S found) t3))), (L + 1, .cell (some (.bool bb)))], f, []⟩) ?_ (fun b σ' hb => ?_)
 ·with_reducible
   refine Ai ?_
   refine Be ?_
   refine Ct (Aq (BL (Bs (by assumption) (by tb_rel) (by tb_rel)) (Ax (Ap (by assumption) (by tb_rel) (by tb_rel))) (Ax (AF (Ap (by assumption) (by tb_rel) (by tb_rel)) Ak)) (by assumption)) (AY Nh) Hz) ?_
  rw [EB]
  refine Ab (fun h => ?_) (fun h => ?_)
  ·exact ⟨by simp at h; simp [h], rfl⟩
  ·with_reducible
    refine Be ?_
    refine Ct (Aq (Ap (by assumption) (by tb_rel) (by tb_rel)) (Ap (by assumption) (by tb_rel) (by tb_rel)) Hy) ?_
   refine Ab (fun h2 => ?_) (fun h2 => ?_)
   ·have h3 : kk = k0 := by have := beq_iff_eq.mp h2; lia
    exact ⟨by simp [h3], rfl⟩
   ·with_reducible
     refine E6 ?_
    have h3 : kk ≠ k0 := fun q => by rw [q] at h2; simp at h2
    refine ⟨?_, rfl⟩
    simp at h
    simp [h, h3]
 obtain ⟨rfl, rfl⟩ := hb
 by_cases hend : at1 x kk = [93] ∧ kk ≠ k0
 ·refine Ad (by simp [hend]) ?_
  clear hK_ K_
  rw [show BU x k0 (fuel + 1) kk found = (some found, kk) from if_pos hend] at hrun
  rw [← hrun] at hset
  with_reducible
   refine Au ?_
   refine hK_ _ _ ?_; clear hK_ K_
   refine A7 ?_; intro K_ hK_
   refine BC ?_
   refine Aw ?_
   refine A0 ?_
  refine' BJ he ?cc1 ?cg1
  case cc1 => exact ⟨CH rfl, rfl, by decide, by decide, by dsimp only; repeat first | exact B5.nil | (apply B5.free; focus tb_rel) | (apply B5.other; focus decide), ⟨fun _ _ => by with_unfolding_all rfl, trivial⟩⟩
  with_reducible
   refine AP KB ?_; intro _
  refine ⟨_, _, [], BP.str, (fun _ h => nomatch h), fun C e' he' _ _ => ?_⟩
  have he' : Ag e' C [((ofString ".0"), .local), ((ofString "sign"), .local), ((ofString "barred"), .cell), ((ofString "found"), .cell)] [((ofString "found"), L + 1 + 1), ((ofString "barred"), L + 1)] := he'
  show Bw c C _ e' _ _ sizeLine _ _ _ ⟨[((ofString ".0"), none), ((ofString "sign"), none)], [], [], _⟩
  refine CT AV (fun ch t => .str (S [ch]) t) 0 (fun s => decide (s ∈ found) != bb) (fun ch y _ => ∃ t, y = .str (S [ch]) t) rfl LT (by rw [sizeLine_eq]; decide) (fun _ _ _ _ _ h => h) (fun i ch tc w f hch K_ hK_ => ?_) (fun ys' σ' hys' => ?_)
  ·clear he
   with_reducible
    refine C0 (by assumption) (by tb_rel) (by top_caught) ?_
    refine Bl ?_
    refine A4 ?_
    refine CN ?_
    refine AJ (by assumption) (by tb_rel) (by tb_rel) ?_
    refine B4 (by assumption) (by tb_rel) (by tb_rel) (by top_args) ?_
    refine JZ (by with_unfolding_all exact Nat.le_refl _) ?_
    refine B4 (by assumption) (by tb_rel) (by tb_rel) (by top_args) ?_
    refine E8 ?_
    refine A1 ?_
   refine Ab (fun h => ?_) (fun h => ?_)
   ·refine hK_ _ _ (.yes h ?_)
    with_reducible
     refine AJ (by assumption) (by tb_rel) (by tb_rel) ?_
    exact ⟨fun _ h => h, _, rfl⟩
   ·exact hK_ _ _ (.no h)
  ·clear he'
   refine ⟨_, fun p hp => .inl hp, fun D => ?_⟩
   dsimp only
   with_reducible
    refine A0 ?_
    refine B1 (AF (Ap (by assumption) (by tb_rel) (by tb_rel)) Ak) ?_; intro _
    refine A2 ?_
    refine A6 (by with_unfolding_all exact Nat.le_of_ble_eq_true rfl) ?_; intro _
    refine hK_ _ _ ?_; clear hK_ K_
   rw [hset]
   exact ⟨_, [(_, .tup _), (D, .list ys')], rfl, ⟨_, _, _, [(D, .list ys')], rfl, rfl, D, ys', rfl, List.mem_cons_self, hys'⟩, fun p hp => by
    rcases List.mem_cons.mp hp with rfl | hp
    ·exact .inl List.mem_cons_self
    ·rw [List.mem_singleton.mp hp]; exact .inr List.mem_cons_self⟩
 ·refine A9 (by simp [hend]) ?_
  rw [show BU x k0 (fuel + 1) kk found = _ from if_neg hend] at hrun
  refine AB ?_
  with_reducible
   refine B8 ?_ (by with_unfolding_all first | rfl | exact sw2 (by assumption) (by tb_rel) (by tb_rel) rfl | exact sw3 (by assumption) (by tb_rel) (by tb_rel) (by tb_rel) rfl)
   refine Q6 (by assumption) (by assumption) (by tb_rel) (by assumption) ?_
   refine HD (E_l (by assumption) (by tb_rel) (by tb_rel)) (E_l (by assumption) (by tb_rel) (by tb_rel)) ?_
  refine Hr (HM hc F1 (by exact Nat.le_of_lt (Nat.lt_of_le_of_lt hx (by decide)))) (fun p hp => nomatch hp) (fun v nz hpost => ?_)
  refine Ae (fun G_ hG_ => ?_)
  obtain ⟨r1, t1, t2, rfl, rfl⟩ := hpost
  refine hG_ ?_
  clear hG_ G_
  with_reducible
   refine CG (by top_args) (by with_unfolding_all rfl) ?_
   refine AW ?_
   refine CK (by assumption) (by tb_rel) (by tb_rel) (by top_caught) ?_
   refine LV (by assumption) (by tb_rel) (by top_caught) ?_
   refine Bf ?_
  refine AB ?_
  with_reducible
   refine A3 ?_
   refine B4 (by assumption) (by tb_rel) (by tb_rel) (by top_args) ?_
   refine Aj (by assumption) (by tb_rel) (by tb_rel) (by top_caught) ?_
  refine LO (SetJ L x found t u2 t3 k0 (one x kk).1 (Ck x (one x kk)) bb) ?_ (fun σ' hσ => ?_)
  ·with_reducible
    refine Ci ?_; intro K_ hK_
    refine Ai ?_
    refine Aa ?_
    refine Ct (Aq (BL (Bs (by assumption) (by tb_rel) (by tb_rel)) (Ax (Ap (by assumption) (by tb_rel) (by tb_rel))) (Ax (AF (Ap (by assumption) (by tb_rel) (by tb_rel)) Ak)) (by assumption)) (AY KA) B9) ?_
   rw [EB]
   refine Ab (fun h => ?_) (fun h => ?_)
   ·with_reducible
     refine Aa ?_
     refine Ct (Aq (BL (Bs (by assumption) (by tb_rel) (by tb_rel)) (Ax (AF (Ap (by assumption) (by tb_rel) (by tb_rel)) Ak)) (Ax (AF (Ap (by assumption) (by tb_rel) (by tb_rel)) Ak)) (by assumption)) (AY Nh) Hz) ?_
    rw [Jk]
    refine Ab (fun h2 => ?_) (fun h2 => ?_)
    ·with_reducible
      refine Bd ?_
      refine hK_ _ _ ?_; clear hK_ K_
      refine A9 (by decide) ?_
      refine B7 ?_
      refine B8 ?_ (by with_unfolding_all first | rfl | exact sw2 (by assumption) (by tb_rel) (by tb_rel) rfl | exact sw3 (by assumption) (by tb_rel) (by tb_rel) (by tb_rel) rfl)
      refine Q6 (by assumption) (by assumption) (by tb_rel) (by assumption) ?_
      refine LC (E_l (by assumption) (by tb_rel) (by tb_rel)) ?_
      refine A0 ?_
      refine B1 (AF (Ap (by assumption) (by tb_rel) (by tb_rel)) Ak) ?_; intro _
      refine A2 ?_
     show V c L 1 (call _ [_, .int (((one x kk).2 + 1 : Nat) : Int) _]) _ _
     refine Hr (HM hc F1 (by lia)) (fun p hp => nomatch hp) (fun v nz hpost => ?_)
     refine Ae (fun G_ hG_ => ?_)
     obtain ⟨r2, t7, t8, rfl, rfl⟩ := hpost
     refine hG_ ?_
     clear hG_ G_
     with_reducible
      refine CG (by top_args) (by with_unfolding_all rfl) ?_
      refine AW ?_
      refine CK (by assumption) (by tb_rel) (by tb_rel) (by top_caught) ?_
      refine LV (by assumption) (by tb_rel) (by top_caught) ?_
      refine Bf ?_
     rw [show Ck x (one x kk) = one x ((one x kk).2 + 1) from if_pos ⟨by simpa using h, by simpa using h2⟩]
     exact ⟨rfl, _, _, _, _⟩
    ·with_reducible
      refine hK_ _ _ ?_; clear hK_ K_
      refine Ad (by decide) ?_
      refine Au ?_
     rw [show Ck x (one x kk) = one x kk from if_neg fun q => by simp [q.2] at h2]
     exact ⟨rfl, _, _, _, _⟩
   ·with_reducible
     refine hK_ _ _ ?_; clear hK_ K_
     refine Ad (by decide) ?_
     refine Au ?_
    rw [show Ck x (one x kk) = one x kk from if_neg fun q => by simp [q.1] at h]
    exact ⟨rfl, _, _, _, _⟩
  ·obtain ⟨t4, t5, t6, f'⟩ := hσ
   refine AB ?_
   with_reducible
    refine Ci ?_; intro K_ hK_
    refine Ai ?_
    refine Be ?_
    refine Ct (Aq (D5 (by assumption) (by tb_rel) (by tb_rel) (by top_args)) (AY D3) B9) ?_
   by_cases hbad : (one x kk).1 = [] ∨ (Ck x (one x kk)).1 < (one x kk).1
   ·rw [if_pos hbad] at hrun
    rw [← hrun] at hset
    have fin : ∀ {tn : Addr} {Q : Prop}, Q → Q := fun h => h
    refine Ab (fun h => ?_) (fun h => ?_)
    ·with_reducible
      refine hK_ _ _ ?_; clear hK_ K_
      refine A9 (by decide) ?_
      refine A7 ?_; intro K_ hK_
      refine BC ?_
      refine Aw ?_
      refine A0 ?_
      refine Fv ?_
      refine DV (E_l (by assumption) (by tb_rel) (by tb_rel)) ?_
      refine A6 (by with_unfolding_all exact Nat.le_of_ble_eq_true rfl) ?_; intro _
      refine hK_ _ _ ?_; clear hK_ K_
      refine hK_ _ _ ?_; clear hK_ K_
      refine hK_ _ _ ?_; clear hK_ K_
     rw [hset]
     exact ⟨_, [_], rfl, ⟨_, _, _, [], rfl, rfl, rfl⟩, fun p hp => by rw [List.mem_singleton.mp hp]; exact .inl List.mem_cons_self⟩
    ·with_reducible
      refine Be ?_
      refine Ct (Aq (D5 (by assumption) (by tb_rel) (by tb_rel) (by top_args)) (D5 (by assumption) (by tb_rel) (by tb_rel) (by top_args)) Pw) ?_
     refine A9 (hbad.elim (fun q => by simp [q] at h) fun q => by simpa using q) ?_
     with_reducible
      refine hK_ _ _ ?_; clear hK_ K_
      refine A9 (by decide) ?_
      refine A7 ?_; intro K_ hK_
      refine BC ?_
      refine Aw ?_
      refine A0 ?_
      refine Fv ?_
      refine DV (E_l (by assumption) (by tb_rel) (by tb_rel)) ?_
      refine A6 (by with_unfolding_all exact Nat.le_of_ble_eq_true rfl) ?_; intro _
      refine hK_ _ _ ?_; clear hK_ K_
      refine hK_ _ _ ?_; clear hK_ K_
      refine hK_ _ _ ?_; clear hK_ K_
     rw [hset]
     exact ⟨_, [_], rfl, ⟨_, _, _, [], rfl, rfl, rfl⟩, fun p hp => by rw [List.mem_singleton.mp hp]; exact .inl List.mem_cons_self⟩
   ·rw [if_neg hbad] at hrun
    have hlo : (one x kk).1 ≠ [] := fun q => hbad (.inl q)
    have hhi : (Ck x (one x kk)).1 ≠ [] := fun q => by
     refine hbad ?_
     cases h : (one x kk).1 with
     | nil => exact .inl rfl
     | cons a r => rw [q]; exact .inr (List.nil_lt_cons a r)
    have hle : (Ck x (one x kk)).2 ≤ x.length := by
     unfold Ck at hhi ⊢
     split
     ·rename_i q; rw [if_pos q] at hhi; exact Py hhi
     ·exact Py hlo
    have hup : kk + 1 ≤ (Ck x (one x kk)).2 := by
     have h1 := K6 x kk
     unfold Ck
     split
     ·have h2 := K6 x ((one x kk).2 + 1); exact Nat.lt_trans (Nat.lt_of_lt_of_le h1 (Nat.le_add_right _ _)) h2
     ·exact h1
    refine Ad (by simpa using fun q => hbad (.inl q)) ?_
    with_reducible
     refine Be ?_
     refine Ct (Aq (D5 (by assumption) (by tb_rel) (by tb_rel) (by top_args)) (D5 (by assumption) (by tb_rel) (by tb_rel) (by top_args)) Pw) ?_
    refine Ad (by simpa using fun q => hbad (.inr q)) ?_
    with_reducible
     refine E6 ?_
     refine hK_ _ _ ?_; clear hK_ K_
     refine Ad (by decide) ?_
     refine Au ?_
     refine A7 ?_; intro K_ hK_
     refine C9 ?_
     refine BR (by assumption) (by tb_rel) (by tb_rel) (by top_args) ?_
     refine Ba ?_
     refine AP D3 ?_; intro _
     refine K5 Ty.str ?_
     refine Ah ?_
     refine A0 ?_
    refine' BJ he ?cc2 ?cg2
    case cc2 => exact ⟨CH rfl, rfl, by decide, by decide, by dsimp only; repeat first | exact B5.nil | (apply B5.free; focus tb_rel) | (apply B5.other; focus decide), ⟨fun _ _ => by with_unfolding_all rfl, trivial⟩⟩
    with_reducible
     refine AP KB ?_; intro _
    refine ⟨_, _, [], BP.str, (fun _ h => nomatch h), fun C e' he' _ _ => ?_⟩
    have he' : Ag e' C [((ofString ".0"), .local), ((ofString "sign"), .local), ((ofString "high"), .cell), ((ofString "low"), .cell)] [((ofString "low"), L + 1 + 1 + 1), ((ofString "high"), L + 1 + 1 + 1 + 1)] := he'
    show Bw c C _ e' _ _ sizeLine _ _ _ ⟨[((ofString ".0"), none), ((ofString "sign"), none)], [], [], _⟩
    refine CT AV (fun ch t => .str (S [ch]) t) 0 (betw (one x kk).1 (Ck x (one x kk)).1) (fun ch y _ => ∃ t, y = .str (S [ch]) t) rfl LT (by rw [sizeLine_eq]; decide) (fun _ _ _ _ _ h => h) (fun i ch tc w f hch K_ hK_ => ?_) (fun ys' σ' hys' => ?_)
    ·clear he
     with_reducible
      refine C0 (by assumption) (by tb_rel) (by top_caught) ?_
      refine Bl ?_
      refine FA ?_
      refine B4 (by assumption) (by tb_rel) (by tb_rel) (by top_args) ?_
      refine AJ (by assumption) (by tb_rel) (by tb_rel) ?_
      refine E9 ?_
      refine A1 ?_
     refine Ab (fun h => ?_) (fun h => ?_)
     ·with_reducible
       refine B4 (by assumption) (by tb_rel) (by tb_rel) (by top_args) ?_
       refine E9 ?_
       refine A1 ?_
      refine Ab (fun h2 => ?_) (fun h2 => ?_)
      ·refine hK_ _ _ (.yes (by show (_ && _) = true; rw [h, h2]; rfl) ?_)
       with_reducible
        refine AJ (by assumption) (by tb_rel) (by tb_rel) ?_
       exact ⟨fun _ h => h, _, rfl⟩
      ·exact hK_ _ _ (.no (by show (_ && _) = false; rw [h, h2]; rfl))
     ·exact hK_ _ _ (.no (by show (_ && _) = false; rw [h]; rfl))
    ·clear he'
     have hl4 : (AV.filter (betw (one x kk).1 (Ck x (one x kk)).1)).length ≤ 4 := List.length_filter_le _ _
     refine ⟨_, fun p hp => .inl hp, fun D => ?_⟩
     dsimp only
     with_reducible
      refine A2 ?_
     refine K4 (sep := []) (.inl List.mem_cons_self) (Jn.texts hys') (by rw [NG, List.length_map]; simp; exact Nat.le_trans (by assumption) (by decide)) (fun tj => ?_)
     rw [NF]
     refine Ez (by rw [sizeLine_eq]; clear hup; lia) (fun tk => ?_)
     refine Am D (by top_caught) ?_
     with_reducible
      refine Aj (by assumption) (by tb_rel) (by tb_rel) (by top_caught) ?_
      refine hK_ _ _ ?_; clear hK_ K_
      refine Au ?_
      refine hK_ _ _ ?_; clear hK_ K_
     refine ⟨fuel, Nat.lt_succ_self _, (Ck x (one x kk)).2, _, _, _, _, _, _, _, hrun, hle, by lia, ?_⟩
     rw [List.length_append]; lia
end
theorem Jo : (Al 9).names = [((ofString "inside"), .local), ((ofString "barred"), .cell), ((ofString "items"), .cell), ((ofString "k"), .local), ((ofString "signs"), .local), ((ofString "wide"), .local), ((ofString "low"), .local), ((ofString "high"), .local), ((ofString "len"), .globalImplicit)] := by rfl
noncomputable def M6 (f : Led) (p : Nat × Nat) (v : Value) : Prop := ∃ a t u, v = .ref a ∧ (a, D.tup [.str (S [p.1]) t, .str (S [p.2]) u]) ∈ f
theorem PB (a b : Nat) : ([a] < [b]) ↔ a < b := by
 constructor
 ·intro h
  have h' : List.Lex (· < ·) [a] [b] := h
  cases h' with
  | rel h => exact h
  | cons h => cases h
 ·exact fun h => (List.Lex.rel h : List.Lex (· < ·) [a] [b])
section
variable {c : Cx} {n : Nat}
theorem KO (hc : c.Ok) {a : Addr} (F : D0 c a (ofString "_law_means") [(ofString "inside")] (Av 9) (Al 9)) (hlen : c.mg (ofString "len") = none) (hlen' : c.mb (ofString "len") = some (.builtin "len")) {x : List Nat} {t : Tok} (hx : x.length ≤ 2 ^ 16) :
  Hp c 1 (.ref a) [.str (S x) t] [] (fun v nz => ∃ r ys, v = .ref r ∧ nz = [(r, .list ys)] ∧ Jn (BM x) ys) := by
 refine DT hc F Jo rfl rfl rfl (by decide) (by decide) rfl (by decide) fun L e he0 _ => ?_
 have he : Ag e L [((ofString "inside"), .local), ((ofString "barred"), .cell), ((ofString "items"), .cell), ((ofString "k"), .local), ((ofString "signs"), .local), ((ofString "wide"), .local), ((ofString "low"), .local), ((ofString "high"), .local), ((ofString "len"), .globalImplicit)]
  [((ofString "items"), L + 1 + 1), ((ofString "barred"), L + 1)] := he0
 clear he0
 have hs : x.length ≤ sizeLine := by rw [sizeLine_eq]; exact Nat.le_trans (by assumption) (by decide)
 show V c L 0 (execs (Av 9) e) _ ⟨[((ofString "inside"), some (.str (S x) t)), ((ofString "k"), none), ((ofString "signs"), none), ((ofString "wide"), none), ((ofString "low"), none), ((ofString "high"), none)], [(L + 1 + 1, .cell none), (L + 1, .cell none)], [], []⟩
 refine AB ?_
 with_reducible
  refine B8 ?_ (by with_unfolding_all first | rfl | exact sw2 (by assumption) (by tb_rel) (by tb_rel) rfl | exact sw3 (by assumption) (by tb_rel) (by tb_rel) (by tb_rel) rfl)
  refine Aw ?_
  refine A0 ?_
  refine Q4 (Pu (BL (Bs (by assumption) (by tb_rel) (by tb_rel)) FB (Ax Ak) (by assumption)) (AY LL) B9) ?_
  refine A0 ?_
  refine Bo ?_
  refine A2 ?_
  refine Ao (by with_unfolding_all exact Nat.le_of_ble_eq_true rfl) ?_; intro _
  refine A0 ?_
  refine AC ?_; intro _
  refine A2 ?_
  refine A6 (by with_unfolding_all exact Nat.le_of_ble_eq_true rfl) ?_; intro _
  refine CG (by top_args) (by with_unfolding_all rfl) ?_
  refine AW ?_
  refine CK (by assumption) (by tb_rel) (by tb_rel) (by top_caught) ?_
  refine AW ?_
  refine CK (by assumption) (by tb_rel) (by tb_rel) (by top_caught) ?_
  refine LV (by assumption) (by tb_rel) (by top_caught) ?_
  refine Bf ?_
 refine gen (decide (cut x none (some 1) = [33])) (fun b0 hb0 => ?_)
 rw [← hb0]
 skip
 refine gen (if b0 = true then cut x (some 1) none else x) (fun s hsd => ?_)
 have hsl : s.length ≤ 2 ^ 16 := by
  rw [hsd]; split
  ·exact Nat.le_trans (E7 _ _ _) hx
  ·exact hx
 have hm : BM x = CJ (AZ s (s.length + 1) 0 b0 []).1 (AZ s (s.length + 1) 0 b0 []).2 := by rw [hsd, hb0]; rfl
 refine LO (fun σ' => Ex4 fun (t1 t2 : Tok) (ai : Addr) (f : Led) => σ' = ⟨[((ofString "inside"), some (.str (S x) t)), ((ofString "k"), some (.int 0 t2)), ((ofString "signs"), some (.str (S s) t1)), ((ofString "wide"), none), ((ofString "low"), none), ((ofString "high"), none)], [(ai, .list []), (L + 1 + 1, .cell (some (.ref ai))), (L + 1, .cell (some (.bool b0)))], f, []⟩) ?_ (fun σ' hσ => ?_)
 ·with_reducible
   refine A3 ?_
   refine BS ?_
   refine Ct (H2 (Nw (by assumption) (by tb_rel) (by tb_rel) (by top_args))) ?_
  refine Ab (fun h => ?_) (fun h => ?_)
  ·with_reducible
    refine F3 (BL (Bs (by assumption) (by tb_rel) (by tb_rel)) (Ax Ak) FB (by assumption)) ?_; intro _
    refine A8 (by assumption) (by tb_rel) (by top_caught) ?_
   rw [show s = cut x (some 1) none from by rw [hsd, if_pos h]]
   exact ⟨rfl, _, _, _, _, rfl⟩
  ·with_reducible
    refine AJ (by assumption) (by tb_rel) (by tb_rel) ?_
    refine A8 (by assumption) (by tb_rel) (by top_caught) ?_
   rw [show s = x from by rw [hsd, h]; rfl]
   exact ⟨rfl, _, _, _, _, rfl⟩
 refine Ae (fun G_ hG_ => ?_)
 obtain ⟨t1, t2, ai0, f0, rfl⟩ := hσ
 refine hG_ ?_
 clear hG_ G_
 refine gen (AZ s (s.length + 1) 0 b0 []) (fun R hR => ?_)
 rw [← hR] at hm
 have hs62 : s.length < 2 ^ 62 := by exact Nat.lt_of_le_of_lt (by assumption) (by decide)
 have hsS : s.length ≤ sizeLine := by rw [sizeLine_eq]; exact Nat.le_of_lt (Nat.lt_of_le_of_lt hsl (by decide))
 refine AB ?_
 refine Cz (fun fuel σ => Ex10 fun (kk : Nat) (b : Bool) (it : List (Nat × Nat)) (ai : Addr) (vs : List Value) (u1 : Tok) (w1 w2 w3 : Option Value) (f : Led) => And5 (σ = ⟨[((ofString "inside"), some (.str (S x) t)), ((ofString "k"), some (.int (kk : Nat) u1)), ((ofString "signs"), some (.str (S s) t1)), ((ofString "wide"), w1), ((ofString "low"), w2), ((ofString "high"), w3)], [(ai, .list vs), (L + 1 + 1, .cell (some (.ref ai))), (L + 1, .cell (some (.bool b)))], f, []⟩) (AA (M6 f) it vs) (AZ s fuel kk b it = R) (s.length + 1 ≤ fuel + kk) (it.length + 2 * fuel ≤ 2 * (s.length + 1)))
  (s.length + 1) ⟨0, b0, [], _, _, _, _, _, _, _, rfl, .nil, hR.symm, by exact Nat.lt_succ_self _, by simp⟩ (fun fuel σ hI K_ hK_ => ?_)
 refine Ae (fun G_ hG_ => ?_)
 obtain ⟨kk, b, it, ai, vs, u1, w1, w2, w3, f, rfl, hit, hrun, hfu, hln⟩ := hI
 refine hG_ ?_
 clear hG_ G_
 with_reducible
  refine Ct (Aq (Ap (by assumption) (by tb_rel) (by tb_rel)) (EA (by assumption) (by assumption) (by tb_rel) (by assumption) (by assumption) (Bs (by assumption) (by tb_rel) (by tb_rel)) (by assumption)) Ee) ?_
 by_cases hlt : kk < s.length
 ·refine A9 (by simpa using hlt) ?_
  obtain ⟨fuel, rfl⟩ : ∃ j, fuel = j + 1 := ⟨fuel - 1, by lia⟩
  rw [DP hlt] at hrun
  have hg1 := H3 hlt
  have hg2 := H3 (HB hlt)
  have hwl := HB hlt
  have hvl := hit.length
  refine LO (fun σ' => ∃ (u2 : Tok) (f' : Led), σ' = ⟨[((ofString "inside"), some (.str (S x) t)), ((ofString "k"), some (.int (kk : Nat) u1)), ((ofString "signs"), some (.str (S s) t1)), ((ofString "wide"), some (.int (AD s kk : Nat) u2)), ((ofString "low"), w2), ((ofString "high"), w3)], [(ai, .list vs), (L + 1 + 1, .cell (some (.ref ai))), (L + 1, .cell (some (.bool b)))], f, []⟩) ?_ (fun σ' hσ => ?_)
  ·with_reducible
    refine A3 ?_
    refine EU ?_
    refine Ai ?_
    refine Aa ?_
    refine Ct (Aq (BL (Bs (by assumption) (by tb_rel) (by tb_rel)) (Ax (AF (Ap (by assumption) (by tb_rel) (by tb_rel)) Ak)) (Ax (AF (Ap (by assumption) (by tb_rel) (by tb_rel)) Ak)) (by assumption)) (AY KA) B9) ?_
   rw [Jk]
   refine Ab (fun h => ?_) (fun h => ?_)
   ·with_reducible
     refine Aa ?_
     refine Ct (Aq (AF (Ap (by assumption) (by tb_rel) (by tb_rel)) Ak) (EA (by assumption) (by assumption) (by tb_rel) (by assumption) (by assumption) (Bs (by assumption) (by tb_rel) (by tb_rel)) (by assumption)) Ee) ?_
    refine Ab (fun h2 => ?_) (fun h2 => ?_)
    ·with_reducible
      refine Bd ?_
      intro _
      refine A8 (by assumption) (by tb_rel) (by top_caught) ?_
     rw [show AD s kk = 2 from if_pos ⟨by simpa using h, by have := of_decide_eq_true h2; lia⟩]
     exact ⟨rfl, _, [], rfl⟩
    ·with_reducible
      intro _
      refine A8 (by assumption) (by tb_rel) (by top_caught) ?_
     rw [show AD s kk = 0 from if_neg fun q => by have := of_decide_eq_false h2; have := q.2; lia]
     exact ⟨rfl, _, [], rfl⟩
   ·with_reducible
     intro _
     refine A8 (by assumption) (by tb_rel) (by top_caught) ?_
    rw [show AD s kk = 0 from if_neg fun q => by simp [q.1] at h]
    exact ⟨rfl, _, [], rfl⟩
  obtain ⟨u2, _, rfl⟩ := hσ
  refine AB ?_
  with_reducible
   refine BV ?_ (by with_unfolding_all first | rfl | exact sw2 (by assumption) (by tb_rel) (by tb_rel) rfl | exact sw3 (by assumption) (by tb_rel) (by tb_rel) (by tb_rel) rfl)
   refine Aw ?_
   refine A0 ?_
   refine DW (E_l (by assumption) (by tb_rel) (by tb_rel)) (E_l (by assumption) (by tb_rel) (by tb_rel)) ?_
   refine AX (by assumption) (by exact Nat.lt_trans hlt hs62) ?_; intro _
   refine A0 ?_
   refine LW (E_l (by assumption) (by tb_rel) (by tb_rel)) (AF (Ap (by assumption) (by tb_rel) (by tb_rel)) (Ap (by assumption) (by tb_rel) (by tb_rel))) ?_; intro _
  rw [show ((kk : Int) + (AD s kk : Nat)) = ((kk + AD s kk : Nat) : Int) from rfl]
  with_reducible
   refine AX (by assumption) (by exact Nat.lt_trans hwl hs62) ?_; intro _
   refine A2 ?_
   refine A6 (by with_unfolding_all exact Nat.le_of_ble_eq_true rfl) ?_; intro _
   ((show ∃ _ _ _, _ = _ ∧ Has _ _ _ ∧ V _ _ _ _ _ _); refine ⟨_, _, _, rfl, (by top_args), ?_⟩)
   refine A8 (by assumption) (by tb_rel) (by top_caught) ?_
   refine A8 (by assumption) (by tb_rel) (by top_caught) ?_
  refine LO (fun σ' => Ex5 fun (u3 u4 : Tok) (ai' : Addr) (vs' : List Value) (f' : Led) => σ' = ⟨[((ofString "inside"), some (.str (S x) t)), ((ofString "k"), some (.int (kk : Nat) u1)), ((ofString "signs"), some (.str (S s) t1)), ((ofString "wide"), some (.int (AD s kk : Nat) u2)), ((ofString "low"), some (.str (S [gt s kk]) u3)), ((ofString "high"), some (.str (S [gt s (kk + AD s kk)]) u4))], [(ai', .list vs'), (L + 1 + 1, .cell (some (.ref ai'))), (L + 1, .cell (some (.bool (Bz s kk b it).1)))], f', []⟩ ∧ AA (M6 f') (Bz s kk b it).2 vs') ?_ (fun σ' hσ => ?_)
  ·refine Qd ?_
   refine An (Q := fun bb σ' => bb = decide (gt s kk = 33 ∧ it = [] ∧ b = false) ∧ Ex3 fun (u3 u4 : Tok) (f' : Led) => (∀ p ∈ f, p ∈ f') ∧ σ' = ⟨[((ofString "inside"), some (.str (S x) t)), ((ofString "k"), some (.int (kk : Nat) u1)), ((ofString "signs"), some (.str (S s) t1)), ((ofString "wide"), some (.int (AD s kk : Nat) u2)), ((ofString "low"), some (.str (S [gt s kk]) u3)), ((ofString "high"), some (.str (S [gt s (kk + AD s kk)]) u4))], [(ai, .list vs), (L + 1 + 1, .cell (some (.ref ai))), (L + 1, .cell (some (.bool b)))], f', []⟩) ?_ (fun bb σ' hb => ?_)
   ·with_reducible
     refine Ai ?_
     refine Aa ?_
     refine Ct (Aq (Bs (by assumption) (by tb_rel) (by tb_rel)) (AY LL) B9) ?_
    refine Ab (fun h => ?_) (fun h => ?_)
    ·with_reducible
      refine Aa ?_
      refine A4 ?_
      refine B4 (by assumption) (by tb_rel) (by tb_rel) (by top_args) ?_
      refine Bo ?_
      refine A2 ?_
      refine Ao (by with_unfolding_all exact Nat.le_of_ble_eq_true rfl) ?_; intro _
     have h1 : gt s kk = 33 := by simpa using h
     refine Am _ (by top_caught) ?_
     cases hit with
     | nil =>
      refine Gv (vs := []) (ws := []) (fun _ => true) (by top_args) (by top_args) rfl (fun j h1 => absurd h1 (Nat.not_lt_zero j)) ?_
      cases b with
      | false =>
       with_reducible
        refine A1 ?_
        refine A9 (by decide) ?_
        refine Aa ?_
        refine DA ?_
        refine Ct (H2 (Nw (by assumption) (by tb_rel) (by tb_rel) (by top_args))) ?_
        refine A9 (by decide) ?_
        refine Bd ?_
       refine ⟨by simp [h1], _, _, _, fun p hp => List.mem_cons_of_mem _ (List.mem_cons_of_mem _ hp), rfl⟩
      | true =>
       with_reducible
        refine A1 ?_
        refine A9 (by decide) ?_
        refine Aa ?_
        refine DA ?_
        refine Ct (H2 (Nw (by assumption) (by tb_rel) (by tb_rel) (by top_args))) ?_
        refine Ad (by decide) ?_
       refine ⟨by simp, _, _, _, fun p hp => List.mem_cons_of_mem _ (List.mem_cons_of_mem _ hp), rfl⟩
     | cons _ _ =>
      refine DM (by top_args) (by top_args) (by simp) ?_
      with_reducible
       refine A1 ?_
       refine Ad (by decide) ?_
      refine ⟨by simp, _, _, _, fun p hp => List.mem_cons_of_mem _ (List.mem_cons_of_mem _ hp), rfl⟩
    ·skip
     have h1 : gt s kk ≠ 33 := by simpa using h
     exact ⟨by simp [h1], _, _, _, fun p hp => List.mem_cons_of_mem _ hp, rfl⟩
   ·refine Ae (fun G_ hG_ => ?_)
    obtain ⟨rfl, u3, u4, f', hff, rfl⟩ := hb
    refine hG_ ?_
    clear hG_ G_
    have hit' : AA (M6 f') it vs := hit.mono fun p _ v hv => by
     refine Ae (fun G_ hG_ => ?_)
     obtain ⟨a, t5, t6, h1, h2⟩ := hv
     refine hG_ ?_
     clear hG_ G_
     exact ⟨a, t5, t6, h1, hff _ h2⟩
    by_cases hC : gt s kk = 33 ∧ it = [] ∧ b = false
    ·refine A9 (by simpa using hC) ?_
     rw [show Bz s kk b it = _ from if_pos hC]
     refine Am ai (by top_caught) ?_
     refine AB ?_
     with_reducible
      refine A3 ?_
      refine LF ?_
      refine Aj (by assumption) (by tb_rel) (by tb_rel) (by top_caught) ?_
     refine AB ?_
     with_reducible
      refine A3 ?_
      refine BS ?_
      refine Ct (Aq (Ap (by assumption) (by tb_rel) (by tb_rel)) Ak Hy) ?_
     refine Ab (fun h => ?_) (fun h => ?_)
     ·have h2 : AD s kk = 2 := by have := beq_iff_eq.mp h; lia
      with_reducible
       refine Bo ?_
       refine A0 ?_
       refine Aw ?_
       refine H6 KA KA ?_; intro _ _
       refine A6 (by with_unfolding_all exact Nat.le_of_ble_eq_true rfl) ?_; intro _
       refine A0 ?_
       refine Aw ?_
       refine HD (E_l (by assumption) (by tb_rel) (by tb_rel)) (E_l (by assumption) (by tb_rel) (by tb_rel)) ?_
       refine A6 (by with_unfolding_all exact Nat.le_of_ble_eq_true rfl) ?_; intro _
       refine A2 ?_
       refine Ao (by with_unfolding_all exact Nat.le_of_ble_eq_true rfl) ?_; intro _
       refine Aj (by assumption) (by tb_rel) (by tb_rel) (by top_caught) ?_
       refine Au ?_
      refine ⟨rfl, _, _, _, _, _, rfl, ?_⟩
      rw [if_pos h2]
      exact .cons ⟨_, _, _, rfl, by tb_rel⟩ (.cons ⟨_, _, _, rfl, by tb_rel⟩ .nil)
     ·have h2 : ¬ AD s kk = 2 := fun q => by rw [q] at h; simp at h
      with_reducible
       refine Bo ?_
       refine A2 ?_
       refine Ao (by with_unfolding_all exact Nat.le_of_ble_eq_true rfl) ?_; intro _
       refine Aj (by assumption) (by tb_rel) (by tb_rel) (by top_caught) ?_
       refine Au ?_
      refine ⟨rfl, _, _, _, _, _, rfl, ?_⟩
      rw [if_neg h2]
      exact .nil
    ·refine Ad (by simpa using hC) ?_
     rw [show Bz s kk b it = _ from if_neg hC]
     refine AB ?_
     with_reducible
      refine Ci ?_; intro K_ hK_
      refine Ct (Aq (Bs (by assumption) (by tb_rel) (by tb_rel)) (Bs (by assumption) (by tb_rel) (by tb_rel)) cm_leT) ?_
      refine hK_ _ _ ?_; clear hK_ K_
     refine Ab (fun h => ?_) (fun h => ?_)
     ·have h2 : gt s kk ≤ gt s (kk + AD s kk) := by
       rw [Bool.not_eq_true', decide_eq_false_iff_not, PB] at h; exact Nat.le_of_not_lt h
      rw [if_pos h2]
      refine AB ?_
      with_reducible
       refine BF ?_ (by assumption)
       refine Ba ?_
       refine B4 (by assumption) (by tb_rel) (by tb_rel) (by top_args) ?_
       refine Cy (Ty.list (by top_args)) ?_
       refine Ah ?_
       refine A0 ?_
       refine Aw ?_
       refine HD (E_l (by assumption) (by tb_rel) (by tb_rel)) (E_l (by assumption) (by tb_rel) (by tb_rel)) ?_
       refine A6 (by with_unfolding_all exact Nat.le_of_ble_eq_true rfl) ?_; intro _
       refine A2 ?_
      refine Cw (by top_caught) (by rw [sizeLine_eq]; clear hfu; lia) ?_
      with_reducible
       refine Au ?_
       refine Au ?_
      refine ⟨rfl, _, _, _, _, _, rfl, ?_⟩
      exact (hit'.mono fun p _ v hv => by
       refine Ae (fun G_ hG_ => ?_)
       obtain ⟨a, t5, t6, h1, h2⟩ := hv
       refine hG_ ?_
       clear hG_ G_
       exact ⟨a, t5, t6, h1, List.mem_cons_of_mem _ h2⟩).append (.cons ⟨_, _, _, rfl, by tb_rel⟩ .nil)
     ·have h2 : ¬ gt s kk ≤ gt s (kk + AD s kk) := by
       rw [Bool.not_eq_false', decide_eq_true_eq, PB] at h; exact Nat.not_le.mpr h
      rw [if_neg h2]
      with_reducible
       refine Au ?_
       refine Au ?_
      exact ⟨rfl, _, _, _, _, _, rfl, hit'⟩
  refine Ae (fun G_ hG_ => ?_)
  obtain ⟨u3, u4, ai', vs', f', rfl, hit'⟩ := hσ
  refine hG_ ?_
  clear hG_ G_
  with_reducible
   refine B7 ?_
   refine C9 ?_
   refine DI (by assumption) (by tb_rel) (by tb_rel) ?_
   refine B1 (AF (Ap (by assumption) (by tb_rel) (by tb_rel)) Ak) ?_; intro _
   refine CO ?_; intro _
   refine A8 (by assumption) (by tb_rel) (by top_caught) ?_
   refine hK_ _ _ ?_; clear hK_ K_
  have := H4 s kk b it
  exact ⟨fuel, Nat.lt_succ_self _, kk + AD s kk + 1, _, _, _, _, _, _, _, _, _, rfl, hit', hrun, by lia, by lia⟩
 ·refine Ad (by simpa using hlt) ?_
  rw [Eg hlt] at hrun
  rw [← hrun] at hm
  have hvl := hit.length
  with_reducible
   refine Au ?_
   refine A7 ?_; intro K_ hK_
   refine BC ?_
  refine' BJ he ?cc1 ?cg1
  case cc1 => exact ⟨CH rfl, rfl, by decide, by decide, by dsimp only; repeat first | exact B5.nil | (apply B5.free; focus tb_rel) | (apply B5.other; focus decide), ⟨fun _ _ => by with_unfolding_all rfl, trivial⟩⟩
  with_reducible
   refine AP KB ?_; intro _
  refine ⟨_, _, [], BP.str, (fun _ h => nomatch h), fun C e' he' _ _ => ?_⟩
  have he' : Ag e' C [((ofString ".0"), .local), ((ofString "sign"), .cell), ((ofString "barred"), .cell), ((ofString "items"), .cell)] [((ofString "sign"), C + 1), ((ofString "items"), L + 1 + 1), ((ofString "barred"), L + 1)] := he'
  show Bw c C _ e' _ _ sizeLine _ _ _ ⟨[((ofString ".0"), none)], [(C + 1, .cell none)], [], _⟩
  refine HA (fun σ => ∃ w f, σ = ⟨[((ofString ".0"), none)], [(C + 1, .cell w)], f, _⟩) (fun i => opt (fun ch => it.any (Ef ch) != b) AV[i]?) (fun i y f => ∃ ch, AV[i]? = some ch ∧ ∃ t, y = .str (S [ch]) t) (by rw [sizeLine_eq]; decide) (fun i y f f' hf h => h) ⟨_, _, rfl⟩ (fun i v σ hi hP hG K_ hK_ => ?_) (fun ys' σ' hG hys' => ?_)
  ·refine Ae (fun G_ hG_ => ?_)
   obtain ⟨w, f2, rfl⟩ := hG
   obtain ⟨ch, tc, hch, rfl⟩ := hP
   refine hG_ ?_
   clear hG_ G_
   have hch' : AV[i]? = some ch := hch
   rw [hch'] at hK_
   clear he
   with_reducible
    refine CK (by assumption) (by tb_rel) (by tb_rel) (by top_caught) ?_
    refine Bl ?_
    refine A4 ?_
    refine CN ?_
   refine' BJ he' ?cc2 ?cg2
   case cc2 => exact ⟨CH rfl, rfl, by decide, by decide, by dsimp only; repeat first | exact B5.nil | (apply B5.free; focus tb_rel) | (apply B5.other; focus decide), ⟨fun _ _ => by with_unfolding_all rfl, trivial⟩⟩
   with_reducible
    refine B4 (by assumption) (by tb_rel) (by tb_rel) (by top_args) ?_
   refine ⟨_, _, [ai], BP.list (by with_reducible first | (refine .inl ?_; tb_rel; done) | (refine .inr ?_; tb_rel; done)), (fun x hx => .inr (by rw [List.mem_singleton.mp hx]; exact List.mem_cons_self)), fun C2 e2 he2 _ _ => ?_⟩
   have he2 : Ag e2 C2 [((ofString ".0"), .local), ((ofString "one"), .local), ((ofString "sign"), .cell)] [((ofString "sign"), C + 1)] := he2
   show Bw c C2 _ e2 _ _ sizeLine _ _ _ ⟨[((ofString ".0"), none), ((ofString "one"), none)], [], [], _⟩
   refine HC it (fun _ (t : Addr × Tok × Tok) => .ref t.1) (fun p t => (t.1, D.tup [.str (S [p.1]) t.2.1, .str (S [p.2]) t.2.2]) ∈ (_ : Led)) (0, 0) (Ef ch) (fun _ _ _ => True) hvl.symm (src_ref hit fun _ _ ⟨a, t5, t6, h1, h2⟩ => ⟨(a, t5, t6), h2, h1⟩) (by rw [sizeLine_eq]; lia) (fun _ _ _ _ _ h => h) (fun j p a3 w f3 hp ha3 K_ hK_ => ?_) (fun ys2 σ' hys2 => ?_)
   ·clear he'
    with_reducible
     refine C0 (by assumption) (by tb_rel) (by top_caught) ?_
     refine Bl ?_
     refine FA ?_
     refine BY ?_
     refine AJ (by assumption) (by tb_rel) (by tb_rel) ?_
     refine AC ?_; intro _
     refine Br (by top_args) (by decide) (by decide) (by with_unfolding_all rfl) ?_
     refine B4 (by assumption) (by tb_rel) (by tb_rel) (by top_args) ?_
     refine E9 ?_
     refine A1 ?_
    refine Ab (fun h => ?_) (fun h => ?_)
    ·with_reducible
      refine BY ?_
      refine AJ (by assumption) (by tb_rel) (by tb_rel) ?_
      refine AC ?_; intro _
      refine Br (by top_args) (by decide) (by decide) (by with_unfolding_all rfl) ?_
      refine E9 ?_
      refine A1 ?_
     refine Ab (fun h2 => ?_) (fun h2 => ?_)
     ·refine hK_ _ _ (.yes (by show (_ && _) = true; rw [h, h2]; rfl) ?_)
      with_reducible
       refine AJ (by assumption) (by tb_rel) (by tb_rel) ?_
      exact ⟨fun _ h => h, trivial⟩
     ·exact hK_ _ _ (.no (by show (_ && _) = false; rw [h, h2]; rfl))
    ·exact hK_ _ _ (.no (by show (_ && _) = false; rw [h]; rfl))
   ·clear he2
    have hl2 := hys2.length
    have hany : it.any (Ef ch) = !decide (ys2.length = 0) := by
     rw [← hl2, Bool.eq_iff_iff]
     simp
    refine ⟨[], (fun p hp => nomatch hp), fun D => ?_⟩
    dsimp only
    with_reducible
     refine Bo ?_
     refine A2 ?_
     refine Ao (by with_unfolding_all exact Nat.le_of_ble_eq_true rfl) ?_; intro _
    refine Am _ (by top_caught) ?_
    refine Am D (by top_caught) ?_
    by_cases h0 : ys2.length = 0
    ·refine Gw (vs := ys2) (ws := []) (fun _ => true) (by top_args) (by top_args) h0 (fun j h1 h2 => absurd h2 (Nat.not_lt_zero j)) ?_
     have e5 : (!(List.range ys2.length).all fun _ => true) = it.any (Ef ch) := by rw [hany, h0]; rfl
     rw [e5]
     with_reducible
      refine B4 (by assumption) (by tb_rel) (by tb_rel) (by top_args) ?_
      refine E8 ?_
      refine A1 ?_
     refine Ab (fun h => ?_) (fun h => ?_)
     ·refine hK_ _ _ ⟨h.symm, fun _ => ?_, fun h => nomatch h⟩
      with_reducible
       refine B4 (by assumption) (by tb_rel) (by tb_rel) (by top_args) ?_
      exact ⟨⟨_, _, rfl⟩, fun x hx => List.mem_cons_of_mem _ (List.mem_cons_of_mem _ hx), ch, rfl, _, rfl⟩
     ·exact hK_ _ _ ⟨h.symm, (fun h => nomatch h), fun _ => ⟨⟨_, _, rfl⟩, fun x hx => List.mem_cons_of_mem _ (List.mem_cons_of_mem _ hx)⟩⟩
    ·refine DN (by top_args) (by top_args) h0 ?_
     have e5 : it.any (Ef ch) = true := by rw [hany]; simp [h0]
     with_reducible
      refine B4 (by assumption) (by tb_rel) (by tb_rel) (by top_args) ?_
      refine E8 ?_
      refine A1 ?_
     refine Ab (fun h => ?_) (fun h => ?_)
     ·refine hK_ _ _ ⟨by show true = (it.any (Ef ch) != b); rw [e5, h], fun _ => ?_, fun h => nomatch h⟩
      with_reducible
       refine B4 (by assumption) (by tb_rel) (by tb_rel) (by top_args) ?_
      exact ⟨⟨_, _, rfl⟩, fun x hx => List.mem_cons_of_mem _ (List.mem_cons_of_mem _ hx), ch, rfl, _, rfl⟩
     ·exact hK_ _ _ ⟨by show false = (it.any (Ef ch) != b); rw [e5, h], (fun h => nomatch h), fun _ => ⟨⟨_, _, rfl⟩, fun x hx => List.mem_cons_of_mem _ (List.mem_cons_of_mem _ hx)⟩⟩
  ·clear he'
   refine ⟨_, fun p hp => .inl hp, fun D => ?_⟩
   refine hK_ _ _ ?_
   rw [hm]
   exact ⟨_, [_], rfl, ⟨D, ys', rfl, rfl, BN 0 (l := AV) hys'⟩, fun p hp => by rw [List.mem_singleton.mp hp]; exact .inr List.mem_cons_self⟩
end
theorem KP : (Al 10).names = [((ofString "pieces"), .cell), ((ofString "stars"), .cell), ((ofString "choices"), .local), ((ofString "table"), .cell), ((ofString "signs"), .local), ((ofString "fresh"), .local), ((ofString "mask"), .cell), ((ofString "here"), .local), ((ofString "sign"), .cell), ((ofString "went"), .cell), ((ofString "on"), .local), ((ofString "range"), .globalImplicit), ((ofString "len"), .globalImplicit), ((ofString "sum"), .globalImplicit)] := by rfl
noncomputable def Da (fs : Led) (p : List Nat) (v : Value) : Prop := ∃ a vs, v = .ref a ∧ (a, D.list vs) ∈ fs ∧ Jn p vs
section
variable {c : Cx} {n : Nat}
theorem M7 (hc : c.Ok) {a : Addr} (F : D0 c a (ofString "_law_many") [(ofString "pieces"), (ofString "stars"), (ofString "choices")] (Av 10) (Al 10)) (hlen : c.mg (ofString "len") = none) (hlen' : c.mb (ofString "len") = some (.builtin "len")) (hran : c.mg (ofString "range") = none) (hran' : c.mb (ofString "range") = some (.type "range"))
  (hsum : c.mg (ofString "sum") = none) (hsum' : c.mb (ofString "sum") = some (.builtin "sum"))
  {pa sa ca : Addr} {pv sv cv : List Value} {pieces : List (List Nat)} {stars : List Bool} {choices : List (List Nat)} {fs : Led} (hpa : (pa, D.list pv) ∈ fs) (hpv : AA (Da fs) pieces pv) (hsa : (sa, D.list sv) ∈ fs) (hsv : AA (fun b v => v = Value.bool b) stars sv)
  (hca : (ca, D.list cv) ∈ fs) (hcv : Bk choices cv) (hstars : stars.length ≤ 5) (hpieces : pieces.length ≤ 5) (hch : choices.length ≤ 4) (hch4 : ∀ x ∈ choices, x.length ≤ 4) :
  Hp c 1 (.ref a) [.ref pa, .ref sa, .ref ca] fs (fun v nz => ∃ t, v = .int (EC pieces stars choices : Nat) t ∧ nz = []) := by
 refine DT hc F KP rfl rfl rfl (by decide) (by decide) rfl (by decide) fun L e he0 _ => ?_
 have he : Ag e L [((ofString "pieces"), .cell), ((ofString "stars"), .cell), ((ofString "choices"), .local), ((ofString "table"), .cell), ((ofString "signs"), .local), ((ofString "fresh"), .local), ((ofString "mask"), .cell), ((ofString "here"), .local), ((ofString "sign"), .cell), ((ofString "went"), .cell), ((ofString "on"), .local), ((ofString "range"), .globalImplicit), ((ofString "len"), .globalImplicit), ((ofString "sum"), .globalImplicit)]
  [((ofString "went"), L + 1 + 1 + 1 + 1 + 1 + 1), ((ofString "sign"), L + 1 + 1 + 1 + 1 + 1), ((ofString "mask"), L + 1 + 1 + 1 + 1), ((ofString "table"), L + 1 + 1 + 1), ((ofString "stars"), L + 1 + 1), ((ofString "pieces"), L + 1)] := he0
 clear he0
 refine gen (L + 1 + 1 + 1 + 1 + 1 + 1) (fun L6 hL6 => ?_)
 show V c L 0 (execs (Av 10) e) _ ⟨[((ofString "choices"), some (.ref ca)), ((ofString "signs"), none), ((ofString "fresh"), none), ((ofString "here"), none), ((ofString "on"), none)],
  [(L + 1 + 1 + 1 + 1 + 1 + 1, .cell none), (L + 1 + 1 + 1 + 1 + 1, .cell none), (L + 1 + 1 + 1 + 1, .cell none), (L + 1 + 1 + 1, .cell none), (L + 1 + 1, .cell (some (.ref sa))), (L + 1, .cell (some (.ref pa)))], [], fs⟩
 have hpl := hpv.length
 have hsl := hsv.length
 have hp62 : pv.length < 2 ^ 62 := by exact Nat.lt_of_le_of_lt (Nat.le_trans (Nat.le_of_eq hpl.symm) hpieces) (by decide)
 have hs62 : sv.length < 2 ^ 62 := by exact Nat.lt_of_le_of_lt (Nat.le_trans (Nat.le_of_eq hsl.symm) hstars) (by decide)
 refine AB ?_
 with_reducible
  refine A3 ?_
  refine KG (by assumption) ?_; intro _ _ _
  refine Aj (by assumption) (by tb_rel) (by tb_rel) (by top_caught) ?_
 refine Am _ (by top_caught) ?_
 refine AB ?_
 refine Ed ?_
 with_reducible
  refine AJ (by assumption) (by tb_rel) (by tb_rel) ?_
 refine ⟨_, _, [ca], BP.list (.inr hca), (fun x hx => .inr (by rw [List.mem_singleton.mp hx]; exact List.mem_map_of_mem (f := (·.1)) hca)),
  fun i σ => Ex10 fun (w1 w2 w3 w4 w5 w6 w7 : Option Value) (td : Addr) (kvs : List (Int × Value)) (f : Led) => Qg (σ = ⟨[((ofString "choices"), some (.ref ca)), ((ofString "signs"), w1), ((ofString "fresh"), w2), ((ofString "here"), w3), ((ofString "on"), w4)], [(L + 1 + 1 + 1 + 1 + 1 + 1, .cell w5), (L + 1 + 1 + 1 + 1 + 1, .cell w6), (L + 1 + 1 + 1 + 1, .cell w7), (L + 1 + 1 + 1, .cell (some (.ref td))), (L + 1 + 1, .cell (some (.ref sa))), (L + 1, .cell (some (.ref pa)))], f, fs⟩) (td ≠ sysModules) ((td, DF c kvs) ∈ f) (KV (Bq pieces stars (choices.take i)) kvs), ?_, ?_, ?_⟩
 ·refine ⟨_, _, _, _, _, _, _, _, _, _, rfl, by assumption, List.mem_cons_self, ?_⟩
  exact .cons ⟨rfl, _, rfl⟩ .nil
 ·intro i v σ₂ hi hP hI K_ hK_
  refine Ae (fun G_ hG_ => ?_)
  obtain ⟨w1, w2, w3, w4, w5, w6, w7, td, kvs, f, rfl, htd, hkv, hKV⟩ := hI
  obtain ⟨sg, hsg, ts, rfl⟩ := hcv.get hP
  refine hG_ ?_
  clear hG_ G_
  have hsucc := Gg (pieces := pieces) (stars := stars) hsg
  have hsg4 := hch4 sg (List.mem_of_getElem? hsg)
  have htl : (Bq pieces stars (choices.take i)).length ≤ 256 := by
   have h1 := D8 pieces stars (choices.take i) [(1, 1)] fun x hx => hch4 x (List.mem_of_mem_take hx)
   have h2 : (choices.take i).length ≤ 4 := by rw [List.length_take]; exact Nat.le_trans (Nat.min_le_right _ _) hch
   have h3 : 4 ^ (choices.take i).length ≤ 4 ^ 4 := Nat.pow_le_pow_right (by exact Nat.succ_pos _) h2
   show ((choices.take i).foldl (Cl pieces stars) [(1, 1)]).length ≤ 256
   simp only [List.length_cons, List.length_nil] at h1
   lia
  refine gen (Bq pieces stars (choices.take i)) (fun tb htb => ?_)
  rw [← htb] at hKV htl hsucc
  have hkl := hKV.length
  with_reducible
   refine C0 (by assumption) (by tb_rel) (by top_caught) ?_
   refine A7 ?_; intro K_ hK_
   refine A3 ?_
   refine HF (by assumption) ?_; intro _ _
   refine A8 (by assumption) (by tb_rel) (by top_caught) ?_
   refine hK_ _ _ ?_; clear hK_ K_
   refine A7 ?_; intro K_ hK_
  refine Ed ?_
  with_reducible
   refine B4 (by assumption) (by tb_rel) (by tb_rel) (by top_args) ?_
  refine ⟨_, _, [td], BP.dict htd (.inl hkv), (fun x hx => .inl (by rw [List.mem_singleton.mp hx]; exact List.mem_map_of_mem (f := (·.1)) hkv)),
   fun j σ => Ex8 fun (w3 w4 w5 w6 w7 : Option Value) (fd : Addr) (fk : List (Int × Value)) (f' : Led) => Qg (σ = ⟨[((ofString "choices"), some (.ref ca)), ((ofString "signs"), (some (.str (S sg) ts))), ((ofString "fresh"), (some (.ref fd))), ((ofString "here"), w3), ((ofString "on"), w4)], [(fd, DF c fk), (L + 1 + 1 + 1 + 1 + 1 + 1, .cell w5), (L + 1 + 1 + 1 + 1 + 1, .cell w6), (L + 1 + 1 + 1 + 1, .cell w7), (L + 1 + 1 + 1, .cell (some (.ref td))), (L + 1 + 1, .cell (some (.ref sa))), (L + 1, .cell (some (.ref pa)))], f', fs⟩) (fd ≠ sysModules) ((∀ x ∈ f, x ∈ f')) (KV ((tb.take j).foldl (fun fr p => AK pieces stars tb p.1 sg fr) []) fk), ?_, ?_, ?_⟩
  ·exact ⟨_, _, _, _, _, _, _, _, rfl, by assumption, fun _ x => x, .nil⟩
  ·intro j v σ₃ hj hP hJ K_ hK_
   refine Ae (fun G_ hG_ => ?_)
   obtain ⟨w3, w4, w5, w6, w7, fd, fk, f', rfl, hfd, hff, hFK⟩ := hJ
   obtain ⟨mk, mx, mt, hm1, rfl⟩ := hP
   obtain ⟨p, hp, hp1, _⟩ := AA.get hKV hm1
   refine hG_ ?_
   clear hG_ G_
   have hp1 : mk = ((p.1 : Nat) : Int) := hp1
   subst hp1
   have hsucc2 := HG (fun fr p => AK pieces stars tb p.1 sg fr) [] hp
   have hfl : ((tb.take j).foldl (fun fr p => AK pieces stars tb p.1 sg fr) []).length ≤ 1024 := by
    have h1 := DY pieces stars sg hsg4 tb (tb.take j) []
    have h2 : (tb.take j).length ≤ tb.length := by rw [List.length_take]; clear hj; exact Nat.min_le_right _ _
    simp only [List.length_nil] at h1
    lia
   refine gen ((tb.take j).foldl (fun fr p => AK pieces stars tb p.1 sg fr) []) (fun fr hfr => ?_)
   rw [← hfr] at hFK hfl hsucc2
   have hkv' := hff _ hkv
   with_reducible
    refine CK (by assumption) (by tb_rel) (by tb_rel) (by top_caught) ?_
    refine A7 ?_; intro K_ hK_
   refine' BK he ?cc1 (by tb_rel) ?cg1
   case cc1 => exact ⟨CH rfl, rfl, by decide, by decide, by dsimp only; repeat first | exact B5.nil | (apply B5.free; focus tb_rel) | (apply B5.other; focus decide), ⟨fun _ _ => by with_unfolding_all rfl, trivial⟩⟩
   with_reducible
    refine HE (by assumption) (by assumption) (by tb_rel) (by assumption) (by assumption) ?_
    refine AI ?_
    refine A0 ?_
    refine B1 (CI (by assumption) (by assumption) (by tb_rel) (by assumption) (by assumption) (KE (by assumption) (by tb_rel) (by tb_rel) (by top_args)) (by top_args) (by assumption)) ?_; intro _
    refine A2 ?_
    refine D4 ?_; intro _
   refine ⟨_, _, [], BP.upTo hs62 (by top_args), (fun _ h => nomatch h), fun C e' he' _ _ => ?_⟩
   have he' : Ag e' C [((ofString ".0"), .local), ((ofString "k"), .local), ((ofString "mask"), .cell)] [((ofString "mask"), L + 1 + 1 + 1 + 1)] := he'
   show Bw c C _ e' _ _ sizeLine _ _ _ ⟨[((ofString ".0"), none), ((ofString "k"), none)], [], [], _⟩
   refine CT (List.range _) (fun k t => .int (k : Nat) t) 0 (fun k => p.1 / 2 ^ k % 2 == 1) (fun k y _ => ∃ t, y = .int (k : Nat) t) List.length_range.symm LU (by rw [sizeLine_eq]; exact Nat.lt_of_le_of_lt (Nat.le_trans (Nat.le_of_eq hsl.symm) hstars) (by decide)) (fun _ _ _ _ _ h => h) (fun i k t1 w f2 hki K_ hK_ => ?_) (fun hv σ' hhv => ?_)
   ·have hk := List.mem_range.mp (List.mem_of_getElem? hki)
    have h2k : 2 ^ k ≤ 2 ^ 5 := Nat.pow_le_pow_right (by exact Nat.succ_pos _) (by exact Nat.le_of_lt (Nat.lt_of_lt_of_le (Nat.lt_of_lt_of_le hk (Nat.le_of_eq hsl.symm)) hstars))
    have hne : 2 ^ k ≠ 0 := Nat.ne_of_gt (Nat.two_pow_pos k)
    have hlt : 2 ^ k < 1073741824 := by exact Nat.lt_of_le_of_lt (by assumption) (by decide)
    clear he
    with_reducible
     refine C0 (by assumption) (by tb_rel) (by top_caught) ?_
     refine Bl ?_
     refine A4 ?_
     refine Az ?_
     refine Az ?_
     refine B4 (by assumption) (by tb_rel) (by tb_rel) (by top_args) ?_
     refine Az ?_
     refine AC ?_; intro _
     refine AJ (by assumption) (by tb_rel) (by tb_rel) ?_
     refine LX (by exact Nat.le_of_lt (Nat.lt_trans (Nat.lt_of_lt_of_le (Nat.lt_of_lt_of_le hk (Nat.le_of_eq hsl.symm)) hstars) (by decide))) ?_; intro _
     refine ED (by assumption) (by assumption) ?_; intro _
     refine AC ?_; intro _
     refine LY ?_; intro _
     refine AC ?_; intro _
     refine DB ?_
     refine A1 ?_
    have e3 : ∀ z : Nat, (((z : Nat) : Int) == 1) = (z == 1) := fun z => by rw [Bool.eq_iff_iff]; simp only [beq_iff_eq]; lia
    rw [e3]
    refine Ab (fun h => ?_) (fun h => ?_)
    ·refine hK_ _ _ (.yes h ?_)
     with_reducible
      refine AJ (by assumption) (by tb_rel) (by tb_rel) ?_
     exact ⟨fun _ h => h, _, rfl⟩
    ·exact hK_ _ _ (.no h)
   clear he'
   rw [← hsl] at hhv
   have hhv : PA (B3 stars.length p.1) hv := hhv
   refine ⟨_, fun p hp => .inl hp, fun hd => ?_⟩
   dsimp only
   refine Am hd (by top_caught) ?_
   have hhere : ∀ k ∈ B3 stars.length p.1, k < stars.length := fun k hk => HH hk
   have hherel : (B3 stars.length p.1).length ≤ 5 := by
    have : (B3 stars.length p.1).length ≤ stars.length := by unfold B3; simpa using List.length_filter_le _ (List.range stars.length)
    exact Nat.le_trans (by assumption) (by assumption)
   refine gen (B3 stars.length p.1) (fun here hhe => ?_)
   rw [← hhe] at hhv hhere hherel
   have hhl := hhv.length
   with_reducible
    refine A8 (by assumption) (by tb_rel) (by top_caught) ?_
    refine hK_ _ _ ?_; clear hK_ K_
    refine A7 ?_; intro K_ hK_
   refine Ed ?_
   with_reducible
    refine AJ (by assumption) (by tb_rel) (by tb_rel) ?_
   refine ⟨_, _, [], BP.str, (fun _ h => nomatch h),
    fun q σ => Ex5 fun (w4 w5 w6 : Option Value) (fk : List (Int × Value)) (f2 : Led) => Qg (σ = ⟨[((ofString "choices"), some (.ref ca)), ((ofString "signs"), (some (.str (S sg) ts))), ((ofString "fresh"), (some (.ref fd))), ((ofString "here"), (some (.ref hd))), ((ofString "on"), w4)], [(fd, DF c fk), (L + 1 + 1 + 1 + 1 + 1 + 1, .cell w5), (L + 1 + 1 + 1 + 1 + 1, .cell w6), (L + 1 + 1 + 1 + 1, .cell (some (.int ((p.1 : Nat) : Int) mt))), (L + 1 + 1 + 1, .cell (some (.ref td))), (L + 1 + 1, .cell (some (.ref sa))), (L + 1, .cell (some (.ref pa)))], f2, fs⟩) ((∀ x ∈ f', x ∈ f2)) ((hd, D.list hv) ∈ f2) (KV ((sg.take q).foldl (fun fr s => Jg fr (Ge (Bh pieces stars (B3 stars.length p.1) s)) (C3 fr (Ge (Bh pieces stars (B3 stars.length p.1) s)) + C3 tb p.1)) fr) fk), ?_, ?_, ?_⟩
   ·exact ⟨_, _, _, _, _, rfl, fun x hx => List.mem_cons_of_mem _ (List.mem_append_right _ (List.mem_cons_of_mem _ hx)), List.mem_cons_self, hFK⟩
   ·intro q v σ₄ hq hP hK K_ hK_
    refine Ae (fun G_ hG_ => ?_)
    obtain ⟨w4, w5, w6, fk, f2, rfl, hf2, hhd, hFK⟩ := hK
    obtain ⟨ch, tc, hch1, rfl⟩ := hP
    refine hG_ ?_
    clear hG_ G_
    have hsucc3 := HG (fun fr s => Jg fr (Ge (Bh pieces stars (B3 stars.length p.1) s)) (C3 fr (Ge (Bh pieces stars (B3 stars.length p.1) s)) + C3 tb p.1)) fr hch1
    have hgl : ((sg.take q).foldl (fun fr s => Jg fr (Ge (Bh pieces stars (B3 stars.length p.1) s)) (C3 fr (Ge (Bh pieces stars (B3 stars.length p.1) s)) + C3 tb p.1)) fr).length ≤ 2048 := by
     have h1 := D7 pieces stars tb p.1 (sg.take q) fr
     have h2 : (sg.take q).length ≤ 4 := by rw [List.length_take]; clear hq; exact Nat.le_trans (Nat.min_le_right _ _) hsg4
     unfold AK at h1
     lia
    refine gen ((sg.take q).foldl (fun fr s => Jg fr (Ge (Bh pieces stars (B3 stars.length p.1) s)) (C3 fr (Ge (Bh pieces stars (B3 stars.length p.1) s)) + C3 tb p.1)) fr) (fun gr hgr => ?_)
    rw [← hgr] at hFK hgl hsucc3
    rw [← hhe] at hsucc3
    have hkv2 := hf2 _ hkv'
    with_reducible
     refine CK (by assumption) (by tb_rel) (by tb_rel) (by top_caught) ?_
     refine A7 ?_; intro K_ hK_
     refine AQ (by assumption) (by tb_rel) ?_
    refine' BJ he ?cc2 ?cg2
    case cc2 => exact ⟨CH rfl, rfl, by decide, by decide, by dsimp only; repeat first | exact B5.nil | (apply B5.free; focus tb_rel) | (apply B5.other; focus decide), ⟨fun _ _ => by with_unfolding_all rfl, trivial⟩⟩
    with_reducible
     refine AJ (by assumption) (by tb_rel) (by tb_rel) ?_
    refine ⟨_, _, [hd], BP.list (.inl hhd), (fun x hx => .inl (by rw [List.mem_singleton.mp hx]; exact List.mem_map_of_mem (f := (·.1)) hhd)), fun C e' he' _ _ => ?_⟩
    have he' : Ag e' C [((ofString ".0"), .local), ((ofString "k"), .local), ((ofString "len"), .globalImplicit), ((ofString "pieces"), .cell), ((ofString "sign"), .cell)] [((ofString "sign"), L + 1 + 1 + 1 + 1 + 1), ((ofString "pieces"), L + 1)] := he'
    show Bw c C _ e' _ _ sizeLine _ _ _ ⟨[((ofString ".0"), none), ((ofString "k"), none)], [], [], _⟩
    refine CT here (fun k t => .int (k : Nat) t) 0 (fun k => Bc pieces k ch) (fun k y _ => ∃ t, y = .int ((k + 1 : Nat) : Int) t) hhl.symm (H5 hhv) (by rw [sizeLine_eq]; exact Nat.lt_of_le_of_lt (Nat.le_trans (Nat.le_of_eq hhl.symm) hherel) (by decide)) (fun _ _ _ _ _ h => h) (fun i k t1 w f3 hk K_ hK_ => ?_) (fun wv σ' hwv => ?_)
    ·have hks := hhere k (List.mem_of_getElem? hk)
     clear he
     with_reducible
      refine C0 (by assumption) (by tb_rel) (by top_caught) ?_
      refine Bl ?_
      refine Ai ?_
      refine Aa ?_
      refine Ct (Aq (Ap (by assumption) (by tb_rel) (by tb_rel)) (CI (by assumption) (by assumption) (by tb_rel) (by assumption) (by assumption) (KE (by assumption) (by tb_rel) (by tb_rel) (by top_args)) (by top_args) (by assumption)) Ee) ?_
     by_cases hkp : k < pieces.length
     ·refine A9 (by simp; exact Nat.lt_of_lt_of_le hkp (Nat.le_of_eq hpl)) ?_
      refine Cj (show ∃ pc, pieces[k]? = some pc from ⟨_, List.getElem?_eq_getElem hkp⟩) (fun pc hpc => ?_)
      refine Ae (fun G_ hG_ => ?_)
      obtain ⟨y, hy, ap, vp, rfl, hap, hsp⟩ := hpv.get' hpc
      refine hG_ ?_
      clear hG_ G_
      with_reducible
       refine Aa ?_
       refine A4 ?_
       refine B4 (by assumption) (by tb_rel) (by tb_rel) (by top_args) ?_
       refine DW (E_c (by assumption) (by tb_rel) (by tb_rel) (by top_args)) (E_l (by assumption) (by tb_rel) (by tb_rel)) ?_
       refine Ac (by top_args) (by assumption) (by exact Nat.lt_trans (Nat.lt_of_lt_of_le hks (Nat.le_of_eq hsl)) hs62) ?_
      refine' Fy (a := ap) (vs := vp) (fun v => match v with | .str x _ => x == S [ch] | _ => false) ?i1 ?i2 ?i3
      case i1 => top_args
      case i2 =>
       intro y hy
       refine Ae (fun G_ hG_ => ?_)
       obtain ⟨k, hk, rfl⟩ := List.getElem_of_mem hy
       obtain ⟨c1, _, t5, e5⟩ := hsp.get (List.getElem?_eq_getElem hk)
       refine hG_ ?_
       clear hG_ G_
       rw [e5]
       show EqV _ _ _ (S [c1] == S _)
       rw [Ga]; exact EqV.strs
      case i3 =>
       have hb1 : (vp.any fun v => match v with | .str x _ => x == S [ch] | _ => false) = Bc pieces k ch := by
        have key : ∀ (vs : List Value) (l : List Nat), Jn l vs → (vs.any fun v => match v with | .str x _ => x == S [ch] | _ => false) = l.any fun c1 => decide ([c1] = [ch]) := by
         intro vs l h
         induction h with
         | nil => rfl
         | cons h1 t ih =>
          obtain ⟨t6, rfl⟩ := h1
          rw [List.any_cons, List.any_cons, ih, ← Ga]
        rw [key _ _ hsp, LQ]
        unfold Bc
        rw [hpc]
       rw [hb1]
       with_reducible
        refine A1 ?_
       refine Ab (fun h => ?_) (fun h => ?_)
       ·with_reducible
         refine Bd ?_
         refine A9 (by decide) ?_
         refine Bj ?_
         refine hK_ _ _ ?_; clear hK_ K_
        refine .yes h ?_
        with_reducible
         refine B1 (AF (Ap (by assumption) (by tb_rel) (by tb_rel)) Ak) ?_; intro _
        exact ⟨fun _ h => h, _, rfl⟩
       ·exact hK_ _ _ (.no h)
     ·refine Ad (by simp; exact Nat.le_trans (Nat.le_of_eq hpl.symm) (Nat.le_of_not_lt hkp)) ?_
      have hpn : Bc pieces k ch = false := by unfold Bc; rw [List.getElem?_eq_none (by exact Nat.le_of_not_lt hkp)]
      exact hK_ _ _ (.no hpn)
    clear he'
    have hw1 := hwv.map (R' := fun i v => ∃ t, v = Value.int (i : Nat) t) (· + 1) fun a _ b hab => hab
    refine gen ((here.filter fun k => Bc pieces k ch).map (· + 1)) (fun w1l hw1l => ?_)
    rw [← hw1l] at hw1
    have hw1len : w1l.length ≤ 5 := by
     rw [hw1l, List.length_map]
     exact Nat.le_trans (List.length_filter_le _ _) hherel
    have hw1le : ∀ k ∈ w1l, k ≤ 5 := fun k hk => by
     rw [hw1l] at hk
     obtain ⟨j, hj, rfl⟩ := List.mem_map.mp hk
     have := hhere j (List.mem_filter.mp hj).1
     exact Nat.lt_of_lt_of_le (by assumption) (by assumption)
    have hwvl := hw1.length
    refine ⟨_, fun p hp => .inl hp, fun wd => ?_⟩
    dsimp only
    with_reducible
     refine Aj (by assumption) (by tb_rel) (by tb_rel) (by top_caught) ?_
     refine hK_ _ _ ?_; clear hK_ K_
     refine A7 ?_; intro K_ hK_
     refine BF ?_ (by assumption)
     refine Ba ?_
     refine B4 (by assumption) (by tb_rel) (by tb_rel) (by top_args) ?_
     refine Nu (Ty.list (by top_args)) ?_
     refine Ah ?_
     refine A0 ?_
    refine' BJ he ?cc3 ?cg3
    case cc3 => exact ⟨CH rfl, rfl, by decide, by decide, by dsimp only; repeat first | exact B5.nil | (apply B5.free; focus tb_rel) | (apply B5.other; focus decide), ⟨fun _ _ => by with_unfolding_all rfl, trivial⟩⟩
    with_reducible
     refine AJ (by assumption) (by tb_rel) (by tb_rel) ?_
    refine ⟨_, _, [hd], BP.list (.inl (by tb_rel)), (fun x hx => .inl (by rw [List.mem_singleton.mp hx]; exact List.mem_map_of_mem (f := (·.1)) (List.mem_append_right _ hhd))), fun C e' he' _ _ => ?_⟩
    have he' : Ag e' C [((ofString ".0"), .local), ((ofString "k"), .local), ((ofString "stars"), .cell), ((ofString "went"), .cell)] [((ofString "went"), L + 1 + 1 + 1 + 1 + 1 + 1), ((ofString "stars"), L + 1 + 1)] := he'
    show Bw c C _ e' _ _ sizeLine _ _ _ ⟨[((ofString ".0"), none), ((ofString "k"), none)], [], [], _⟩
    refine CT here (fun k t => .int (k : Nat) t) 0 (fun k => (stars[k]?.getD false) && !w1l.contains k) (fun k y _ => ∃ t, y = .int (k : Nat) t) hhl.symm (H5 hhv) (by rw [sizeLine_eq]; lia) (fun _ _ _ _ _ h => h) (fun i k t1 w f3 hk K_ hK_ => ?_) (fun ev σ'' hw2 => ?_)
    ·have hks := hhere k (List.mem_of_getElem? hk)
     refine Cj (show ∃ bv, stars[k]? = some bv from ⟨_, List.getElem?_eq_getElem hks⟩) (fun bv hbv => ?_)
     obtain ⟨y, hy, rfl⟩ := hsv.get' hbv
     have hbv' : (stars[k]?.getD false) = bv := by rw [hbv]; rfl
     clear he
     with_reducible
      refine C0 (by assumption) (by tb_rel) (by top_caught) ?_
      refine Bl ?_
      refine Ai ?_
      refine Aa ?_
      refine BT ?_
      refine DW (E_c (by assumption) (by tb_rel) (by tb_rel) (by top_args)) (E_l (by assumption) (by tb_rel) (by tb_rel)) ?_
      refine Ac (by top_args) (by assumption) (by lia) ?_
      refine A1 ?_
     refine Ab (fun h => ?_) (fun h => ?_)
     ·with_reducible
       refine Aa ?_
       refine A4 ?_
       refine AJ (by assumption) (by tb_rel) (by tb_rel) ?_
       refine B4 (by assumption) (by tb_rel) (by tb_rel) (by top_args) ?_
      refine HJ (a := wd) (by top_args) hw1 ?_
      with_reducible
       refine A1 ?_
      refine Ab (fun h2 => ?_) (fun h2 => ?_)
      ·with_reducible
        refine Bd ?_
        refine A9 (by decide) ?_
        refine Bj ?_
        refine hK_ _ _ ?_; clear hK_ K_
       refine .yes (by show (_ && _) = true; rw [hbv', h, h2]; rfl) ?_
       with_reducible
        refine AJ (by assumption) (by tb_rel) (by tb_rel) ?_
       exact ⟨fun _ h => h, _, rfl⟩
      ·exact hK_ _ _ (.no (by show (_ && _) = false; rw [hbv', h, h2]; rfl))
     ·exact hK_ _ _ (.no (by show (_ && _) = false; rw [hbv', h]; rfl))
    clear he'
    have hw2len : (here.filter fun k => (stars[k]?.getD false) && !w1l.contains k).length ≤ 5 := Nat.le_trans (List.length_filter_le _ _) hherel
    have hevl := hw2.length
    refine ⟨_, fun p hp => .inl hp, fun ed => ?_⟩
    dsimp only
    with_reducible
     refine A2 ?_
    refine Am ed (by top_caught) ?_
    refine Nz (by top_caught) (.inr (.inl List.mem_cons_self)) (by rw [sizeLine_eq]; lia) ?_
    have hw := hw1.append hw2
    have hwent : w1l ++ (here.filter fun k => (stars[k]?.getD false) && !w1l.contains k) = Bh pieces stars here ch := by rw [hw1l]; rfl
    rw [hwent] at hw
    have hwle : ∀ k ∈ Bh pieces stars here ch, k ≤ 64 := fun k hk => by
     rw [← hwent] at hk
     rcases List.mem_append.mp hk with hk | hk
     ·have := hw1le k hk; exact Nat.le_trans (by assumption) (by decide)
     ·have := hhere k (List.mem_filter.mp hk).1; exact Nat.le_of_lt (Nat.lt_trans (Nat.lt_of_lt_of_le this hstars) (by decide))
    have hwlen : (Bh pieces stars here ch).length ≤ 10 := by rw [← hwent, List.length_append]; lia
    refine gen (Bh pieces stars here ch) (fun went hwe => ?_)
    rw [← hwe] at hw hwle hwlen hsucc3
    have hwl := hw.length
    refine gen (wv ++ ev) (fun gv hgv => ?_)
    rw [← hgv] at hw hwl
    rw [← hgv]
    refine hK_ _ _ ?_
    clear hK_ K_
    refine Am wd (by top_caught) ?_
    with_reducible
     refine A7 ?_; intro K_ hK_
     refine A3 ?_
     refine HE (by assumption) (by assumption) (by tb_rel) (by assumption) (by assumption) ?_
     refine AH ?_
     refine A0 ?_
    refine' BJ he ?cc4 ?cg4
    case cc4 => exact ⟨CH rfl, rfl, by decide, by decide, by dsimp only; repeat first | exact B5.nil | (apply B5.free; focus tb_rel) | (apply B5.other; focus decide), ⟨fun _ _ => by with_unfolding_all rfl, trivial⟩⟩
    with_reducible
     refine B4 (by assumption) (by tb_rel) (by tb_rel) (by top_args) ?_
    refine ⟨_, _, [wd], BP.list (.inl List.mem_cons_self), (fun x hx => .inl (by rw [List.mem_singleton.mp hx]; exact List.mem_cons_self)), fun C e' he' _ _ => ?_⟩
    have he' : Ag e' C [((ofString ".0"), .local), ((ofString "k"), .local)] [] := he'
    show Bw c C _ e' _ _ sizeLine _ _ _ ⟨[((ofString ".0"), none), ((ofString "k"), none)], [], [], _⟩
    refine CT went (fun k t => .int (k : Nat) t) 0 (fun _ => true) (fun k y _ => ∃ t, y = .int ((2 ^ k : Nat) : Int) t) hwl.symm (H5 hw) (by rw [sizeLine_eq]; exact Nat.lt_of_le_of_lt (Nat.le_trans (Nat.le_of_eq hwl.symm) hwlen) (by decide)) (fun _ _ _ _ _ h => h) (fun i k t1 w f3 hk K_ hK_ => ?_) (fun tv σ3 htv => ?_)
    ·have hk64 := hwle k (List.mem_of_getElem? hk)
     clear he
     with_reducible
      refine C0 (by assumption) (by tb_rel) (by top_caught) ?_
      refine Bj ?_
      refine hK_ _ _ ?_; clear hK_ K_
     refine .yes rfl ?_
     with_reducible
      refine Az ?_
      refine AC ?_; intro _
      refine AJ (by assumption) (by tb_rel) (by tb_rel) ?_
      refine LX (by assumption) ?_; intro _
     exact ⟨fun _ h => h, _, rfl⟩
    clear he'
    have htn := htv.map (R' := fun i v => ∃ t, v = Value.int (i : Nat) t) (2 ^ ·) fun a _ b hab => hab
    rw [show went.filter (fun _ => true) = went from List.filter_eq_self.mpr fun _ _ => rfl] at htn
    refine ⟨_, fun p hp => .inl hp, fun sd => ?_⟩
    dsimp only
    with_reducible
     refine A2 ?_
    refine V_sum (by top_args) htn (fun t9 => ?_)
    rw [show (went.map (2 ^ ·)).sum = Ge went from rfl]
    refine Am sd (by top_caught) ?_
    with_reducible
     refine A8 (by assumption) (by tb_rel) (by top_caught) ?_
     refine hK_ _ _ ?_; clear hK_ K_
     refine B7 ?_
     refine EQ ?_
     refine Az ?_
     refine Ba ?_
     refine AJ (by assumption) (by tb_rel) (by tb_rel) ?_
     refine M_get (Ty.dict (by top_args)) ?_
     refine Ah ?_
     refine LC (E_l (by assumption) (by tb_rel) (by tb_rel)) ?_
     refine A0 ?_
     refine AC ?_; intro _
     refine A2 ?_
    refine HI hFK hfd (by top_args) (fun t8 => ?_)
    obtain ⟨t7, hval⟩ := hKV.has hp
    with_reducible
     refine DW (E_c (by assumption) (by tb_rel) (by tb_rel) (by top_args)) (E_c (by assumption) (by tb_rel) (by tb_rel) (by top_args)) ?_
    refine FF (by top_args) hval ?_
    with_reducible
     refine Dk ?_; intro _
     refine AJ (by assumption) (by tb_rel) (by tb_rel) ?_
     refine AJ (by assumption) (by tb_rel) (by tb_rel) ?_
    rw [← Int.natCast_add]
    have hput := fun t => hFK.put (Ge went) (C3 gr (Ge went) + C3 tb p.1) t
    rw [← hsucc3] at hput
    have hfkl : fk.length ≤ sizeLine := by rw [sizeLine_eq, ← hFK.length]; exact Nat.le_trans hgl (by decide)
    refine Gd (by top_caught) hfkl ?_
    with_reducible
     refine hK_ _ _ ?_; clear hK_ K_
    have hmem : ∀ x ∈ f2, x ∈ ((sd, D.list tv) :: (σ3.fz ++ (wd, D.list gv) :: (ed, D.list ev) :: (σ''.fz ++ (σ'.fz ++ f2))) : Led) := fun x hx => List.mem_cons_of_mem _ (List.mem_append_right _ (List.mem_cons_of_mem _ (List.mem_cons_of_mem _ (List.mem_append_right _ (List.mem_append_right _ hx)))))
    exact ⟨_, _, _, _, _, rfl, fun x hx => hmem x (hf2 x hx), hmem _ hhd, by rw [← hhe]; exact hput _⟩
   ·intro σ₄ hK
    refine Ae (fun G_ hG_ => ?_)
    obtain ⟨w4, w5, w6, fk, f2, rfl, hf2, hhd, hFK⟩ := hK
    refine hG_ ?_
    clear hG_ G_
    rw [List.take_of_length_le (Nat.le_refl _)] at hFK
    with_reducible
     refine Au ?_
     refine hK_ _ _ ?_; clear hK_ K_
     refine Au ?_
     refine hK_ _ _ ?_; clear hK_ K_
    exact ⟨_, _, _, _, _, _, _, _, rfl, hfd, fun x hx => hf2 x (hff x hx), by rw [hsucc2]; exact hFK⟩
  ·intro σ₃ hJ
   refine Ae (fun G_ hG_ => ?_)
   obtain ⟨w3, w4, w5, w6, w7, fd, fk, f', rfl, hfd, hff, hFK⟩ := hJ
   refine hG_ ?_
   clear hG_ G_
   rw [List.take_of_length_le (Nat.le_of_eq hkl)] at hFK
   with_reducible
    refine Au ?_
    refine hK_ _ _ ?_; clear hK_ K_
   refine Am fd (by top_caught) ?_
   with_reducible
    refine B7 ?_
    refine A3 ?_
    refine AJ (by assumption) (by tb_rel) (by tb_rel) ?_
    refine Aj (by assumption) (by tb_rel) (by tb_rel) (by top_caught) ?_
    refine hK_ _ _ ?_; clear hK_ K_
   exact ⟨_, _, _, _, _, _, _, _, _, _, rfl, hfd, List.mem_cons_self, by rw [hsucc]; exact hFK⟩
 ·intro σ₂ hI
  refine Ae (fun G_ hG_ => ?_)
  obtain ⟨w1, w2, w3, w4, w5, w6, w7, td, kvs, f, rfl, htd, hkv, hKV⟩ := hI
  refine hG_ ?_
  clear hG_ G_
  have hcl := hcv.length
  rw [List.take_of_length_le (by exact Nat.le_of_eq hcl)] at hKV
  refine gen (Bq pieces stars choices) (fun tb htb => ?_)
  have htl : tb.length ≤ 256 := by
   have h1 := D8 pieces stars choices [(1, 1)] hch4
   have h3 : 4 ^ choices.length ≤ 4 ^ 4 := Nat.pow_le_pow_right (by exact by decide) hch
   rw [htb]
   show (choices.foldl (Cl pieces stars) [(1, 1)]).length ≤ 256
   simp only [List.length_cons, List.length_nil] at h1
   lia
  rw [← htb] at hKV
  have hkl := hKV.length
  have h2k : 2 ^ pv.length ≤ 2 ^ 5 := Nat.pow_le_pow_right (by exact by decide) (by exact Nat.le_trans (Nat.le_of_eq hpl.symm) hpieces)
  have hne : 2 ^ pv.length ≠ 0 := Nat.ne_of_gt (Nat.two_pow_pos _)
  have hlt : 2 ^ pv.length < 1073741824 := by exact Nat.lt_of_le_of_lt (by assumption) (by decide)
  with_reducible
   refine Au ?_
   refine A7 ?_; intro K_ hK_
   refine BC ?_
   refine HE (by assumption) (by assumption) (by tb_rel) (by assumption) (by assumption) ?_
   refine AH ?_
   refine A0 ?_
  refine' BJ he ?cc5 ?cg5
  case cc5 => exact ⟨CH rfl, rfl, by decide, by decide, by dsimp only; repeat first | exact B5.nil | (apply B5.free; focus tb_rel) | (apply B5.other; focus decide), ⟨fun _ _ => by with_unfolding_all rfl, trivial⟩⟩
  with_reducible
   refine B4 (by assumption) (by tb_rel) (by tb_rel) (by top_args) ?_
  refine ⟨_, _, [td], BP.dict htd (.inl hkv), (fun x hx => .inl (by rw [List.mem_singleton.mp hx]; exact List.mem_map_of_mem (f := (·.1)) hkv)), fun C e' he' _ _ => ?_⟩
  have he' : Ag e' C [((ofString ".0"), .local), ((ofString "mask"), .local), ((ofString "len"), .globalImplicit), ((ofString "pieces"), .cell), ((ofString "table"), .cell)] [((ofString "table"), L + 1 + 1 + 1), ((ofString "pieces"), L + 1)] := he'
  show Bw c C _ e' _ _ sizeLine _ _ _ ⟨[((ofString ".0"), none), ((ofString "mask"), none)], [], [], _⟩
  refine Bg (fun i => opt (fun p => p.1 / 2 ^ pieces.length == 1) tb[i]?) (fun i y f => ∃ p, tb[i]? = some p ∧ ∃ t, y = .int (C3 tb p.1 : Nat) t) (by rw [sizeLine_eq]; exact Nat.lt_of_le_of_lt (Nat.le_trans (Nat.le_of_eq hkl.symm) htl) (by decide)) (fun i y f f' hf h => h) (fun i v w f2 hi hP K_ hK_ => ?_) (fun tv σ' hG htv => ?_)
  ·refine Ae (fun G_ hG_ => ?_)
   obtain ⟨mk, mx, mt, hm1, rfl⟩ := hP
   obtain ⟨p, hp, hp1, _⟩ := AA.get hKV hm1
   refine hG_ ?_
   clear hG_ G_
   have hp1 : mk = ((p.1 : Nat) : Int) := hp1
   subst hp1
   rw [hp] at hK_
   obtain ⟨t7, hval⟩ := hKV.has hp
   clear he
   with_reducible
    refine C0 (by assumption) (by tb_rel) (by top_caught) ?_
    refine Bl ?_
    refine A4 ?_
    refine Az ?_
    refine AJ (by assumption) (by tb_rel) (by tb_rel) ?_
    refine Az ?_
    refine AC ?_; intro _
    refine B1 (CI (by assumption) (by assumption) (by tb_rel) (by assumption) (by assumption) (KE (by assumption) (by tb_rel) (by tb_rel) (by top_args)) (by top_args) (by assumption)) ?_; intro _
    refine LX (by exact Nat.le_of_lt (Nat.lt_of_le_of_lt (Nat.le_trans (Nat.le_of_eq hpl.symm) hpieces) (by decide))) ?_; intro _
    refine ED (by assumption) (by assumption) ?_; intro _
    refine AC ?_; intro _
    refine DB ?_
    refine A1 ?_
   have e3 : ∀ z : Nat, (((z : Nat) : Int) == 1) = (z == 1) := fun z => by rw [Bool.eq_iff_iff]; simp only [beq_iff_eq]; lia
   rw [e3, ← hpl]
   refine Ab (fun h => ?_) (fun h => ?_)
   ·refine hK_ _ _ ⟨h.symm, fun _ => ?_, fun h => nomatch h⟩
    with_reducible
     refine DW (E_c (by assumption) (by tb_rel) (by tb_rel) (by top_args)) (E_l (by assumption) (by tb_rel) (by tb_rel)) ?_
    refine FF (by top_args) hval ?_
    exact ⟨⟨_, _, rfl⟩, fun x hx => hx, p, rfl, _, rfl⟩
   ·exact hK_ _ _ ⟨h.symm, (fun h => nomatch h), fun _ => ⟨⟨_, _, rfl⟩, fun x hx => hx⟩⟩
  clear he'
  rw [← hkl] at htv
  have htn := (BN (0, 0) htv).map (R' := fun i v => ∃ t, v = Value.int (i : Nat) t) (fun p => C3 tb p.1) fun a _ b hab => hab
  refine ⟨_, fun p hp => .inl hp, fun sd => ?_⟩
  dsimp only
  with_reducible
   refine A2 ?_
  refine V_sum (by top_args) htn (fun t9 => ?_)
  rw [show ((tb.filter fun p => p.1 / 2 ^ pieces.length == 1).map fun p => C3 tb p.1).sum = EC pieces stars choices from by rw [htb]; rfl]
  refine hK_ _ _ ?_
  exact ⟨_, [], rfl, ⟨_, rfl, rfl⟩, fun p hp => nomatch hp⟩
end
theorem Jp : (Al 13).names = [((ofString "text"), .cell), ((ofString "words"), .local), ((ofString "steps"), .local), ((ofString "k"), .cell), ((ofString "found"), .local), ((ofString "step"), .local), ((ofString "marks"), .local), ((ofString "len"), .globalImplicit), ((ofString "_law_set"), .globalImplicit)] := by rfl
inductive Gz (f : Led) (w : List Nat × Stp) (y : Value) : Prop
 | mk (a : Addr) (t : Tok) (v : Value) (h1 : y = .ref a) (h2 : (a, D.tup [.str (S w.1) t, v]) ∈ f) (h3 : DZ f w.2 v)
noncomputable def Ds (f : Led) : Option Stp → Value → Prop
 | none, v => v = .none
 | some s, v => DZ f s v
theorem DZ.more {f f' : Led} (h : ∀ x ∈ f, x ∈ f') : ∀ {s : Stp} {v : Value}, DZ f s v → DZ f' s v := by
 intro s v q
 cases s with
 | set l => exact Q7.rec (fun a vs h1 h2 h3 => ⟨a, vs, h1, h _ h2, h3⟩) q
 | _ => exact q
theorem Ds.more {f f' : Led} (h : ∀ x ∈ f, x ∈ f') : ∀ {s : Option Stp} {v : Value}, Ds f s v → Ds f' s v := by
 intro s v q
 cases s with
 | none => exact q
 | some s => exact DZ.more h q
theorem Gz.more {f f' : Led} (h : ∀ x ∈ f, x ∈ f') {w : List Nat × Stp} {y : Value} : Gz f w y → Gz f' w y := Gz.rec fun a t v h1 h2 h3 => ⟨a, t, v, h1, h _ h2, h3.more h⟩
noncomputable def gS (o : Option Stp) (z : PySem.Str) : Bool := match o with
 | some .hold => z == S [104, 111, 108, 100]
 | some .free => z == S [102, 114, 101, 101]
 | some .least => z == S [108, 101, 97, 115, 116]
 | some .most => z == S [109, 111, 115, 116]
 | _ => false
theorem eqv_S {σ : St} {x y : List Nat} {t u : Tok} : EqV σ (.str (S x) t) (.str (S y) u) (S x == S y) := fun _ _ _ _ _ _ => SeqAt.EqAt.str_str _ _ _ _
theorem gS_eq {f : Led} {σ : St} (hf : ∀ y ∈ f, Has σ y.1 y.2) : ∀ {o : Option Stp} {v : Value} {z : List Nat} {tz : Tok}, Ds f o v → EqV σ (.str (S z) tz) v (gS o (S z)) := by
 intro o v z tz h
 cases o with
 | none => exact (show v = .none from h) ▸ EqV.str_none
 | some s =>
  cases s with
  | set l => exact Q7.rec (fun a vs h1 h2 h3 => h1 ▸ EqV.str_list (hf _ h2)) h
  | _ => exact Cj h fun t ht => ht ▸ eqv_S
theorem gS_mark (o : Option Stp) : (gS o (S [104, 111, 108, 100]) || (gS o (S [102, 114, 101, 101]) || false)) = Cn o := by
 match o with
 | none => rfl
 | some .hold => simp [gS, Cn]
 | some .free => simp [gS, Cn]
 | some .least => show ((S _ == S _) || ((S _ == S _) || false)) = false; rw [Ga, Ga]; rfl
 | some .most => show ((S _ == S _) || ((S _ == S _) || false)) = false; rw [Ga, Ga]; rfl
 | some (.set l) => rfl
theorem M8 {f : Led} : ∀ {o : Option Stp} {v : Value}, Cn o = true → Ds f o v → ∃ t, v = .str (S (KJ o)) t := by
 intro o v hm h
 cases o with
 | none => cases hm
 | some s => cases s <;> first | exact h | cases hm
theorem Jq {f : Led} {σ : St} (hf : ∀ y ∈ f, Has σ y.1 y.2) : ∀ {o : Option Stp} {v : Value}, Ds f o v → EqV σ v .none (decide (o = none)) ∧ (match v with | .none => true | _ => false) = decide (o = none) := by
 intro o v h
 cases o with
 | none => cases h; exact ⟨EqV.none_none, rfl⟩
 | some s =>
  cases s with
  | set l => obtain ⟨a, vs, rfl, h2, h3⟩ := h; exact ⟨EqV.list_none (hf _ h2), rfl⟩
  | _ => obtain ⟨t, rfl⟩ := h; exact ⟨EqV.str_none, rfl⟩
theorem NI {f : Led} {σ : St} (hf : ∀ y ∈ f, Has σ y.1 y.2) : ∀ {acc : List (Option Stp)} {sv : List Value}, AA (Ds f) acc sv → (sv.any fun v => match v with | .none => true | _ => false) = acc.contains none := by
 intro acc sv h
 induction h with
 | nil => rfl
 | @cons o v os vs h1 t ih =>
  rw [List.any_cons, List.contains_cons, ih, (Jq hf h1).2]
  congr 1
  rw [Bool.eq_iff_iff]
  simp only [decide_eq_true_eq, beq_iff_eq]
  exact eq_comm
theorem NJ {f : Led} : ∀ {acc : List (Option Stp)} {sv : List Value}, AA (Ds f) acc sv → acc.contains none = false → AA (DZ f) (acc.filterMap id) sv := by
 intro acc sv h
 induction h with
 | nil => exact fun _ => .nil
 | @cons o v os vs h1 t ih =>
  intro hc
  rw [List.contains_cons, Bool.or_eq_false_iff] at hc
  cases o with
  | none => exact absurd hc.1 (by decide)
  | some s => exact .cons h1 (ih hc.2)
section
variable {c : Cx} {n : Nat}
theorem KQ (hc : c.Ok) {a1 a2 a : Addr} (F1 : D0 c a1 (ofString "_law_one") [(ofString "text"), (ofString "k")] (Av 11) (Al 11)) (F2 : D0 c a2 (ofString "_law_set") [(ofString "text"), (ofString "k")] (Av 12) (Al 12)) (F : D0 c a (ofString "_law_steps") [(ofString "text")] (Av 13) (Al 13))
  (hlen : c.mg (ofString "len") = none) (hlen' : c.mb (ofString "len") = some (.builtin "len")) {x : List Nat} {t : Tok} (hx : x.length ≤ 2 ^ 16) :
  Hp c 3 (.ref a) [.str (S x) t] [] (fun v nz => match C6 x with | none => v = .none | some st => ∃ r vs, v = .ref r ∧ (r, D.list vs) ∈ nz ∧ AA (DZ nz) st vs) := by
 refine DT hc F Jp rfl rfl rfl (by decide) (by decide) rfl (by decide) fun L e he0 _ => ?_
 have he : Ag e L [((ofString "text"), .cell), ((ofString "words"), .local), ((ofString "steps"), .local), ((ofString "k"), .cell), ((ofString "found"), .local), ((ofString "step"), .local), ((ofString "marks"), .local), ((ofString "len"), .globalImplicit), ((ofString "_law_set"), .globalImplicit)]
  [((ofString "k"), L + 1 + 1), ((ofString "text"), L + 1)] := he0
 clear he0
 have hs : x.length ≤ sizeLine := by rw [sizeLine_eq]; exact Nat.le_trans (by assumption) (by decide)
 have hx62 : x.length < 2 ^ 62 := by exact Nat.lt_of_le_of_lt (by assumption) (by decide)
 show V c L 2 (execs (Av 13) e) _ ⟨[((ofString "words"), none), ((ofString "steps"), none), ((ofString "found"), none), ((ofString "step"), none), ((ofString "marks"), none)], [(L + 1 + 1, .cell none), (L + 1, .cell (some (.str (S x) t)))], [], []⟩
 refine AB ?_
 with_reducible
  refine A3 ?_
  refine Bo ?_
  refine A0 ?_
  refine Aw ?_
  refine H6 lit21 Hs ?_; intro _ _
  refine A6 (by with_unfolding_all exact Nat.le_of_ble_eq_true rfl) ?_; intro _
  refine A0 ?_
  refine Aw ?_
  refine H6 Nl Ji ?_; intro _ _
  refine A6 (by with_unfolding_all exact Nat.le_of_ble_eq_true rfl) ?_; intro _
  refine A0 ?_
  refine Aw ?_
  refine H6 lit24 Nm ?_; intro _ _
  refine A6 (by with_unfolding_all exact Nat.le_of_ble_eq_true rfl) ?_; intro _
  refine A0 ?_
  refine Aw ?_
  refine H6 PR PT ?_; intro _ _
  refine A6 (by with_unfolding_all exact Nat.le_of_ble_eq_true rfl) ?_; intro _
  refine A0 ?_
  refine Aw ?_
  refine A0 ?_
  refine AP lit9 ?_; intro _
  refine A0 ?_
  refine Bo ?_
  refine A2 ?_
  refine Ao (by with_unfolding_all exact Nat.le_of_ble_eq_true rfl) ?_; intro _
  refine A2 ?_
  refine A6 (by with_unfolding_all exact Nat.le_of_ble_eq_true rfl) ?_; intro _
  refine A0 ?_
  refine Aw ?_
  refine A0 ?_
  refine AP lit10 ?_; intro _
  refine A0 ?_
  refine Bo ?_
  refine A0 ?_
  refine AP LL ?_; intro _
  refine Q5 KA PU PV ?_; intro _ _ _
  refine Ao (by with_unfolding_all exact Nat.le_of_ble_eq_true rfl) ?_; intro _
  refine A2 ?_
  refine A6 (by with_unfolding_all exact Nat.le_of_ble_eq_true rfl) ?_; intro _
  refine A2 ?_
  refine Ao (by with_unfolding_all exact Nat.le_of_ble_eq_true rfl) ?_; intro _
  refine A8 (by assumption) (by tb_rel) (by top_caught) ?_
 refine Am _ (by top_caught) ?_
 refine Am _ (by top_caught) ?_
 refine Am _ (by top_caught) ?_
 refine V_gen (fun σ => Ex3 fun (wa : Addr) (wv : List Value) (f : Led) => Q3 (σ = ⟨[((ofString "words"), some (.ref wa)), ((ofString "steps"), none), ((ofString "found"), none), ((ofString "step"), none), ((ofString "marks"), none)], [(L + 1 + 1, .cell none), (L + 1, .cell (some (.str (S x) t)))], f, []⟩) ((wa, D.list wv) ∈ f) (AA (Gz f) BG wv))
  ⟨_, _, _, rfl, by tb_rel, .cons ⟨_, _, _, rfl, by tb_rel, _, rfl⟩ (.cons ⟨_, _, _, rfl, by tb_rel, _, rfl⟩ (.cons ⟨_, _, _, rfl, by tb_rel, _, rfl⟩ (.cons ⟨_, _, _, rfl, by tb_rel, _, rfl⟩
   (.cons ⟨_, _, _, rfl, by tb_rel, _, _, rfl, by tb_rel, .nil⟩ (.cons ⟨_, _, _, rfl, by tb_rel, _, _, rfl, by tb_rel, .cons ⟨_, rfl⟩ (.cons ⟨_, rfl⟩ (.cons ⟨_, rfl⟩ (.cons ⟨_, rfl⟩ .nil)))⟩ .nil)))))⟩ (fun σ' hσ => ?_)
 refine Ae (fun G_ hG_ => ?_)
 obtain ⟨wa, wv, f0, rfl, hwa, hwords⟩ := hσ
 refine hG_ ?_
 clear hG_ G_
 with_reducible
  refine A7 ?_; intro K_ hK_
  refine B8 ?_ (by with_unfolding_all first | rfl | exact sw2 (by assumption) (by tb_rel) (by tb_rel) rfl | exact sw3 (by assumption) (by tb_rel) (by tb_rel) (by tb_rel) rfl)
  refine Aw ?_
  refine A0 ?_
  refine Bo ?_
  refine A2 ?_
  refine Ao (by with_unfolding_all exact Nat.le_of_ble_eq_true rfl) ?_; intro _
  refine A0 ?_
  refine AC ?_; intro _
  refine A2 ?_
  refine A6 (by with_unfolding_all exact Nat.le_of_ble_eq_true rfl) ?_; intro _
  refine CG (by top_args) (by with_unfolding_all rfl) ?_
  refine LV (by assumption) (by tb_rel) (by top_caught) ?_
  refine AW ?_
  refine CK (by assumption) (by tb_rel) (by tb_rel) (by top_caught) ?_
  refine Bf ?_
  refine hK_ _ _ ?_; clear hK_ K_
  refine A7 ?_; intro K_ hK_
 refine gen (Bi x (x.length + 1) 0 []) (fun R hR => ?_)
 refine Cz (fun fuel σ => Ex9 fun (kk : Nat) (acc : List (Option Stp)) (sa : Addr) (sv : List Value) (u1 : Tok) (w1 w2 w3 : Option Value) (f : Led) => And6 (σ = ⟨[((ofString "words"), some (.ref wa)), ((ofString "steps"), some (.ref sa)), ((ofString "found"), w1), ((ofString "step"), w2), ((ofString "marks"), w3)], [(sa, .list sv), (L + 1 + 1, .cell (some (.int (kk : Nat) u1))), (L + 1, .cell (some (.str (S x) t)))], f, []⟩) ((∀ y ∈ f0, y ∈ f)) (AA (Ds f) acc sv) (Bi x fuel kk acc = R) (x.length + 1 ≤ fuel + kk) (acc.length + fuel ≤ x.length + 1))
  (x.length + 1) ⟨0, [], _, _, _, _, _, _, _, rfl, fun y hy => List.mem_cons_of_mem _ hy, .nil, hR.symm, by exact Nat.lt_succ_self _, by simp⟩ (fun fuel σ hI K_ hK_ => ?_)
 refine Ae (fun G_ hG_ => ?_)
 obtain ⟨kk, acc, sa, sv, u1, w1, w2, w3, f, rfl, hff, hacc, hrun, hfu, hln⟩ := hI
 refine hG_ ?_
 clear hG_ G_
 have hvl := hacc.length
 with_reducible
  refine Ct (Aq (KD (by assumption) (by tb_rel) (by tb_rel) (by top_args)) (EA (by assumption) (by assumption) (by tb_rel) (by assumption) (by assumption) (D5 (by assumption) (by tb_rel) (by tb_rel) (by top_args)) (by assumption)) Ee) ?_
 by_cases hlt : kk < x.length
 ·refine A9 (by simpa using hlt) ?_
  obtain ⟨fuel, rfl⟩ : ∃ j, fuel = j + 1 := ⟨fuel - 1, by lia⟩
  rw [Bi, if_pos hlt] at hrun
  have hwa' := hff _ hwa
  refine AB ?_
  refine' BK he ?cc1 (by tb_rel) ?cg1
  case cc1 => exact ⟨CH rfl, rfl, by decide, by decide, by dsimp only; repeat first | exact B5.nil | (apply B5.free; focus tb_rel) | (apply B5.other; focus decide), ⟨fun _ _ => by with_unfolding_all rfl, trivial⟩⟩
  with_reducible
   refine AJ (by assumption) (by tb_rel) (by tb_rel) ?_
  refine ⟨_, _, [wa], BP.list (.inl hwa'), (fun y hy => .inl (by rw [List.mem_singleton.mp hy]; exact List.mem_map_of_mem (f := (·.1)) hwa')), fun C e' he' _ _ => ?_⟩
  have he' : Ag e' C [((ofString ".0"), .local), ((ofString "pair"), .local), ((ofString "len"), .globalImplicit), ((ofString "k"), .cell), ((ofString "text"), .cell)] [((ofString "text"), L + 1), ((ofString "k"), L + 1 + 1)] := he'
  show Bw c C _ e' _ _ sizeLine _ _ _ ⟨[((ofString ".0"), none), ((ofString "pair"), none)], [], [], _⟩
  have hwl := hwords.length
  have hw6 : wv.length = 6 := by rw [← hwl]; rfl
  refine Bg (fun i => opt (HK x kk) BG[i]?) (fun i y f => ∃ w, BG[i]? = some w ∧ Gz f0 w y) (by rw [sizeLine_eq, hw6]; decide) (fun i y f f' hf h => h) (fun i v w f3 hi hP K_ hK_ => ?_) (fun fv σ' hG hfv => ?_)
  ·refine Ae (fun G_ hG_ => ?_)
   obtain ⟨wd, hwd, ta, t1, v1, rfl, hta, hst⟩ := hwords.get hP
   refine hG_ ?_
   clear hG_ G_
   rw [hwd] at hK_
   have hta' := hff _ hta
   have hwd62 : wd.1.length < 2 ^ 62 := by
    have hm := List.mem_of_getElem? hwd
    simp only [BG, List.mem_cons, List.not_mem_nil, or_false] at hm
    rcases hm with rfl | rfl | rfl | rfl | rfl | rfl <;> decide
   clear he
   with_reducible
    refine C0 (by assumption) (by tb_rel) (by top_caught) ?_
    refine Bl ?_
    refine A4 ?_
    refine BY ?_
    refine B4 (by assumption) (by tb_rel) (by tb_rel) (by top_args) ?_
    refine Ex ?_
    refine BE ?_
    refine B4 (by assumption) (by tb_rel) (by tb_rel) (by top_args) ?_
    refine BE ?_
    refine Az ?_
    refine B4 (by assumption) (by tb_rel) (by tb_rel) (by top_args) ?_
    refine HE (by assumption) (by assumption) (by tb_rel) (by assumption) (by assumption) ?_
    refine AH ?_
    refine A0 ?_
    refine BY ?_
    refine AJ (by assumption) (by tb_rel) (by tb_rel) ?_
    refine AC ?_; intro _
    refine Br (by top_args) (by decide) (by decide) (by with_unfolding_all rfl) ?_
    refine A2 ?_
    refine Fw (by assumption) ?_; intro _
    refine Dk ?_; intro _
    intro _
    refine Ea (.int _ _) (.int _ _) (by assumption) ?_; intro _
    refine BY ?_
    refine AJ (by assumption) (by tb_rel) (by tb_rel) ?_
    refine AC ?_; intro _
    refine Br (by top_args) (by decide) (by decide) (by with_unfolding_all rfl) ?_
    refine Cv ?_
    refine A1 ?_
   refine Ab (fun h => ?_) (fun h => ?_)
   ·refine hK_ _ _ ⟨h.symm, fun _ => ?_, fun h => nomatch h⟩
    with_reducible
     refine AJ (by assumption) (by tb_rel) (by tb_rel) ?_
    exact ⟨⟨_, _, rfl⟩, fun y hy => hy, wd, rfl, ta, t1, v1, rfl, hta, hst⟩
   ·exact hK_ _ _ ⟨h.symm, (fun h => nomatch h), fun _ => ⟨⟨_, _, rfl⟩, fun y hy => hy⟩⟩
  clear he'
  rw [hw6] at hfv
  have hfw := BN ([], Stp.hold) (l := BG) hfv
  refine ⟨_, fun p hp => .inl hp, fun fd => ?_⟩
  dsimp only
  refine Am fd (by top_caught) ?_
  with_reducible
   refine A8 (by assumption) (by tb_rel) (by top_caught) ?_
  refine LO (fun σ' => Ex3 fun (v2 : Value) (u2 : Tok) (f2 : Led) => Q3 (σ' = ⟨[((ofString "words"), some (.ref wa)), ((ofString "steps"), some (.ref sa)), ((ofString "found"), some (.ref fd)), ((ofString "step"), some v2), ((ofString "marks"), w3)], [(sa, .list sv), (L + 1 + 1, .cell (some (.int ((B0 x kk).2 : Nat) u2))), (L + 1, .cell (some (.str (S x) t)))], f2, []⟩) ((∀ y ∈ f, y ∈ f2)) (Ds f2 (B0 x kk).1 v2)) ?_ (fun σ' hσ => ?_)
  ·with_reducible
    refine Ci ?_; intro K_ hK_
    refine A4 ?_
    refine AJ (by assumption) (by tb_rel) (by tb_rel) ?_
    refine Bo ?_
    refine A2 ?_
    refine Ao (by with_unfolding_all exact Nat.le_of_ble_eq_true rfl) ?_; intro _
   refine Am _ (by top_caught) ?_
   have hmem : ∀ (b1 : Addr × D) (nz : Led) (y : Addr × D), y ∈ f → y ∈ (b1 :: (fd, D.list fv) :: (nz ++ f) : Led) := fun b1 nz y hy => List.mem_cons_of_mem _ (List.mem_cons_of_mem _ (List.mem_append_right _ hy))
   cases hfil : BG.filter (HK x kk) with
   | nil =>
    rw [hfil] at hfw
    cases hfw
    refine Gw (vs := []) (ws := []) (fun _ => true) (by top_args) (by top_args) rfl (fun j h1 h2 => absurd h2 (Nat.not_lt_zero j)) ?_
    refine Cj (show ∃ ch, x[kk]? = some ch from ⟨_, List.getElem?_eq_getElem hlt⟩) (fun ch hch => ?_)
    have hat : at1 x kk = [ch] := by unfold at1; rw [hch]
    with_reducible
     refine A1 ?_
     refine hK_ _ _ ?_; clear hK_ K_
     refine Ad (by decide) ?_
     refine B7 ?_
     refine B8 ?_ (by with_unfolding_all first | rfl | exact sw2 (by assumption) (by tb_rel) (by tb_rel) rfl | exact sw3 (by assumption) (by tb_rel) (by tb_rel) (by tb_rel) rfl)
     refine BS ?_
     refine A4 ?_
     refine DW (E_c (by assumption) (by tb_rel) (by tb_rel) (by top_args)) (E_c (by assumption) (by tb_rel) (by tb_rel) (by top_args)) ?_
     refine AX (by assumption) (by exact Nat.lt_trans hlt hx62) ?_; intro _
     refine AP PQ ?_; intro _
     refine Cv ?_
     refine A1 ?_
    refine Ab (fun h => ?_) (fun h => ?_)
    ·with_reducible
      refine Q6 (by assumption) (by assumption) (by tb_rel) (by assumption) ?_
      refine LC (E_c (by assumption) (by tb_rel) (by tb_rel) (by top_args)) ?_
      refine A0 ?_
      refine B1 (AF (KD (by assumption) (by tb_rel) (by tb_rel) (by top_args)) Ak) ?_; intro _
      refine A2 ?_
     show V c L 2 (call _ [_, .int ((kk + 1 : Nat) : Int) _]) _ _
     refine Hr (NH hc F1 F2 hx (by assumption)) (fun p hp => nomatch hp) (fun v nz hpost => ?_)
     refine Ae (fun G_ hG_ => ?_)
     obtain ⟨r, v1, t2, nz', rfl, rfl, hopt⟩ := hpost
     refine hG_ ?_
     clear hG_ G_
     with_reducible
      refine CG (by top_args) (by with_unfolding_all rfl) ?_
      refine LV (by assumption) (by tb_rel) (by top_caught) ?_
      refine AW ?_
      refine CK (by assumption) (by tb_rel) (by tb_rel) (by top_caught) ?_
      refine Bf ?_
     have hstep : B0 x kk = ((BQ x (kk + 1)).1.map Stp.set, (BQ x (kk + 1)).2) := by
      unfold B0; rw [hfil]
      exact if_pos (by rw [hat]; simpa using h)
     rw [hstep]
     refine ⟨rfl, v1, _, _, rfl, fun y hy => List.mem_cons_of_mem _ (List.mem_append_right _ (hmem _ _ y hy)), ?_⟩
     cases ho : (BQ x (kk + 1)).1 with
     | none => rw [ho] at hopt; exact hopt
     | some l =>
      rw [ho] at hopt
      refine Ae (fun G_ hG_ => ?_)
      obtain ⟨a5, vs5, h1, h2, h3⟩ := hopt
      refine hG_ ?_
      clear hG_ G_
      exact ⟨a5, vs5, h1, List.mem_cons_of_mem _ (List.mem_append_left _ h2), h3⟩
    ·with_reducible
      refine Aw ?_
      refine A0 ?_
      refine Fv ?_
      refine A0 ?_
      refine B1 (AF (KD (by assumption) (by tb_rel) (by tb_rel) (by top_args)) Ak) ?_; intro _
      refine A2 ?_
      refine A6 (by with_unfolding_all exact Nat.le_of_ble_eq_true rfl) ?_; intro _
      refine CG (by top_args) (by with_unfolding_all rfl) ?_
      refine LV (by assumption) (by tb_rel) (by top_caught) ?_
      refine AW ?_
      refine CK (by assumption) (by tb_rel) (by tb_rel) (by top_caught) ?_
      refine Bf ?_
     have hstep : B0 x kk = (none, kk + 1) := by
      unfold B0; rw [hfil]
      exact if_neg (by rw [hat]; simpa using h)
     rw [hstep]
     exact ⟨rfl, .none, _, _, rfl, fun y hy => List.mem_cons_of_mem _ (hmem _ _ y hy), rfl⟩
   | cons w r =>
    rw [hfil] at hfw
    cases hfw with
    | cons h1 h2 =>
     refine Ae (fun G_ hG_ => ?_)
     obtain ⟨ta, t1, v1, rfl, hta, hst⟩ := h1
     refine hG_ ?_
     clear hG_ G_
     have hta' := hff _ hta
     have hwd62 : w.1.length < 2 ^ 62 := by
      have hm : w ∈ BG := (List.mem_filter.mp (by rw [hfil]; exact List.mem_cons_self)).1
      simp only [BG, List.mem_cons, List.not_mem_nil, or_false] at hm
      rcases hm with rfl | rfl | rfl | rfl | rfl | rfl <;> decide
     refine DN (by top_args) (by top_args) (by simp) ?_
     with_reducible
      refine A1 ?_
      refine hK_ _ _ ?_; clear hK_ K_
      refine A9 (by decide) ?_
      refine B7 ?_
      refine B8 ?_ (by with_unfolding_all first | rfl | exact sw2 (by assumption) (by tb_rel) (by tb_rel) rfl | exact sw3 (by assumption) (by tb_rel) (by tb_rel) (by tb_rel) rfl)
      refine Aw ?_
      refine A0 ?_
      refine BY ?_
      refine BY ?_
      refine AJ (by assumption) (by tb_rel) (by tb_rel) ?_
      refine AC ?_; intro _
      refine EW (by top_args) (by with_unfolding_all rfl) ?_
      refine AC ?_; intro _
      refine Br (by top_args) (by decide) (by decide) (by with_unfolding_all rfl) ?_
      refine A0 ?_
      refine Az ?_
      refine B4 (by assumption) (by tb_rel) (by tb_rel) (by top_args) ?_
      refine HE (by assumption) (by assumption) (by tb_rel) (by assumption) (by assumption) ?_
      refine AH ?_
      refine A0 ?_
      refine BY ?_
      refine BY ?_
      refine AJ (by assumption) (by tb_rel) (by tb_rel) ?_
      refine AC ?_; intro _
      refine EW (by top_args) (by with_unfolding_all rfl) ?_
      refine AC ?_; intro _
      refine Br (by top_args) (by decide) (by decide) (by with_unfolding_all rfl) ?_
      refine A2 ?_
      refine Fw (by assumption) ?_; intro _
      refine Dk ?_; intro _
      refine A2 ?_
      refine A6 (by with_unfolding_all exact Nat.le_of_ble_eq_true rfl) ?_; intro _
      refine CG (by top_args) (by with_unfolding_all rfl) ?_
      refine LV (by assumption) (by tb_rel) (by top_caught) ?_
      refine AW ?_
      refine CK (by assumption) (by tb_rel) (by tb_rel) (by top_caught) ?_
      refine Bf ?_
     have hstep : B0 x kk = (some w.2, kk + w.1.length) := by unfold B0; rw [hfil]
     rw [hstep]
     exact ⟨rfl, v1, _, _, rfl, fun y hy => List.mem_cons_of_mem _ (hmem _ _ y hy), hst.more fun y hy => List.mem_cons_of_mem _ (hmem _ _ y (hff y hy))⟩
  refine Ae (fun G_ hG_ => ?_)
  obtain ⟨v2, u2, f2, rfl, hf2, ho2⟩ := hσ
  refine hG_ ?_
  clear hG_ G_
  refine AB ?_
  with_reducible
   refine BF ?_ (by assumption)
   refine Ba ?_
   refine AJ (by assumption) (by tb_rel) (by tb_rel) ?_
   refine Cy (Ty.list (by top_args)) ?_
   refine Ah ?_
   refine DV (E_l (by assumption) (by tb_rel) (by tb_rel)) ?_
  refine Cw (by top_caught) (by rw [sizeLine_eq]; clear hfu; lia) ?_
  with_reducible
   refine Au ?_
   refine hK_ _ _ ?_; clear hK_ K_
  have hup := FH x kk
  exact ⟨fuel, Nat.lt_succ_self _, (B0 x kk).2, acc ++ [(B0 x kk).1], _, _, _, _, _, _, _, rfl, fun y hy => hf2 y (hff y hy), (hacc.mono fun o _ v hv => hv.more hf2).append (.cons ho2 .nil), hrun, by lia, by rw [List.length_append, List.length_singleton]; lia⟩
 ·refine Ad (by simpa using hlt) ?_
  clear hK_ K_
  have hrun2 : acc = R := by
   rw [← hrun]
   cases fuel with
   | zero => rfl
   | succ j => rw [Bi, if_neg hlt]
  with_reducible
   refine Au ?_
   refine hK_ _ _ ?_; clear hK_ K_
  refine Am sa (by top_caught) ?_
  have hvl2 : sv.length ≤ 2 ^ 17 := by lia
  have hRl : C6 x = if FG acc && !acc.contains none then some (acc.filterMap id) else none := by rw [hrun2, hR]; rfl
  refine AB ?_
  refine' BK he ?cc2 (by tb_rel) ?cg2
  case cc2 => exact ⟨CH rfl, rfl, by decide, by decide, by dsimp only; repeat first | exact B5.nil | (apply B5.free; focus tb_rel) | (apply B5.other; focus decide), ⟨fun _ _ => by with_unfolding_all rfl, trivial⟩⟩
  with_reducible
   refine AJ (by assumption) (by tb_rel) (by tb_rel) ?_
  refine ⟨_, _, [sa], BP.list (.inl List.mem_cons_self), (fun y hy => .inl (by rw [List.mem_singleton.mp hy]; exact List.mem_cons_self)), fun C e' he' _ _ => ?_⟩
  have he' : Ag e' C [((ofString ".0"), .local), ((ofString "step"), .local)] [] := he'
  show Bw c C _ e' _ _ sizeLine _ _ _ ⟨[((ofString ".0"), none), ((ofString "step"), none)], [], [], _⟩
  refine Bg (fun i => opt Cn acc[i]?) (fun i y g => ∃ o, acc[i]? = some o ∧ Ds f o y) (by rw [sizeLine_eq]; exact Nat.lt_of_le_of_lt (by assumption) (by decide)) (fun i y f f' hf h => h) (fun i v w f3 hi hP K_ hK_ => ?_) (fun mv σ' hG hmv => ?_)
  ·obtain ⟨o, ho, hov⟩ := hacc.get hP
   rw [ho] at hK_
   clear he
   with_reducible
    refine C0 (by assumption) (by tb_rel) (by top_caught) ?_
    refine Bl ?_
    refine A4 ?_
    refine AJ (by assumption) (by tb_rel) (by tb_rel) ?_
    refine Aw ?_
    refine H6 Hs Ji ?_; intro _ _
    refine A6 (by with_unfolding_all exact Nat.le_of_ble_eq_true rfl) ?_; intro _
   refine Ff (vs := [.str (S [104, 111, 108, 100]) _, .str (S [102, 114, 101, 101]) _]) (fun y => match y with | .str z _ => gS o z | _ => false) (by top_args) (fun y hy => ?_) ?_
   ·rcases List.mem_cons.mp hy with rfl | hy
    ·exact gS_eq (fun y hy => .inr (.inr (List.mem_append_right _ (List.mem_append_left _ (List.mem_cons_of_mem _ hy))))) hov
    ·rw [List.mem_singleton.mp hy]; exact gS_eq (fun y hy => .inr (.inr (List.mem_append_right _ (List.mem_append_left _ (List.mem_cons_of_mem _ hy))))) hov
   ·with_reducible
     refine A1 ?_
    have hg := gS_mark o
    refine Ab (fun h => ?_) (fun h => ?_)
    ·refine hK_ _ _ ⟨by show true = Cn o; rw [← hg]; exact h.symm, fun _ => ?_, fun h => nomatch h⟩
     with_reducible
      refine AJ (by assumption) (by tb_rel) (by tb_rel) ?_
     exact ⟨⟨_, _, rfl⟩, fun y hy => List.mem_cons_of_mem _ hy, o, rfl, hov⟩
    ·exact hK_ _ _ ⟨by show false = Cn o; rw [← hg]; exact h.symm, (fun h => nomatch h), fun _ => ⟨⟨_, _, rfl⟩, fun y hy => List.mem_cons_of_mem _ hy⟩⟩
  clear he'
  rw [← hvl] at hmv
  have hm1 := BN (none : Option Stp) hmv
  have hm2 : Bk ((acc.filter Cn).map KJ) mv := hm1.map KJ fun o ho v hv => M8 (List.mem_filter.mp ho).2 hv
  have hml : (acc.filter Cn).length = mv.length := hm1.length
  have hml2 : mv.length ≤ 2 ^ 17 := by have := List.length_filter_le Cn acc; exact Nat.le_trans (Nat.le_trans (Nat.le_trans (Nat.le_of_eq hml.symm) this) (Nat.le_of_eq hvl)) hvl2
  have hm62 : mv.length < 2 ^ 62 := by exact Nat.lt_of_le_of_lt (by assumption) (by decide)
  refine ⟨_, fun p hp => .inl hp, fun md => ?_⟩
  dsimp only
  refine Am md (by top_caught) ?_
  with_reducible
   refine A8 (by assumption) (by tb_rel) (by top_caught) ?_
   refine A7 ?_; intro K_ hK_
   refine BC ?_
   refine BS ?_
   refine Ai ?_
   refine Aa ?_
   refine A4 ?_
   refine AJ (by assumption) (by tb_rel) (by tb_rel) ?_
   refine Az ?_
   refine Bo ?_
   refine H6 Hs Ji ?_; intro _ _
   refine Ao (by with_unfolding_all exact Nat.le_of_ble_eq_true rfl) ?_; intro _
   refine Az ?_
   refine B1 (CI (by assumption) (by assumption) (by tb_rel) (by assumption) (by assumption) (Nv (by assumption) (by tb_rel) (by tb_rel)) (by top_args) (by assumption)) ?_; intro _
   refine AC ?_; intro _
   refine KI ?_; intro _
  refine KH (by top_args) (by simp) (by exact Nat.le_of_lt (Nat.lt_of_le_of_lt (Nat.le_trans (Nat.div_le_self _ _) hml2) (by decide))) (by simp; lia) (fun rp => ?_)
  refine KK (by top_args) (by top_args) hm2 (AA.flatten_rep (as := [[104, 111, 108, 100], [102, 114, 101, 101]]) (.cons ⟨_, rfl⟩ (.cons ⟨_, rfl⟩ .nil)) (mv.length / 2)) ?_
  rw [← hml, show decide ((acc.filter Cn).map KJ = _) = FG acc from rfl]
  with_reducible
   refine A1 ?_
  have hf : ∀ (g : Led) (m2 : Led) (l2 : Loc), ∀ y ∈ f, Has ⟨l2, m2, (md, D.list mv) :: (g ++ (sa, D.list sv) :: f), []⟩ y.1 y.2 := fun g m2 l2 y hy => .inr (.inl (List.mem_cons_of_mem _ (List.mem_append_right _ (List.mem_cons_of_mem _ hy))))
  refine Ab (fun h => ?_) (fun h => ?_)
  ·with_reducible
    refine Aa ?_
    refine A4 ?_
    refine Fv ?_
    refine AJ (by assumption) (by tb_rel) (by tb_rel) ?_
   refine' ET (a := sa) (vs := sv) (fun v => match v with | .none => true | _ => false) ?n1 ?n2 ?n3
   case n1 => top_args
   case n2 =>
    intro y hy
    refine Ae (fun G_ hG_ => ?_)
    obtain ⟨j, hj, rfl⟩ := List.getElem_of_mem hy
    obtain ⟨o, ho, hov⟩ := hacc.get (List.getElem?_eq_getElem hj)
    refine hG_ ?_
    clear hG_ G_
    show EqV _ _ _ (match sv[j] with | .none => true | _ => false)
    rw [(Jq (hf σ'.fz [] []) hov).2]
    exact (Jq (hf _ _ _) hov).1
   case n3 =>
    rw [NI (hf σ'.fz [] []) hacc]
    with_reducible
     refine A1 ?_
    refine Ab (fun h2 => ?_) (fun h2 => ?_)
    ·with_reducible
      refine Bd ?_
      refine A9 (by decide) ?_
      refine AJ (by assumption) (by tb_rel) (by tb_rel) ?_
      refine hK_ _ _ ?_; clear hK_ K_
     rw [show C6 x = some (acc.filterMap id) from by rw [hRl, h, h2]; rfl]
     have hc : acc.contains none = false := by simpa using h2
     refine ⟨_, (sa, D.list sv) :: f, rfl, ⟨sa, sv, rfl, List.mem_cons_self, (NJ hacc hc).mono fun s _ v hv => hv.more fun y hy => List.mem_cons_of_mem _ hy⟩, fun p hp => .inl (List.mem_cons_of_mem _ (List.mem_append_right _ hp))⟩
    ·with_reducible
      refine Ad (by decide) ?_
      refine Fv ?_
      refine hK_ _ _ ?_; clear hK_ K_
     rw [show C6 x = none from by rw [hRl, h, h2]; rfl]
     exact ⟨_, [], rfl, rfl, fun p hp => nomatch hp⟩
  ·with_reducible
    refine Ad (by decide) ?_
    refine Fv ?_
    refine hK_ _ _ ?_; clear hK_ K_
   rw [show C6 x = none from by rw [hRl, h]; rfl]
   exact ⟨_, [], rfl, rfl, fun p hp => nomatch hp⟩
end
theorem E0 : builtinKind "list.append" = some Manifest.AttrKind.method := by decide +kernel
theorem md_get : typeLookup (.type "method_descriptor") (ofString "__get__") = pure (some (.builtin "method_descriptor.__get__")) := by rw [typeLookup_type, builtinLookup_eq_fast]; kernel_rfl
theorem md_set : typeLookup (.type "method_descriptor") (ofString "__set__") = pure none := by rw [typeLookup_type, builtinLookup_eq_fast]; kernel_rfl
theorem md_del : typeLookup (.type "method_descriptor") (ofString "__delete__") = pure none := by rw [typeLookup_type, builtinLookup_eq_fast]; kernel_rfl
theorem FK : Slot "method_descriptor" "__get__" "method_descriptor.__get__" :=
 .of (owner := "method_descriptor") (n := "__get__") (by rw [typeLookup_type, builtinLookup_eq_fast]; kernel_rfl) (by decide +kernel) (by decide +kernel) (by decide +kernel)
  (by first | exact .inl (by decide +kernel) | exact .inr (by decide +kernel)) (by rw [isSubtype_type]; kernel_rfl)
theorem HN : entryFor table "method_descriptor.__get__" = some Builtin.«method_descriptor.__get__» := entryFor_of_tree (by kernel_rfl)
theorem Jr (a b c : Value) : argsOk "method_descriptor.__get__" ⟨[a, b, c], []⟩ := by unfold argsOk; kernel_rfl
theorem EE (a : Addr) (xs : Array Value) (k : Nat) (u : Tok) :
  Meets (Builtin.«object.__getattribute__» ⟨[.ref a, .str (ofString "append") u], []⟩) (fun A R s => s.heap.get? a = some { cls := .type "list", dict := none, data := .seq xs k, slots := #[] } ∧
   R (.ok (.ret (.ref s.heap.objs.size))) { s with heap := s.heap.push { cls := .type "builtin_function_or_method", data := .fields #[.builtin "list.append", .ref a] } }) :=
 Meets.of_wp fun prog w A R s hs => by
  refine Ae (fun G_ hG_ => ?_)
  obtain ⟨hp, g, d, tk, os⟩ := s
  obtain ⟨hx, hs⟩ := hs
  refine hG_ ?_
  clear hG_ G_
  have hT : (⟨hp, g, d, tk, os⟩ : Shared).TypeIs (.ref a) "list" := ⟨_, hx, rfl⟩
  have f1 := PySem.F.slot_list_append.lookup
  have f2 := md_get
  have f3 := md_set
  have f4 := md_del
  unfold Builtin.«object.__getattribute__»
  repeat (any_goals (first | assumption | wp_step | (rw [E0]; dsimp only)))
  have f5 : (".".intercalate ("list.append".cutAt '.').dropLast) = "list" := by decide +kernel
  have f6 : isSubtype (.type "list") (.type "list") = pure true := by rw [isSubtype_type]; kernel_rfl
  refine codeAny_call_builtin FK.plain HN (FK.check _ _ _ _ _ _ _ _ ?_ (Jr _ _ _) ?_)
  ·show typeOf (.builtin "list.append") = _
   exact PySem.F.type_list_append
  ·unfold Builtin.«method_descriptor.__get__»
   repeat (any_goals (first | assumption | wp_step | (rw [E0]; dsimp only) | rw [f5]))
   exact ⟨_, rfl, hs⟩
theorem F4 {prog : Program} {w : World} {A : Around} {R : Result → Shared → Prop} {s : Shared} {a : Addr} {xs : Array Value} {k : Nat} {tk : Tok}
  (hx : s.heap.get? a = some { cls := .type "list", data := .seq xs k }) (h : R (.ok (.ret (.ref s.heap.objs.size))) { s with heap := s.heap.push { cls := .type "builtin_function_or_method", data := .fields #[.builtin "list.append", .ref a] } }) :
  codeAny (model prog w) A (.call (.builtin "list.__getattribute__") ⟨[.ref a, .str (ofString "append") tk], []⟩) R s :=
 codeAny_call_builtin F.slot_list_getattribute.plain am_entry_list_getattribute (F.slot_list_getattribute.check _ _ _ _ _ _ _ _ ⟨_, hx, rfl⟩ (F.args_list_getattribute_2 _ _) (EE a xs k tk prog w A R s ⟨hx, h⟩))
theorem Gh {prog : Program} {w : World} {A : Around} {E : Value → Shared → Prop} {s : Shared} {a : Addr} {xs : Array Value} {k : Nat} {Q : Value → Shared → Prop}
  (hx : s.heap.get? a = some { cls := .type "list", data := .seq xs k })
  (h : Q (.ref s.heap.objs.size) { s with heap := s.heap.push { cls := .type "builtin_function_or_method", data := .fields #[.builtin "list.append", .ref a] }, toks := s.toks + 1 }) :
  wpAny (model prog w) A (getAttr (.ref a) (ofString "append") true) Q E s := by
 refine Ae (fun G_ hG_ => ?_)
 obtain ⟨hp, g, d, tk, os⟩ := s
 refine hG_ ?_
 clear hG_ G_
 have hT : ∀ tk', (⟨hp, g, d, tk', os⟩ : Shared).TypeIs (.ref a) "list" := fun _ => ⟨_, hx, rfl⟩
 have f3 := F.slot_list_getattribute.lookup
 have f4 := F.slot_list_getattribute.bind (.ref a)
 unfold getAttr getAttrBy
 repeat (any_goals (first | assumption | exact hT _ | wp_step))
 refine F4 hx ?_
 exact wpAny_pure h
theorem NK {M : Model} {A : Around} {E : Value → Shared → Prop} {s : Shared} {a : Addr} {xs : Array Value} {k : Nat} {x : Value} {Q : Unit → Shared → Prop} (hx : s.heap.get? a = some { cls := .type "list", data := .seq xs k }) (h : Q () s) :
  wpAny M A (checkBoundCall "list.append" ⟨[.ref a, x], []⟩) Q E s := by
 have f2 : (match Manifest.signature? "list.append" with | some sig => Bind.checkArgs "list.append" { sig with full := s!"{Bind.lastOf "list"}.{Bind.lastOf "list.append"}" } ⟨[.ref a, x], []⟩ | none => pure ()) = pure () := by kernel_rfl
 have f3 : isSubtype (.type "list") (.type "module") = pure false := by rw [isSubtype_type]; kernel_rfl
 have f4 : Manifest.varargsMethods.contains "list.append" = false := by decide +kernel
 have hT : s.TypeIs (.ref a) "list" := ⟨_, hx, rfl⟩
 unfold checkBoundCall
 cases hsig : Manifest.signature? "list.append" with
 | none => exact wpAny_pure h
 | some sig =>
  rw [hsig] at f2
  simp only [] at f2
  simp only [E0]
  have e1 : (Manifest.AttrKind.method != Manifest.AttrKind.method && Manifest.AttrKind.method != Manifest.AttrKind.classMethod) = false := by decide
  simp only [e1, Bool.false_eq_true, if_false]
  refine wpAny_bind (wpAny_isInstance hT f3 ?_)
  simp only [f4, Bool.false_or, Bool.false_eq_true, if_false]
  refine wpAny_bind (m := isType (.ref a)) ?_
  unfold isType
  repeat (any_goals (first | assumption | wp_step))
noncomputable abbrev M9 (r : Addr) : Obj := { cls := .type "builtin_function_or_method", data := .fields #[.builtin "list.append", .ref r] }
noncomputable def Bu (r : Addr) : D := .prop fun o => o = M9 r
theorem KR {prog : Program} {w : World} {A : Around} {R : Result → Shared → Prop} {s : Shared} {b r : Addr} {x : Value} {xs : Array Value} {k : Nat} (hb : s.heap.get? b = some (M9 r)) (hr : s.heap.get? r = some { cls := .type "list", data := .seq xs k }) (hsz : xs.size ≤ sizeLine)
  (h : ∀ h', h'.PlainList r (xs.push x) → Heap.SameBut r s.heap h' → R (.ok (.ret .none)) { s with heap := h' }) : codeAny (model prog w) A (.call (.ref b) ⟨[x], []⟩) R s := by
 refine codeAny_of_tree ?_
 show wpAny _ _ (callAny (.ref b) _) _ _ _
 simp only [callAny]
 refine wpAny_bind (wpAny_load hb ?_)
 simp only []
 refine wpAny_bind (NK (k := k) hr ?_)
 refine wpAny_bind (wpAny_pure ?_)
 refine wpAny_pure ⟨Code.quiet_builtin _ (by decide +kernel), ?_⟩
 refine codeAny_builtin entry_list_append ?_
 show wpAny _ _ (updateSeq r (·.push x) >>= fun _ => ret .none) _ _ s
 refine wpAny_bind ?_
 refine wpAny_updateSeq hr rfl (wpAny_pure (h _ ⟨k + 1, ?_⟩ (Heap.SameBut.update ..)))
 rw [Heap.get?_update_self _ hr (by rw [Obj.mapSeq_push_plain]; rfl), Obj.mapSeq_push_plain]
theorem Gi {M : Model} {A : Around} {E : Value → Shared → Prop} {s : Shared} {pos : Pos} {b r : Addr} {first : List Value} {args : List (Bool × Sem Value)} {Q : Value → Shared → Prop} (hp : args.any (·.1) = false)
  (h : wpAny M A (spliced args) (fun vs s₁ => s₁.heap.get? b = some (M9 r) ∧ wpAny M A (call (.ref b) (first ++ vs)) Q E s₁) E s) : wpAny M A (callWith pos (.ref b) first args []) Q E s := by
 unfold callWith
 refine wpAny_bind (wpAny_holding (AG hp (wpAny_mono h (fun x s₁ h₁ => wpAny_bind (wpAny_standAt ?_)) fun _ _ x => x)))
 have tail : ∀ {t : Sem Value}, wpAny M A t Q E s₁ → wpAny M A (t >>= fun r => holding [r] point >>= fun _ => pure r) Q E s₁ :=
  fun ht => wpAny_bind (wpAny_mono ht (fun r s₂ hr => wpAny_bind (wpAny_holding (wpAny_point (wpAny_pure hr)))) fun _ _ x => x)
 simp only [hp, List.any_nil, Bool.or_false]
 refine wpAny_bind (m := keeperOf (.ref b)) ?_
 unfold keeperOf
 refine wpAny_bind (wpAny_load h₁.1 ?_)
 simp only []
 refine wpAny_pure ?_
 exact tail h₁.2
section
variable {c : Cx} {L : Addr} {n : Nat} {σ : St} {α β : Type} {e : Env} {l l' : Loc} {m m' f q : Led}
theorem PC {x attr : PySem.Str} {xp pos : Pos} {Q : Value → St → Prop} (h : V c L n (eval (.Name x xp) e) (fun o σ₁ => V c L n (getAttr o attr true) Q σ₁) σ) : V c L n (eval (.Attribute (.Name x xp) attr pos) e) Q σ :=
 V_two (fun _ _ _ _ h => Attribute_Name_ h) h
theorem Di {r : Addr} {vs : List Value} {Q : Value → St → Prop} (ha : Has ⟨l, m, f, q⟩ r (.list vs)) (h : ∀ b, Q (.ref b) ⟨l, m, (b, Bu r) :: f, q⟩) : V c L n (getAttr (.ref r) (ofString "append") true) Q ⟨l, m, f, q⟩ :=
 fun A B s hr hb ho hg => by
  obtain ⟨o, hl, k, rfl⟩ := ho.has ha
  exact Gh hl ⟨hg, rfl, _, ho.newFz (o := Bu r) (Ext.push _ _) (Nat.le_refl _) ⟨_, Heap.get?_push_size _ rfl, rfl⟩, h _⟩
theorem AL {pos : Pos} {b r : Addr} {args : List (Bool × Sem Value)} {Q : Value → St → Prop} (h0 : Has σ b (Bu r))
  (h : V c L n (spliced args) (fun vs σ₁ => Has σ₁ b (Bu r) ∧ V c L n (call (.ref b) vs) Q σ₁) σ) (hp : args.any (·.1) = false := by with_unfolding_all rfl) : V c L n (callWith pos (.ref b) [] args []) Q σ :=
 fun A B s hr hb ho hg => Gi hp (wpAny_mono (h A B s hr hb ho hg) (fun vs s₁ hp => by
  refine Ae (fun G_ hG_ => ?_)
  obtain ⟨hg', ho', σ', hw, hv⟩ := hp
  refine hG_ ?_
  clear hG_ G_
  have e1 := hw.has hv.1
  obtain ⟨o, e2, rfl⟩ := e1
  refine ⟨e2, ?_⟩
  have := hv.2 A B s₁ hr hb hw hg'
  rw [ho'] at this
  exact this) fun _ _ x => x)
theorem AM {b r : Addr} {vs : List Value} {x : Value} {Q : Value → St → Prop} (hb : Has ⟨l, m, f, q⟩ b (Bu r)) (hu : Upd m r (.list vs) (.list (vs ++ [x])) m') (hl : vs.length ≤ sizeLine) (h : Q .none ⟨l, m', f, q⟩) :
  V c L n (call (.ref b) [x]) Q ⟨l, m, f, q⟩ :=
 fun A B s hr hib ho hg => by
  refine Ae (fun G_ hG_ => ?_)
  obtain ⟨o, e1, rfl⟩ := ho.has hb
  obtain ⟨o, e2, k, rfl⟩ := ho.has (.inl hu.mem)
  refine hG_ ?_
  clear hG_ G_
  exact wpAny_call (KR e1 e2 (by simpa using hl) fun h' hp hs => ⟨hg, rfl, _, ho.setMut hu (At.ofPlain (by simpa using hp)) hs.extBut, h⟩)
end
noncomputable def NL (o : Obj) : Prop := ∃ ps, o = tabObj ps ∧ TriplesOk ps.toList
inductive PW (B : PM) (P L : Addr) (os : OsState) (Q : St → Prop) (s' : Shared) : Prop
 | mk (hg : AllBare s'.gens) (ho : s'.os = os) (σ' : St) (o : Obj) (hT : NL o) (hw : Own (B.add P o) L σ' s'.heap) (hq : Q σ')
inductive PWh (B : PM) (P L : Addr) (os : OsState) (Q : St → Prop) (s' : Shared) : Prop
 | mk (hg : AllBare s'.gens) (ht : 1 ≤ s'.toks) (ho : s'.os = os) (σ' : St) (o : Obj) (hT : NL o) (hw : Own (B.add P o) L σ' s'.heap) (hq : Q σ')
inductive PSW (h : Heap) (P : Addr) (os : OsState) (post : Led → Prop) (s' : Shared) : Prop
 | mk (hg : AllBare s'.gens) (ho : s'.os = os) (hx : Heap.ExtBut P h s'.heap) (hT : ∃ o', s'.heap.get? P = some o' ∧ NL o') (nz : Led) (hn : ∀ p ∈ nz, h.objs.size ≤ p.1 ∧ At s'.heap p.1 p.2) (hp : post nz)
noncomputable def W {α : Type} (c : Cx) (P L : Addr) (n : Nat) (t : Sem α) (Q : α → St → Prop) (σ : St) : Prop :=
 ∀ A B s o, Rm n A → InB c B → B.pm P = none → NL o → Own (B.add P o) L σ s.heap → AllBare s.gens → 1 ≤ s.toks →
  wpAny (model c.prog c.w) A t (fun v s' => PW B P L s.os (Q v) s') No s
section
variable {c : Cx} {P L : Addr} {n : Nat} {σ : St} {α β : Type} {e : Env} {l l' : Loc} {m m' f q : Led}
theorem W_pure {x : α} {Q : α → St → Prop} (h : Q x σ) : W c P L n (pure x) Q σ := fun A B s o hr hb hP hT ho hg _ => wpAny_pure ⟨hg, rfl, σ, o, hT, ho, h⟩
theorem Dt {t : Sem α} {Q : α → St → Prop} (h : V c L n t Q σ) : W c P L n t Q σ := fun A B s o hr hb hP hT ho hg _ =>
 wpAny_mono (h A (B.add P o) s hr (By hb hP) ho hg) (fun v s' ⟨h1, h2, σ', h3, h4⟩ => ⟨h1, h2, σ', o, hT, h3, h4⟩) fun _ _ x => x
theorem PD {t : Sem α} {Q Q' : α → St → Prop} (h : W c P L n t Q σ) (hq : ∀ v σ', Q v σ' → Q' v σ') : W c P L n t Q' σ :=
 fun A B s o hr hb hP hT ho hg ht => wpAny_mono (h A B s o hr hb hP hT ho hg ht) (fun _ _ ⟨a, b, σ', o', d, e, f⟩ => ⟨a, b, σ', o', d, e, hq _ _ f⟩) fun _ _ e => e
theorem W_bind {m : Sem α} {f : α → Sem β} {Q : β → St → Prop} (h : W c P L n m (fun a σ' => W c P L n (f a) Q σ') σ) : W c P L n (m >>= f) Q σ :=
 fun A B s o hr hb hP hT ho hg ht => wpAny_bind (wpAny_mono (wpAny_toks_of ht (h A B s o hr hb hP hT ho hg ht)) (fun a s' hp => by
  refine Ae (fun G_ hG_ => ?_)
  obtain ⟨ht', hg', hos, σ', o', hT', hw, hv⟩ := hp
  refine hG_ ?_
  clear hG_ G_
  have := hv A B s' o' hr hb hP hT' hw hg' ht'
  rwa [hos] at this) fun _ _ e => e.2)
theorem W_bindV {m : Sem α} {f : α → Sem β} {Q : β → St → Prop} (h : V c L n m (fun a σ' => W c P L n (f a) Q σ') σ) : W c P L n (m >>= f) Q σ := W_bind (Dt h)
theorem W_two {t : Sem β} {m : Sem α} {k : α → Sem β} {Q : β → St → Prop}
  (rule : ∀ A E s Q', wpAny (model c.prog c.w) A m (fun a s₁ => wpAny (model c.prog c.w) A (k a) Q' E s₁) E s → wpAny (model c.prog c.w) A t Q' E s)
  (h : W c P L n m (fun a σ' => W c P L n (k a) Q σ') σ) : W c P L n t Q σ :=
 fun A B s o hr hb hP hT ho hg ht => rule A No s _ (wpAny_mono (wpAny_toks_of ht (h A B s o hr hb hP hT ho hg ht)) (fun a s' hp => by
  refine Ae (fun G_ hG_ => ?_)
  obtain ⟨ht', hg', hos, σ', o', hT', hw, hv⟩ := hp
  refine hG_ ?_
  clear hG_ G_
  have := hv A B s' o' hr hb hP hT' hw hg' ht'
  rwa [hos] at this) fun _ _ e => e.2)
theorem W_one {t : Sem β} {m : Sem α} {f : α → β} {Q : β → St → Prop}
  (rule : ∀ A E s Q', wpAny (model c.prog c.w) A m (fun a s₁ => Q' (f a) s₁) E s → wpAny (model c.prog c.w) A t Q' E s)
  (h : W c P L n m (fun a σ' => Q (f a) σ') σ) : W c P L n t Q σ :=
 fun A B s o hr hb hP hT ho hg ht => rule A No s _ (h A B s o hr hb hP hT ho hg ht)
theorem Js {Q : Flow → St → Prop} (h : Q .next σ) : W c P L n (execs [] e) Q σ := W_pure h
theorem Du {st : Stmt} {rest : List Stmt} {Q : Flow → St → Prop}
  (h : W c P L n (exec st e) (fun f σ' => match f with | .next => W c P L n (execs rest e) Q σ' | f => Q f σ') σ) : W c P L n (execs (st :: rest) e) Q σ :=
 fun A B s o hr hb hP hT ho hg ht => wpAny_execs_cons (wpAny_mono (wpAny_toks_of ht (h A B s o hr hb hP hT ho hg ht)) (fun f s' hp => by
  refine Ae (fun G_ hG_ => ?_)
  obtain ⟨ht', hg', hos, σ', o', hT', hw, hv⟩ := hp
  refine hG_ ?_
  clear hG_ G_
  cases f with
  | next =>
   have := hv A B s' o' hr hb hP hT' hw hg' ht'
   rwa [hos] at this
  | _ => exact ⟨hg', hos, σ', o', hT', hw, hv⟩) fun _ _ e => e.2)
theorem AN {st : Stmt} {rest : List Stmt} {Q : Flow → St → Prop}
  (h : V c L n (exec st e) (fun f σ' => match f with | .next => W c P L n (execs rest e) Q σ' | f => Q f σ') σ) : W c P L n (execs (st :: rest) e) Q σ := Du (Dt h)
theorem C7 {x : PySem.Str} {p' : Pos} {value : Expr} {pos : Pos} {Q : Flow → St → Prop}
  (h : W c P L n (eval value e) (fun v σ' => V c L n (storeName e x v) (fun _ σ'' => Q .next σ'') σ') σ)
  (hs : swapsWith value (some (.Name x p')) pos.line e = pure false := by with_unfolding_all (intros; rfl)) : W c P L n (exec (.Assign [.Name x p'] value pos) e) Q σ :=
 fun A B s o hr hb hP hT ho hg ht => wpAny_Assign_Name (wpAny_mono (wpAny_toks_of ht (h A B s o hr hb hP hT ho hg ht)) (fun v s' hp => by
  refine Ae (fun G_ hG_ => ?_)
  obtain ⟨ht', hg', hos, σ', o', hT', hw, hv⟩ := hp
  refine hG_ ?_
  clear hG_ G_
  have := Dt hv A B s' o' hr hb hP hT' hw hg' ht'
  rwa [hos] at this) fun _ _ e => e.2) hs
theorem W_first {KL : List (PySem.Str × NameKind)} {CL : List (PySem.Str × Addr)} {x : PySem.Str} {p' : Pos} {value : Expr} {pos : Pos} {rest : List Stmt} {Q : Flow → St → Prop} (hk : Ag e L KL CL) (hx : (x, NameKind.local) ∈ KL)
  (h : V c L n (eval value e) (fun v σ' => ∃ l', Hl σ'.loc x v l' ∧ W c P L n (execs rest e) Q { σ' with loc := l' }) σ)
  (hs : swapsWith value (some (.Name x p')) pos.line e = pure false := by with_unfolding_all (intros; rfl))
  {A : Around} {B : PM} {s : Shared} {o : Obj} (hr : Rm n A) (hb : InB c B) (hP : B.pm P = none) (hT : NL o) (ho : Own (B.add P o) L σ s.heap) (hg : AllBare s.gens) :
  wpAny (model c.prog c.w) A (execs (.Assign [.Name x p'] value pos :: rest) e) (fun v s' => PW B P L s.os (Q v) s') No s :=
 wpAny_execs_cons (wpAny_Assign_Name (wpAny_mono (h A (B.add P o) s hr (By hb hP) ho hg) (fun v s' hp => by
  refine Ae (fun G_ hG_ => ?_)
  obtain ⟨hg', hos, σ', hw, l', hl, hv⟩ := hp
  refine hG_ ?_
  clear hG_ G_
  refine wpAny_storeName_local (hk.nm _ _ hx) (hk.loc ▸ hw.ns) (fun h' hn hs => ?_) (by rw [hk.kind]; rfl)
  have := hv A B { s' with heap := h', toks := s'.toks + 1 } o hr hb hP hT (hw.setLoc (hl.look hw.ln ▸ (hk.loc ▸ hn)) hl.names (hk.loc ▸ hs)) hg' (Nat.le_add_left _ _)
  exact wpAny_mono this (fun _ _ ⟨a, b, g1, g2, g3, g4, r⟩ => ⟨a, b.trans hos, g1, g2, g3, g4, r⟩) fun _ _ x => x) fun _ _ e => e) hs)
theorem Qi {test : Expr} {body orelse : List Stmt} {pos : Pos} {Q : Flow → St → Prop}
  (h : V c L n (isTrue test e (eval test e)) (fun b σ' => if b = true then W c P L n (execs body e) Q σ' else W c P L n (execs orelse e) Q σ') σ) : W c P L n (exec (.If test body orelse pos) e) Q σ :=
 fun A B s o hr hb hP hT ho hg ht => wpAny_If (wpAny_mono (wpAny_toks_of ht (h A (B.add P o) s hr (By hb hP) ho hg)) (fun b s' hp => by
  refine Ae (fun G_ hG_ => ?_)
  obtain ⟨ht', hg', hos, σ', hw, hv⟩ := hp
  refine hG_ ?_
  clear hG_ G_
  cases b with
  | true =>
   have := hv A B s' o hr hb hP hT hw hg' ht'
   rwa [hos] at this
  | false =>
   have := hv A B s' o hr hb hP hT hw hg' ht'
   rwa [hos] at this) fun _ _ e => e.2)
theorem W_while (I : Nat → St → Prop) {test : Expr} {body orelse : List Stmt} {pos : Pos} {Q : Flow → St → Prop} (k : Nat) (h0 : I k σ)
  (turn : ∀ k σ, I k σ → V c L n (isTrue test e (eval test e)) (fun b σ' => if b = true then
    W c P L n (execs body e) (fun f σ'' => match f with | .next | .cont => ∃ j, j < k ∧ I j σ'' | .brk => Q .next σ'' | .ret v => Q (.ret v) σ'') σ'
   else W c P L n (execs orelse e) Q σ') σ) : W c P L n (exec (.While test body orelse pos) e) Q σ :=
 fun A B s o hr hb hP hT ho hg ht => by
  refine wpAny_While (codeAny_whileLoop (fun k s' => PWh B P L s.os (I k) s') (fun k s' hI => ?_) k ⟨hg, ht, rfl, σ, o, hT, ho, h0⟩)
  refine Ae (fun G_ hG_ => ?_)
  obtain ⟨hg', ht', ho', σ', o', hT', hw, hI⟩ := hI
  refine hG_ ?_
  clear hG_ G_
  refine wpAny_mono (wpAny_toks_of ht' (turn k σ' hI A (B.add P o') s' hr (By hb hP) hw hg')) (fun b s₁ hp => ?_) fun _ _ e => e.2.elim
  refine Ae (fun G_ hG_ => ?_)
  obtain ⟨ht₁, hg₁, ho₁, σ₁, hw₁, hv₁⟩ := hp
  refine hG_ ?_
  clear hG_ G_
  cases b with
  | true =>
   rw [if_pos rfl] at hv₁ ⊢
   refine wpAny_mono (wpAny_toks_of ht₁ (hv₁ A B s₁ o' hr hb hP hT' hw₁ hg₁ ht₁)) (fun f s₂ hp => ?_) fun _ _ e => e.2.elim
   refine Ae (fun G_ hG_ => ?_)
   obtain ⟨ht₂, hg₂, ho₂, σ₂, o₂, hT₂, hw₂, hv₂⟩ := hp
   refine hG_ ?_
   clear hG_ G_
   have os : s₂.os = s.os := ho₂.trans (ho₁.trans ho')
   cases f with
   | next => obtain ⟨j, hj, hI⟩ := hv₂; exact ⟨j, hj, hg₂, ht₂, os, σ₂, o₂, hT₂, hw₂, hI⟩
   | cont => obtain ⟨j, hj, hI⟩ := hv₂; exact ⟨j, hj, hg₂, ht₂, os, σ₂, o₂, hT₂, hw₂, hI⟩
   | brk => exact ⟨hg₂, os, σ₂, o₂, hT₂, hw₂, hv₂⟩
   | ret v => exact ⟨hg₂, os, σ₂, o₂, hT₂, hw₂, hv₂⟩
  | false =>
   rw [if_neg Bool.false_ne_true] at hv₁ ⊢
   refine wpAny_mono (hv₁ A B s₁ o' hr hb hP hT' hw₁ hg₁ ht₁) (fun f s₂ hp => ?_) fun _ _ e => e.elim
   refine Ae (fun G_ hG_ => ?_)
   obtain ⟨hg₂, ho₂, σ₂, o₂, hT₂, hw₂, hv₂⟩ := hp
   refine hG_ ?_
   clear hG_ G_
   exact ⟨hg₂, ho₂.trans (ho₁.trans ho'), σ₂, o₂, hT₂, hw₂, hv₂⟩
noncomputable def HO (c : Cx) (P : Addr) (n : Nat) (fn : Value) (vs : List Value) (fz : Led) (post : Value → Led → Prop) : Prop :=
 ∀ A (s : Shared) o, Rm n A → (∀ a o, c.b.get? a = some o → s.heap.get? a = some o) → c.b.get? P = none → s.heap.get? P = some o → NL o → (∀ p ∈ fz, At s.heap p.1 p.2 ∧ p.1 ≠ P) → AllBare s.gens → 1 ≤ s.toks →
  wpAny (model c.prog c.w) A (call fn vs) (fun v s' => PSW s.heap P s.os (post v) s') No s
theorem W_own {fn : Value} {vs : List Value} {fz : Led} {post : Value → Led → Prop} {Q : Value → St → Prop} (hc : c.b.get? P = none) (hs : HO c P n fn vs fz post) (hf : ∀ p ∈ fz, Has ⟨l, m, f, q⟩ p.1 p.2)
  (h : ∀ v nz, post v nz → Q v ⟨l, m, nz ++ f, q⟩) : W c P L n (call fn vs) Q ⟨l, m, f, q⟩ :=
 fun A B s o hr hb hP hT ho hg ht => by
  refine Ae (fun G_ hG_ => ?_)
  obtain ⟨g1, g2, g3, g4, g5⟩ := ho.at_hid
  refine hG_ ?_
  clear hG_ G_
  refine wpAny_mono (hs A s o hr (fun a o q => ho.sub a o (By hb hP a o q)) hc g1 hT (fun p hp => ⟨ho.has (hf p hp), fun e => ?_⟩) hg ht) (fun v s' ⟨hg', hos, hx, ⟨o', ho', hT'⟩, nz, hn, hp⟩ => ?_) fun _ _ x => x
  ·rcases hf p hp with x | x | x
   ·exact g3 (e ▸ List.mem_map_of_mem (f := (·.1)) x)
   ·exact g4 (e ▸ List.mem_map_of_mem (f := (·.1)) x)
   ·exact g5 (e ▸ List.mem_map_of_mem (f := (·.1)) x)
  ·refine ⟨hg', hos, ⟨l, m, nz ++ f, q⟩, o', hT', ?_, h v nz hp⟩
   have h1 := ho.setHid hx ho'
   refine ⟨h1.sub, h1.ns, h1.ln, h1.LB, h1.mu, h1.nd, fun p hp => ?_, h1.od⟩
   rcases List.mem_append.mp hp with hp | hp
   ·refine Ae (fun G_ hG_ => ?_)
    obtain ⟨f1, f2, f3, f4, f5, f6⟩ := ho.fresh (hn p hp).1
    refine hG_ ?_
    clear hG_ G_
    exact ⟨(hn p hp).2, f2, f3, fun q => f6 q⟩
   ·exact h1.fz p hp
end
section
variable {c : Cx} {P L : Addr} {n : Nat} {σ : St} {α β : Type} {e : Env} {l l' : Loc} {m m' f q : Led}
theorem Jt {s1 s2 nm : PySem.Str} {a b : List Nat} {k1 k2 : Nat} {p1 p2 p3 p4 pos : Pos} {Q : Value → St → Prop} (h1 : s1 = S a) (h2 : s2 = S b) (hal : a.length ≤ sizeLine)
  (h : V c L n (eval (.Name nm p2) e) (fun v σ' => ∃ x t, v = .str (S x) t ∧ a.length + x.length + b.length ≤ sizeLine ∧ ∀ t', Q (.str (S (a ++ x ++ b)) t') σ') σ) :
  V c L n (eval (.JoinedStr [.Constant (.str s1) k1 p1, .FormattedValue (.Name nm p2) (-1) none p3, .Constant (.str s2) k2 p4] pos) e) Q σ := fun A B s hr hb ho hg => by
 refine JoinedStr_many (joinParts_cons (wpAny_Constant_str ?_))
 have e0 : PySem.Str.empty ++ s1 = S a := by rw [h1]; exact GT [] a
 have hfin := h A B { s with toks := s.toks + 1 } hr hb ho hg
 have key : wpAny (model c.prog c.w) A (joinParts (S a) (evalEach [.FormattedValue (.Name nm p2) (-1) none p3, .Constant (.str s2) k2 p4] e)) (Pr B L s.os Q) No { s with toks := s.toks + 1 } := by
  refine joinParts_cons (FormattedValue_plain (wpAny_mono hfin (fun v s' hp => ?_) fun _ _ x => x))
  refine Ae (fun G_ hG_ => ?_)
  obtain ⟨hg', hos, σ', hw, x, t, rfl, hl, hq⟩ := hp
  refine hG_ ?_
  clear hG_ G_
  refine formatField_str (fun t' tk => ?_) (by rw [Bv]; exact Nat.le_trans (Nat.le_trans (Nat.le_add_left _ _) (Nat.le_add_right _ _)) hl)
  refine ⟨by rw [GT, Bv, List.length_append]; exact Nat.le_trans (Nat.le_add_right _ _) hl, ?_⟩
  rw [GT]
  refine joinParts_cons (wpAny_Constant_str ?_)
  subst h2
  refine ⟨by rw [GT, Bv, List.length_append, List.length_append]; assumption, ?_⟩
  rw [GT]
  exact joinParts_nil ⟨hg', hos, σ', hw, hq _⟩ (by rw [Bv, List.length_append, List.length_append]; exact hl)
 show (PySem.Str.empty ++ s1).length ≤ sizeLine ∧ wpAny _ _ (joinParts (PySem.Str.empty ++ s1) _) _ _ _
 rw [e0]
 exact ⟨by rw [Bv]; exact hal, key⟩
end
noncomputable abbrev BA := Option (List Nat)
noncomputable def A5 : List BA → List (List Nat)
 | some x :: r => x :: A5 r
 | _ => []
noncomputable def Af : List BA → List BA
 | some _ :: r => Af r
 | l => l
theorem BH : ∀ l : List BA, (Af l).length ≤ l.length
 | some _ :: r => Nat.le_succ_of_le (BH r)
 | none :: r => Nat.le_refl _
 | [] => Nat.le_refl _
theorem Db : ∀ l : List BA, (A5 l).length + (Af l).length = l.length
 | some _ :: r => by have := Db r; simp only [A5, Af, List.length_cons]; lia
 | none :: r => by simp [A5, Af]
 | [] => rfl
theorem Co : ∀ (l : List BA) (x : List Nat), x ∈ A5 l → some x ∈ l
 | some y :: r, x, h => by
  rcases List.mem_cons.mp h with rfl | h
  ·exact List.mem_cons_self
  ·exact List.mem_cons_of_mem _ (Co r x h)
 | none :: r, x, h => nomatch h
 | [], x, h => nomatch h
theorem Ju : ∀ l : List BA, Af l = l.drop (A5 l).length
 | some _ :: r => by simp only [Af, A5, List.length_cons, List.drop_succ_cons]; exact Ju r
 | none :: r => rfl
 | [] => rfl
noncomputable def groups : Nat → List BA → List (List Nat)
 | fuel + 1, none :: r =>
  if r = [] then [[46, 42]]
  else if Af r = [] then [[46, 42], (A5 r).flatten]
  else ([40, 63, 62, 46, 42, 63] ++ (A5 r).flatten ++ [41]) :: groups fuel (Af r)
 | _, _ => []
noncomputable def EF (ps : List BA) : List Nat := [40, 63, 115, 58] ++ (A5 ps ++ groups ps.length (Af ps)).flatten ++ [41, 92, 90]
noncomputable def HP (ps : List BA) : Prop := ∀ i, ps[i]? = some none → ps[i + 1]? ≠ some none
theorem AO {α : Type} {ps : List α} {i : Nat} {p : α} (h : ps[i]? = some p) : ps.drop i = p :: ps.drop (i + 1) := by
 obtain ⟨hi, e⟩ := List.getElem?_eq_some_iff.mp h
 rw [List.drop_eq_getElem_cons hi, e]
theorem FL : ∀ (fuel fuel' : Nat) (l : List BA), l.length ≤ fuel → l.length ≤ fuel' → groups fuel l = groups fuel' l
 | 0, 0, _, _, _ => rfl
 | 0, _ + 1, [], _, _ => rfl
 | 0, _ + 1, _ :: _, h, _ => absurd h (by simp)
 | _ + 1, 0, [], _, _ => rfl
 | _ + 1, 0, _ :: _, _, h => absurd h (by simp)
 | _ + 1, _ + 1, [], _, _ => rfl
 | _ + 1, _ + 1, some _ :: _, _, _ => rfl
 | f + 1, f' + 1, none :: r, h, h' => by
  have h1 := BH r
  simp only [List.length_cons] at h h'
  simp only [groups]
  rw [FL f f' (Af r) (by exact Nat.le_trans h1 (Nat.le_of_succ_le_succ h)) (by lia)]
theorem HQ {B : Nat} : ∀ (xs : List (List Nat)), (∀ x ∈ xs, x.length ≤ B) → (xs.map List.length).sum ≤ xs.length * B
 | [], _ => Nat.zero_le _
 | x :: r, h => by
  have h1 := h x List.mem_cons_self
  have h2 := HQ r fun y hy => h y (List.mem_cons_of_mem _ hy)
  simp only [List.map_cons, List.sum_cons, List.length_cons, Nat.succ_mul]; lia
theorem EG {B : Nat} (xs : List (List Nat)) (h : ∀ x ∈ xs, x.length ≤ B) : xs.flatten.length ≤ xs.length * B := by
 rw [List.length_flatten]; exact HQ xs h
theorem EH : ∀ (l : List BA) (p : BA), p ∈ Af l → p ∈ l
 | some _ :: r, p, h => List.mem_cons_of_mem _ (EH r p h)
 | none :: r, p, h => h
 | [], p, h => h
theorem Dc : ∀ (l : List BA) (p : BA) (t : List BA), Af l = p :: t → p = none
 | some _ :: r, p, t, h => Dc r p t h
 | none :: r, p, t, h => by cases h; rfl
 | [], p, t, h => nomatch h
theorem GA : ∀ (fuel : Nat) (l : List BA), (groups fuel l).length ≤ 2 * l.length
 | 0, l => by simp [groups]
 | _ + 1, [] => by simp [groups]
 | _ + 1, some _ :: _ => by simp [groups]
 | f + 1, none :: r => by
  have h1 := BH r
  have h2 := GA f (Af r)
  simp only [groups]
  split
  ·simp; exact Nat.succ_pos _
  ·split
   ·simp; lia
   ·simp; lia
theorem GB : ∀ (fuel : Nat) (l : List BA), (∀ y, some y ∈ l → y.length ≤ 1000) → ∀ x ∈ groups fuel l, x.length ≤ l.length * 1000 + 7
 | 0, l, _, x, h => nomatch h
 | _ + 1, [], _, x, h => nomatch h
 | _ + 1, some _ :: _, _, x, h => nomatch h
 | f + 1, none :: r, hl, x, h => by
  have h1 := BH r
  have h3 := Db r
  have hr : ∀ y, some y ∈ r → y.length ≤ 1000 := fun y hy => hl y (List.mem_cons_of_mem _ hy)
  have hfl := EG (A5 r) fun y hy => hr y (Co r y hy)
  have h4 : (A5 r).length * 1000 ≤ r.length * 1000 := Nat.mul_le_mul_right _ (by exact Nat.le_trans (Nat.le_add_right _ _) (Nat.le_of_eq h3))
  simp only [groups] at h
  rw [List.length_cons]
  split at h
  ·rw [List.mem_singleton.mp h]; simp
  ·split at h
   ·rcases List.mem_cons.mp h with rfl | h
    ·simp
    ·rw [List.mem_singleton.mp h]; lia
   ·rcases List.mem_cons.mp h with rfl | h
    ·simp only [List.length_append, List.length_cons, List.length_nil]; lia
    ·have h5 := GB f (Af r) (fun y hy => hr y (EH r _ hy)) x h
     have : (Af r).length * 1000 ≤ r.length * 1000 := Nat.mul_le_mul_right _ h1
     lia
noncomputable def K7 (star : Addr) : BA → Value → Prop
 | none, v => v = .ref star
 | some x, v => ∃ t, v = .str (S x) t
theorem KS : (Al 7).names = [((ofString "inp"), .local), ((ofString "STAR"), .local), ((ofString "res"), .local), ((ofString "add"), .local), ((ofString "i"), .local), ((ofString "n"), .local), ((ofString "fixed"), .local), ((ofString "len"), .globalImplicit)] := by rfl
section
variable {c : Cx} {n : Nat}
theorem Ma (hc : c.Ok) {a : Addr} (F : D0 c a (ofString "_join_translated_parts") [(ofString "inp"), (ofString "STAR")] (Av 7) (Al 7)) (hlen : c.mg (ofString "len") = none) (hlen' : c.mb (ofString "len") = some (.builtin "len"))
  {star pa : Addr} {pv : List Value} {ps : List BA} {fs : Led} (hpa : (pa, D.list pv) ∈ fs) (hpv : AA (K7 star) ps pv) (hps : ps.length ≤ 20) (htx : ∀ x, some x ∈ ps → x.length ≤ 1000) (hno : HP ps) :
  Hp c 1 (.ref a) [.ref pa, .ref star] fs (fun v nz => ∃ t, v = .str (S (EF ps)) t ∧ nz = []) := by
 refine DT hc F KS rfl rfl rfl (by decide) (by decide) rfl (by decide) fun L e he0 _ => ?_
 have he : Ag e L [((ofString "inp"), .local), ((ofString "STAR"), .local), ((ofString "res"), .local), ((ofString "add"), .local), ((ofString "i"), .local), ((ofString "n"), .local), ((ofString "fixed"), .local), ((ofString "len"), .globalImplicit)] [] := he0
 clear he0
 have hvl := hpv.length
 have hp62 : pv.length < 2 ^ 62 := by exact Nat.lt_of_le_of_lt (Nat.le_trans (Nat.le_of_eq hvl.symm) hps) (by decide)
 show V c L 0 (execs (Av 7) e) _ ⟨[((ofString "inp"), some (.ref pa)), ((ofString "STAR"), some (.ref star)), ((ofString "res"), none), ((ofString "add"), none), ((ofString "i"), none), ((ofString "n"), none), ((ofString "fixed"), none)], [], [], fs⟩
 refine AB ?_
 with_reducible
  refine A3 ?_
  refine Bo ?_
  refine A2 ?_
  refine Ao (by with_unfolding_all exact Nat.le_of_ble_eq_true rfl) ?_; intro _
  refine A8 (by assumption) (by tb_rel) (by top_caught) ?_
  refine A7 ?_; intro K_ hK_
  refine A3 ?_
  refine PC ?_
  refine AJ (by assumption) (by tb_rel) (by tb_rel) ?_
  refine Di (by top_args) ?_; intro _
  refine A8 (by assumption) (by tb_rel) (by top_caught) ?_
  refine hK_ _ _ ?_; clear hK_ K_
  refine A7 ?_; intro K_ hK_
  refine BV ?_ (by with_unfolding_all first | rfl | exact sw2 (by assumption) (by tb_rel) (by tb_rel) rfl | exact sw3 (by assumption) (by tb_rel) (by tb_rel) (by tb_rel) rfl)
  refine Aw ?_
  refine A0 ?_
  refine AC ?_; intro _
  refine A0 ?_
  refine B1 (CI (by assumption) (by assumption) (by tb_rel) (by assumption) (by assumption) (Nv (by assumption) (by tb_rel) (by tb_rel)) (by top_args) (by assumption)) ?_; intro _
  refine A2 ?_
  refine A6 (by with_unfolding_all exact Nat.le_of_ble_eq_true rfl) ?_; intro _
  ((show ∃ _ _ _, _ = _ ∧ Has _ _ _ ∧ V _ _ _ _ _ _); refine ⟨_, _, _, rfl, (by top_args), ?_⟩)
  refine A8 (by assumption) (by tb_rel) (by top_caught) ?_
  refine A8 (by assumption) (by tb_rel) (by top_caught) ?_
  refine hK_ _ _ ?_; clear hK_ K_
  refine A7 ?_; intro K_ hK_
 refine An (Q := fun f σ' => f = Flow.next ∧ Ex7 fun (i : Nat) (vs : List Value) (u1 u2 : Tok) (r b : Addr) (ff : Led) => And6 (σ' = ⟨[((ofString "inp"), some (.ref pa)), ((ofString "STAR"), some (.ref star)), ((ofString "res"), some (.ref r)), ((ofString "add"), some (.ref b)), ((ofString "i"), some (.int (i : Nat) u1)), ((ofString "n"), some (.int (pv.length : Nat) u2)), ((ofString "fixed"), none)], [(r, .list vs)], ff, fs⟩) ((b, Bu r) ∈ ff) (Bk (A5 ps) vs) (ps.drop i = Af ps) (i ≤ ps.length) (vs.length ≤ 20)) ?_ ?_
 ·refine Cz (fun fuel σ => Ex8 fun (i : Nat) (acc : List (List Nat)) (vs : List Value) (u1 u2 : Tok) (r b : Addr) (ff : Led) => And8 (σ = ⟨[((ofString "inp"), some (.ref pa)), ((ofString "STAR"), some (.ref star)), ((ofString "res"), some (.ref r)), ((ofString "add"), some (.ref b)), ((ofString "i"), some (.int (i : Nat) u1)), ((ofString "n"), some (.int (pv.length : Nat) u2)), ((ofString "fixed"), none)], [(r, .list vs)], ff, fs⟩) ((b, Bu r) ∈ ff) (Bk acc vs) (acc ++ A5 (ps.drop i) = A5 ps) (Af (ps.drop i) = Af ps) (i ≤ ps.length) (acc.length ≤ i) (fuel + i = ps.length))
   ps.length ⟨0, [], _, _, _, _, _, _, rfl, by tb_rel, .nil, rfl, rfl, Nat.zero_le _, Nat.zero_le _, rfl⟩ (fun fuel σ hI K_ hK_ => ?_)
  refine Ae (fun G_ hG_ => ?_)
  obtain ⟨i, acc, vs, u1, u2, r, b, ff, rfl, hb, hacc, hfx, hrs, hi, hal, hfu⟩ := hI
  refine hG_ ?_
  clear hG_ G_
  have hvsl := hacc.length
  have hvs : vs.length ≤ sizeLine := by rw [sizeLine_eq]; exact Nat.le_of_lt (Nat.lt_of_le_of_lt (Nat.le_trans (Nat.le_trans (Nat.le_trans (Nat.le_of_eq hvsl.symm) hal) hi) hps) (by decide))
  with_reducible
   refine Ai ?_
   refine Aa ?_
   refine Ct (Aq (Ap (by assumption) (by tb_rel) (by tb_rel)) (Ap (by assumption) (by tb_rel) (by tb_rel)) Ee) ?_
  by_cases hlt : i < ps.length
  ·refine A9 (by simpa using (by clear hi hfu; exact Nat.lt_of_lt_of_le hlt (Nat.le_of_eq hvl) : i < pv.length)) ?_
   refine Cj (show ∃ p, ps[i]? = some p from ⟨ps[i], List.getElem?_eq_getElem hlt⟩) (fun p hp => ?_)
   obtain ⟨y, hy, hpy⟩ := hpv.get' hp
   have hi62 : i < 2 ^ 62 := by exact Nat.lt_of_le_of_lt (Nat.le_trans hi (Nat.le_of_eq hvl)) hp62
   cases p with
   | some x =>
    obtain ⟨t, rfl⟩ := hpy
    with_reducible
     refine Aa ?_
     refine A4 ?_
     refine DW (E_l (by assumption) (by tb_rel) (by tb_rel)) (E_l (by assumption) (by tb_rel) (by tb_rel)) ?_
     refine Ac (by top_args) (by assumption) (by lia) ?_
     refine AJ (by assumption) (by tb_rel) (by tb_rel) ?_
     refine D9 ?_
     refine A1 ?_
     refine A9 (by decide) ?_
     refine Bd ?_
     refine A9 (by decide) ?_
     refine A7 ?_; intro K_ hK_
     refine BF ?_ (by assumption)
     refine Cd ?_
     refine AJ (by assumption) (by tb_rel) (by tb_rel) ?_
     refine AL (by top_args) ?_
     refine A0 ?_
     refine DW (E_l (by assumption) (by tb_rel) (by tb_rel)) (E_l (by assumption) (by tb_rel) (by tb_rel)) ?_
     refine Ac (by top_args) (by assumption) (by lia) ?_
     refine A2 ?_
     ((show Has _ _ _ ∧ V _ _ _ _ _ _); refine And.intro (by top_args) ?_)
     refine AM (by top_args) (by top_caught) (by first | assumption | (simp only [List.length_append, List.length_cons, List.length_nil, sizeLine_eq]; lia)) ?_
     refine hK_ _ _ ?_; clear hK_ K_
     refine B7 ?_
     refine C9 ?_
     refine DI (by assumption) (by tb_rel) (by tb_rel) ?_
     refine AC ?_; intro _
     refine CO ?_; intro _
     refine A8 (by assumption) (by tb_rel) (by top_caught) ?_
     refine hK_ _ _ ?_; clear hK_ K_
    rw [AO hp] at hfx hrs
    exact ⟨fuel - 1, by clear hi hal; lia, i + 1, acc ++ [x], _, _, _, _, _, _, rfl, by tb_rel, hacc.append (.cons ⟨_, rfl⟩ .nil), by simpa [A5] using hfx, hrs, hlt, by simp; assumption, by clear hps hp62 hi; lia⟩
   | none =>
    cases hpy
    with_reducible
     refine Aa ?_
     refine A4 ?_
     refine DW (E_l (by assumption) (by tb_rel) (by tb_rel)) (E_l (by assumption) (by tb_rel) (by tb_rel)) ?_
     refine Ac (by top_args) (by assumption) (by lia) ?_
     refine AJ (by assumption) (by tb_rel) (by tb_rel) ?_
     refine Dr ?_
     refine A1 ?_
     refine Ad (by decide) ?_
     refine Ad (by decide) ?_
     refine Au ?_
    rw [AO hp] at hfx hrs
    refine ⟨rfl, i, vs, _, _, _, _, _, rfl, by tb_rel, ?_, ?_, hi, by exact Nat.le_trans (Nat.le_trans (Nat.le_trans (Nat.le_of_eq hvsl.symm) hal) hi) hps⟩
    ·rw [← hfx]; simpa [A5] using hacc
    ·rw [AO hp, ← hrs]; rfl
  ·refine Ad (by simpa using (by clear hi hfu; exact Nat.not_lt.mpr (Nat.le_trans (Nat.le_of_eq hvl.symm) (Nat.le_of_not_lt hlt)) : ¬ i < pv.length)) ?_
   with_reducible
    refine Ad (by decide) ?_
    refine Au ?_
   have he0 : ps.drop i = [] := List.drop_eq_nil_of_le (by clear hi hfu; exact Nat.le_of_not_lt hlt)
   rw [he0] at hfx hrs
   refine ⟨rfl, i, vs, _, _, _, _, _, rfl, by tb_rel, ?_, ?_, hi, by clear hlt; exact Nat.le_trans (Nat.le_trans (Nat.le_trans (Nat.le_of_eq hvsl.symm) hal) hi) hps⟩
   ·rw [← hfx]; simpa [A5] using hacc
   ·rw [he0, ← hrs]; rfl
 ·intro f σ' hσ
  refine Ae (fun G_ hG_ => ?_)
  obtain ⟨rfl, i, vs, u1, u2, r, b, ff, rfl, hb, hvs, hdr, hi, hv20⟩ := hσ
  refine hG_ ?_
  clear hG_ G_
  refine gen (A5 ps ++ groups ps.length (Af ps)) (fun TOT hTOT => ?_)
  with_reducible
   refine hK_ _ _ ?_; clear hK_ K_
   refine A7 ?_; intro K_ hK_
  refine An (Q := fun f σ' => f = Flow.next ∧ Ex7 fun (vs : List Value) (u1 u2 : Tok) (r b : Addr) (w : Option Value) (ff : Led) => σ' = ⟨[((ofString "inp"), some (.ref pa)), ((ofString "STAR"), some (.ref star)), ((ofString "res"), some (.ref r)), ((ofString "add"), some (.ref b)), ((ofString "i"), some (.int (ps.length : Nat) u1)), ((ofString "n"), some (.int (pv.length : Nat) u2)), ((ofString "fixed"), w)], [(r, .list vs)], ff, fs⟩ ∧
   Bk TOT vs) ?_ ?_
  ·refine Cz (fun fuel σ => Ex9 fun (i : Nat) (acc : List (List Nat)) (vs : List Value) (u1 u2 : Tok) (r b : Addr) (w : Option Value) (ff : Led) => And8 (σ = ⟨[((ofString "inp"), some (.ref pa)), ((ofString "STAR"), some (.ref star)), ((ofString "res"), some (.ref r)), ((ofString "add"), some (.ref b)), ((ofString "i"), some (.int (i : Nat) u1)), ((ofString "n"), some (.int (pv.length : Nat) u2)), ((ofString "fixed"), w)], [(r, .list vs)], ff, fs⟩) ((b, Bu r) ∈ ff) (Bk acc vs) (acc ++ groups ps.length (ps.drop i) = TOT) (i ≤ ps.length) ((∀ p t, ps.drop i = p :: t → p = none)) (acc.length ≤ 20 + 2 * i) (fuel + i = ps.length))
    (ps.length - i) ⟨i, A5 ps, _, _, _, _, _, _, _, rfl, by tb_rel, hvs, by rw [hdr, hTOT], hi, fun p t h => Dc ps p t (hdr ▸ h), by have := hvs.length; exact Nat.le_trans (Nat.le_trans (Nat.le_of_eq this) hv20) (Nat.le_add_right _ _), by lia⟩ (fun fuel σ hI K_ hK_ => ?_)
   clear hdr hv20 hvs hb hi
   refine Ae (fun G_ hG_ => ?_)
   obtain ⟨i, acc, vs, u1, u2, r, b, w, ff, rfl, hb, hacc, hgr, hi, hhd, hal, hfu⟩ := hI
   refine hG_ ?_
   clear hG_ G_
   have hvsl := hacc.length
   have hvs : vs.length ≤ sizeLine := by rw [sizeLine_eq]; lia
   have hvs1 : ∀ x : Value, (vs ++ [x]).length ≤ sizeLine := fun x => by rw [sizeLine_eq, List.length_append]; simp; lia
   with_reducible
    refine Ct (Aq (Ap (by assumption) (by tb_rel) (by tb_rel)) (Ap (by assumption) (by tb_rel) (by tb_rel)) Ee) ?_
   by_cases hlt : i < ps.length
   ·refine A9 (by simpa using (by exact Nat.lt_of_lt_of_le hlt (Nat.le_of_eq hvl) : i < pv.length)) ?_
    refine Cj (show ∃ p, ps[i]? = some p from ⟨ps[i], List.getElem?_eq_getElem hlt⟩) (fun p hp => ?_)
    have hp0 := hhd p _ (AO hp)
    subst hp0
    obtain ⟨y, hy, hpy⟩ := hpv.get' hp
    cases hpy
    have hi62 : i < 2 ^ 62 := by lia
    rw [AO hp] at hgr
    refine Cj (show ∃ k, ps.length = k + 1 from ⟨ps.length - 1, by lia⟩) (fun fu hfu2 => ?_)
    with_reducible
     refine A7 ?_; intro K_ hK_
     refine Fb ?_
     refine A4 ?_
     refine DW (E_l (by assumption) (by tb_rel) (by tb_rel)) (E_l (by assumption) (by tb_rel) (by tb_rel)) ?_
     refine Ac (by top_args) (by assumption) (by lia) ?_
     refine AJ (by assumption) (by tb_rel) (by tb_rel) ?_
     refine M1 ?_
     refine A1 ?_
    refine ⟨rfl, ?_⟩
    with_reducible
     refine hK_ _ _ ?_; clear hK_ K_
     refine A7 ?_; intro K_ hK_
     refine C9 ?_
     refine DI (by assumption) (by tb_rel) (by tb_rel) ?_
     refine AC ?_; intro _
     refine CO ?_; intro _
     refine A8 (by assumption) (by tb_rel) (by top_caught) ?_
     refine hK_ _ _ ?_; clear hK_ K_
     refine A7 ?_; intro K_ hK_
     refine Ci ?_; intro K_ hK_
     refine Ct (Aq (Ap (by assumption) (by tb_rel) (by tb_rel)) (Ap (by assumption) (by tb_rel) (by tb_rel)) Hy) ?_
     refine hK_ _ _ ?_; clear hK_ K_
    rw [show ((i : Int) + 1) = ((i + 1 : Nat) : Int) from rfl]
    by_cases hend : i + 1 = ps.length
    ·refine A9 (by rw [beq_iff_eq]; clear hps; lia) ?_
     with_reducible
      refine A7 ?_; intro K_ hK_
      refine BF ?_ (by assumption)
      refine Cd ?_
      refine AJ (by assumption) (by tb_rel) (by tb_rel) ?_
      refine AL (by top_args) ?_
      refine FE PR ?_; intro _
      ((show Has _ _ _ ∧ V _ _ _ _ _ _); refine And.intro (by top_args) ?_)
      refine AM (by top_args) (by top_caught) (by first | assumption | (simp only [List.length_append, List.length_cons, List.length_nil, sizeLine_eq]; lia)) ?_
      refine hK_ _ _ ?_; clear hK_ K_
      refine A7 ?_; intro K_ hK_
      refine LE ?_
      refine hK_ _ _ ?_; clear hK_ K_
      refine hK_ _ _ ?_; clear hK_ K_
      refine hK_ _ _ ?_; clear hK_ K_
     have hd1 : ps.drop (i + 1) = [] := List.drop_eq_nil_of_le (by exact Nat.le_of_eq hend.symm)
     rw [hd1, hfu2] at hgr
     subst hgr
     have e1 : ((i + 1 : Nat) : Int) = ((ps.length : Nat) : Int) := by lia
     rw [e1]
     exact ⟨rfl, _, _, _, _, _, _, _, rfl, hacc.append (.cons ⟨_, rfl⟩ .nil)⟩
    ·refine Ad (by rw [beq_iff_eq]; clear hps hlt; lia) ?_
     with_reducible
      refine Au ?_
      refine hK_ _ _ ?_; clear hK_ K_
      refine A7 ?_; intro K_ hK_
      refine Fb ?_
      refine A4 ?_
      refine DW (E_l (by assumption) (by tb_rel) (by tb_rel)) (E_l (by assumption) (by tb_rel) (by tb_rel)) ?_
     refine Cj (show ∃ p, ps[i + 1]? = some p from ⟨ps[i + 1], List.getElem?_eq_getElem (by omega)⟩) (fun p1 hp1 => ?_)
     obtain ⟨y1, hy1, hpy1⟩ := hpv.get' hp1
     have hi62' : i + 1 < 2 ^ 62 := by clear hp62 hlt hi62; lia
     cases p1 with
     | none => exact absurd hp1 (hno i hp)
     | some x1 =>
      obtain ⟨t1, rfl⟩ := hpy1
      with_reducible
       refine Ac (by top_args) (by assumption) (by exact hi62') ?_
       refine AJ (by assumption) (by tb_rel) (by tb_rel) ?_
       refine D9 ?_
       refine A1 ?_
      refine ⟨rfl, ?_⟩
      with_reducible
       refine hK_ _ _ ?_; clear hK_ K_
       refine A7 ?_; intro K_ hK_
       refine A3 ?_
       refine Bo ?_
       refine A2 ?_
       refine Ao (by with_unfolding_all exact Nat.le_of_ble_eq_true rfl) ?_; intro _
       refine A8 (by assumption) (by tb_rel) (by top_caught) ?_
       refine hK_ _ _ ?_; clear hK_ K_
       refine A7 ?_; intro K_ hK_
      refine An (Q := fun f σ' => f = Flow.next ∧ Ex8 fun (j : Nat) (fv : List Value) (u1 u2 : Tok) (r b fa : Addr) (ff : Led) => And7 (σ' = ⟨[((ofString "inp"), some (.ref pa)), ((ofString "STAR"), some (.ref star)), ((ofString "res"), some (.ref r)), ((ofString "add"), some (.ref b)), ((ofString "i"), some (.int (j : Nat) u1)), ((ofString "n"), some (.int (pv.length : Nat) u2)), ((ofString "fixed"), some (.ref fa))], [(fa, .list fv), (r, .list vs)], ff, fs⟩) ((b, Bu r) ∈ ff) (Bk (A5 (ps.drop (i + 1))) fv) (ps.drop j = Af (ps.drop (i + 1))) (i + 1 ≤ j) (j ≤ ps.length) (fv.length ≤ 20)) ?_ ?_
      ·refine Cz (fun fuel σ => Ex9 fun (j : Nat) (accF : List (List Nat)) (fv : List Value) (u1 u2 : Tok) (r b fa : Addr) (ff : Led) => And9 (σ = ⟨[((ofString "inp"), some (.ref pa)), ((ofString "STAR"), some (.ref star)), ((ofString "res"), some (.ref r)), ((ofString "add"), some (.ref b)), ((ofString "i"), some (.int (j : Nat) u1)), ((ofString "n"), some (.int (pv.length : Nat) u2)), ((ofString "fixed"), some (.ref fa))], [(fa, .list fv), (r, .list vs)], ff, fs⟩) ((b, Bu r) ∈ ff) (Bk accF fv) (accF ++ A5 (ps.drop j) = A5 (ps.drop (i + 1))) (Af (ps.drop j) = Af (ps.drop (i + 1))) (i + 1 ≤ j) (j ≤ ps.length) (accF.length ≤ j) (fuel + j = ps.length))
        (ps.length - (i + 1)) ⟨i + 1, [], [], _, _, _, _, _, _, rfl, by tb_rel, .nil, rfl, rfl, Nat.le_refl _, by assumption, Nat.zero_le _, by clear hi hfu; lia⟩ (fun fuel2 σ hI K_ hK_ => ?_)
       refine Ae (fun G_ hG_ => ?_)
       obtain ⟨j, accF, fv, u1, u2, r, b, fa, ff, rfl, hb, haccF, hfx, hrs, hij, hj, hjl, hfu3⟩ := hI
       refine hG_ ?_
       clear hG_ G_
       have hfvl := haccF.length
       have hfs : fv.length ≤ sizeLine := by rw [sizeLine_eq]; lia
       clear hy1 hy hp1 hp
       with_reducible
        refine Ai ?_
        refine Aa ?_
        refine Ct (Aq (Ap (by assumption) (by tb_rel) (by tb_rel)) (Ap (by assumption) (by tb_rel) (by tb_rel)) Ee) ?_
       by_cases hlt2 : j < ps.length
       ·refine A9 (by simpa using (by lia : j < pv.length)) ?_
        refine Cj (show ∃ p, ps[j]? = some p from ⟨ps[j], List.getElem?_eq_getElem hlt2⟩) (fun p hp => ?_)
        obtain ⟨y, hy, hpy⟩ := hpv.get' hp
        have hj62 : j < 2 ^ 62 := by lia
        rw [AO hp] at hfx hrs
        cases p with
        | some x =>
         obtain ⟨t, rfl⟩ := hpy
         with_reducible
          refine Aa ?_
          refine A4 ?_
          refine DW (E_l (by assumption) (by tb_rel) (by tb_rel)) (E_l (by assumption) (by tb_rel) (by tb_rel)) ?_
          refine Ac (by top_args) (by assumption) (by lia) ?_
          refine AJ (by assumption) (by tb_rel) (by tb_rel) ?_
          refine D9 ?_
          refine A1 ?_
          refine A9 (by decide) ?_
          refine Bd ?_
          refine A9 (by decide) ?_
          refine A7 ?_; intro K_ hK_
          refine BF ?_ (by assumption)
          refine Ba ?_
          refine AJ (by assumption) (by tb_rel) (by tb_rel) ?_
          refine Cy (Ty.list (by top_args)) ?_
          refine Ah ?_
          refine A0 ?_
          refine DW (E_l (by assumption) (by tb_rel) (by tb_rel)) (E_l (by assumption) (by tb_rel) (by tb_rel)) ?_
          refine Ac (by top_args) (by assumption) (by lia) ?_
          refine A2 ?_
         refine Cw (by top_caught) hfs ?_
         with_reducible
          refine hK_ _ _ ?_; clear hK_ K_
          refine B7 ?_
          refine C9 ?_
          refine DI (by assumption) (by tb_rel) (by tb_rel) ?_
          refine AC ?_; intro _
          refine CO ?_; intro _
          refine A8 (by assumption) (by tb_rel) (by top_caught) ?_
          refine hK_ _ _ ?_; clear hK_ K_
         exact ⟨fuel2 - 1, by lia, j + 1, accF ++ [x], _, _, _, _, _, _, _, rfl, by tb_rel, haccF.append (.cons ⟨_, rfl⟩ .nil), by simpa [A5] using hfx, hrs, by exact Nat.lt_of_lt_of_le hij (Nat.le_add_right _ _), hlt2, by simp; exact hjl, by lia⟩
        | none =>
         cases hpy
         with_reducible
          refine Aa ?_
          refine A4 ?_
          refine DW (E_l (by assumption) (by tb_rel) (by tb_rel)) (E_l (by assumption) (by tb_rel) (by tb_rel)) ?_
          refine Ac (by top_args) (by assumption) (by lia) ?_
          refine AJ (by assumption) (by tb_rel) (by tb_rel) ?_
          refine Dr ?_
          refine A1 ?_
          refine Ad (by decide) ?_
          refine Ad (by decide) ?_
          refine Au ?_
         refine ⟨rfl, j, fv, _, _, _, _, _, _, rfl, by tb_rel, ?_, ?_, hij, hj, by lia⟩
         ·rw [← hfx]; simpa [A5] using haccF
         ·rw [AO hp, ← hrs]; rfl
       ·refine Ad (by simpa using (by exact Nat.not_lt.mpr (Nat.le_trans (Nat.le_of_eq hvl.symm) (Nat.le_of_not_lt hlt2)) : ¬ j < pv.length)) ?_
        with_reducible
         refine Ad (by decide) ?_
         refine Au ?_
        have he0 : ps.drop j = [] := List.drop_eq_nil_of_le (by exact Nat.le_of_not_lt hlt2)
        rw [he0] at hfx hrs
        refine ⟨rfl, j, fv, _, _, _, _, _, _, rfl, by tb_rel, ?_, ?_, hij, hj, by exact Nat.le_trans (Nat.le_trans (Nat.le_trans (Nat.le_of_eq hfvl.symm) hjl) hj) hps⟩
        ·rw [← hfx]; simpa [A5] using haccF
        ·rw [he0, ← hrs]; rfl
      ·intro f σ' hσ
       refine Ae (fun G_ hG_ => ?_)
       obtain ⟨rfl, j, fv, u1, u2, r, b, fa, ff, rfl, hb, hfv, hdj, hij, hj, hfv20⟩ := hσ
       refine hG_ ?_
       clear hG_ G_
       refine hK_ _ _ ?_
       clear hK_ K_
       refine Am fa (by top_caught) ?_
       with_reducible
        refine A7 ?_; intro K_ hK_
        refine A3 ?_
        refine Ba ?_
        refine AP D3 ?_; intro _
        refine K5 Ty.str ?_
        refine Ah ?_
        refine DV (E_l (by assumption) (by tb_rel) (by tb_rel)) ?_
       refine gen (ps.drop (i + 1)) (fun R1 hR1 => ?_)
       rw [← hR1] at hfv hdj hgr
       have hR1m : ∀ y, some y ∈ R1 → y.length ≤ 1000 := fun y hy => htx y (List.mem_of_mem_drop (hR1 ▸ hy))
       have hfxl := Db R1
       have hR1l : R1.length ≤ 20 := by rw [hR1, List.length_drop]; clear hvl hp62 hal hfu hvsl hvs hlt hi62 hfu2 hi62' hj hfxl; exact Nat.le_trans (Nat.sub_le _ _) hps
       have hR1n : R1 ≠ [] := by rw [hR1]; intro q; have := congrArg List.length q; rw [List.length_drop] at this; simp at this; clear hi hfu; lia
       have hsum := HQ (A5 R1) fun y hy => hR1m y (Co R1 y hy)
       have hfla := EG (A5 R1) fun y hy => hR1m y (Co R1 y hy)
       refine K4 (by top_args) hfv (by simp only [List.length_nil, Nat.mul_zero, Nat.add_zero]; lia) (fun t5 => ?_)
       rw [Dp]
       with_reducible
        refine A8 (by assumption) (by tb_rel) (by top_caught) ?_
        refine hK_ _ _ ?_; clear hK_ K_
        refine A7 ?_; intro K_ hK_
        refine Ci ?_; intro K_ hK_
        refine Ct (Aq (Ap (by assumption) (by tb_rel) (by tb_rel)) (Ap (by assumption) (by tb_rel) (by tb_rel)) Hy) ?_
        refine hK_ _ _ ?_; clear hK_ K_
       rw [hfu2, groups, if_neg hR1n] at hgr
       by_cases hend2 : j = ps.length
       ·refine A9 (by rw [beq_iff_eq]; clear hps; lia) ?_
        have hrest : Af R1 = [] := by rw [← hdj, List.drop_eq_nil_of_le (by exact Nat.le_of_eq hend2.symm)]
        rw [if_pos hrest] at hgr
        with_reducible
         refine A7 ?_; intro K_ hK_
         refine BF ?_ (by assumption)
         refine Cd ?_
         refine AJ (by assumption) (by tb_rel) (by tb_rel) ?_
         refine AL (by top_args) ?_
         refine FE PR ?_; intro _
         ((show Has _ _ _ ∧ V _ _ _ _ _ _); refine And.intro (by top_args) ?_)
         refine AM (by top_args) (by top_caught) (by first | assumption | (simp only [List.length_append, List.length_cons, List.length_nil, sizeLine_eq]; lia)) ?_
         refine hK_ _ _ ?_; clear hK_ K_
         refine B7 ?_
         refine BF ?_ (by assumption)
         refine Cd ?_
         refine AJ (by assumption) (by tb_rel) (by tb_rel) ?_
         refine AL (by top_args) ?_
         refine DV (E_l (by assumption) (by tb_rel) (by tb_rel)) ?_
         ((show Has _ _ _ ∧ V _ _ _ _ _ _); refine And.intro (by top_args) ?_)
         refine AM (by top_args) (by top_caught) (by first | assumption | (simp only [List.length_append, List.length_cons, List.length_nil, sizeLine_eq]; clear hend; lia)) ?_
         refine hK_ _ _ ?_; clear hK_ K_
         refine Au ?_
         refine hK_ _ _ ?_; clear hK_ K_
        have hdn : ps.drop j = [] := List.drop_eq_nil_of_le (by lia)
        refine ⟨ps.length - j, by clear hend; lia, j, _, _, _, _, _, _, _, _, rfl, by tb_rel, (hacc.append (.cons ⟨_, rfl⟩ .nil)).append (.cons ⟨_, rfl⟩ .nil), ?_, hj, ?_, ?_, by lia⟩
        ·rw [hdn]
         have : groups ps.length [] = [] := by cases ps.length <;> rfl
         rw [this, List.append_nil, ← hgr, List.append_assoc]; rfl
        ·intro p t h; rw [hdn] at h; cases h
        ·simp only [List.length_append, List.length_cons, List.length_nil]; clear hi hend; lia
       ·refine Ad (by rw [beq_iff_eq]; clear hps hj; lia) ?_
        have hrest : Af R1 ≠ [] := by rw [← hdj]; intro q; have := congrArg List.length q; rw [List.length_drop] at this; simp at this; lia
        rw [if_neg hrest] at hgr
        with_reducible
         refine B7 ?_
         refine BF ?_ (by assumption)
         refine Cd ?_
         refine AJ (by assumption) (by tb_rel) (by tb_rel) ?_
         refine AL (by top_args) ?_
         refine A0 ?_
         refine Jt (by first | exact Nj | exact PS | exact PQ) (by first | exact Nk | exact Nl | exact Nh) (by rw [sizeLine_eq]; decide) ?_
         refine AJ (by assumption) (by tb_rel) (by tb_rel) ?_
        refine ⟨_, _, rfl, by simp only [List.length_cons, List.length_nil, sizeLine_eq]; lia, fun t' => ?_⟩
        with_reducible
         refine A2 ?_
         ((show Has _ _ _ ∧ V _ _ _ _ _ _); refine And.intro (by top_args) ?_)
         refine AM (by top_args) (by top_caught) (by first | assumption | (simp only [List.length_append, List.length_cons, List.length_nil, sizeLine_eq]; lia)) ?_
         refine hK_ _ _ ?_; clear hK_ K_
         refine Au ?_
         refine hK_ _ _ ?_; clear hK_ K_
        refine ⟨ps.length - j, by clear hi hend; lia, j, _, _, _, _, _, _, _, _, rfl, by tb_rel, hacc.append (.cons ⟨_, rfl⟩ .nil), ?_, hj, ?_, ?_, by clear hend2; lia⟩
        ·rw [hdj, ← hgr, List.append_assoc]
         have h1 := BH R1
         have h2 : R1.length ≤ fu := by rw [hR1, List.length_drop]; clear hvl hp62 hal hfu hvsl hvs hi62 hi62' hfxl hsum hfla; omega
         rw [FL ps.length fu (Af R1) (by exact Nat.le_trans (Nat.le_trans (Nat.le_trans h1 h2) (Nat.le_add_right _ _)) (Nat.le_of_eq hfu2.symm)) (by exact Nat.le_trans (by assumption) (by assumption))]; rfl
        ·intro p t h; rw [hdj] at h; exact Dc R1 p t h
        ·simp only [List.length_append, List.length_cons, List.length_nil]; lia
   ·refine Ad (by simpa using (by lia : ¬ i < pv.length)) ?_
    with_reducible
     refine Au ?_
    have he0 : ps.drop i = [] := List.drop_eq_nil_of_le (by lia)
    have hil : i = ps.length := by exact Nat.le_antisymm hi (Nat.le_of_not_lt hlt)
    subst hil
    rw [he0] at hgr
    have : groups ps.length [] = [] := by cases ps.length <;> rfl
    rw [this, List.append_nil] at hgr
    exact ⟨rfl, vs, _, _, _, _, _, _, rfl, hgr ▸ hacc⟩
  ·intro f σ' hσ
   refine Ae (fun G_ hG_ => ?_)
   obtain ⟨rfl, vs, u1, u2, r, b, w, ff, rfl, hvs⟩ := hσ
   refine hG_ ?_
   clear hG_ G_
   with_reducible
    refine hK_ _ _ ?_; clear hK_ K_
    refine A7 ?_; intro K_ hK_
    refine Fb ?_
    refine Ct (Aq (Ap (by assumption) (by tb_rel) (by tb_rel)) (Ap (by assumption) (by tb_rel) (by tb_rel)) Hy) ?_
   refine ⟨by rw [beq_iff_eq]; lia, ?_⟩
   with_reducible
    refine hK_ _ _ ?_; clear hK_ K_
    refine A7 ?_; intro K_ hK_
    refine A3 ?_
    refine Ba ?_
    refine AP D3 ?_; intro _
    refine K5 Ty.str ?_
    refine Ah ?_
    refine DV (E_l (by assumption) (by tb_rel) (by tb_rel)) ?_
   have hTm : ∀ x ∈ TOT, x.length ≤ 20007 := fun x hx => by
    rw [hTOT] at hx
    rcases List.mem_append.mp hx with hx | hx
    ·have := htx x (Co ps x hx); exact Nat.le_trans (by assumption) (by decide)
    ·have h1 := GB ps.length (Af ps) (fun y hy => htx y (EH ps _ hy)) x hx
     have h2 := BH ps
     have : (Af ps).length * 1000 ≤ 20 * 1000 := Nat.mul_le_mul_right _ (by exact Nat.le_trans (by assumption) (by assumption))
     lia
   have hTl : TOT.length ≤ 60 := by
    have h1 := Db ps
    have h2 := GA ps.length (Af ps)
    rw [hTOT, List.length_append]; lia
   have hsum := HQ TOT hTm
   have hfla := EG TOT hTm
   have : TOT.length * 20007 ≤ 60 * 20007 := Nat.mul_le_mul_right _ hTl
   refine K4 (by top_args) hvs (by simp only [List.length_nil, Nat.mul_zero, Nat.add_zero]; exact Nat.le_of_lt (Nat.lt_of_le_of_lt (Nat.le_trans hsum this) (by decide))) (fun t5 => ?_)
   rw [Dp]
   with_reducible
    refine A8 (by assumption) (by tb_rel) (by top_caught) ?_
    refine hK_ _ _ ?_; clear hK_ K_
    refine A7 ?_; intro K_ hK_
    refine BC ?_
    refine Jt (by first | exact Nj | exact PS | exact PQ) (by first | exact Nk | exact Nl | exact Nh) (by rw [sizeLine_eq]; decide) ?_
    refine AJ (by assumption) (by tb_rel) (by tb_rel) ?_
   refine ⟨_, _, rfl, by simp only [List.length_cons, List.length_nil, sizeLine_eq]; lia, fun t' => ?_⟩
   refine hK_ _ _ ?_
   exact ⟨_, _, rfl, ⟨_, by rw [hTOT, EF], rfl⟩, fun p hp => nomatch hp⟩
end
open PySem.Builtin PySem.Builtin.Re
noncomputable def Eh : List Nat := [14, 14, 4, 1, 1, 9, 0, 64, 0, 1342177280, 0, 0, 0, 0, 0, 17, 0, 13, 11, 9, 0, 64, 0, 1342177280, 0, 0, 0, 0, 0, 17, 1, 1]
noncomputable def N5 (ch : Nat) : Prop := ch ∈ [33, 42, 45, 63, 91, 92, 93, 94, 97, 98]
theorem KT {ch : Nat} (h : N5 ch) (seen : Sre.Seen) : ∃ seen', Sre.inSet Eh.toArray ch Eh.toArray.size 5 true seen = .ok (false, seen') := by
 simp only [N5, List.mem_cons, List.not_mem_nil, or_false] at h
 rcases h with rfl | rfl | rfl | rfl | rfl | rfl | rfl | rfl | rfl | rfl <;> exact ⟨_, rfl⟩
theorem Ei {x : List Nat} (hx : ∀ ch ∈ x, N5 ch) (m : Sre.M) (hc : m.code = Eh.toArray) (ht : m.text = x.toArray) (hl : m.lim = x.length) :
  ∀ (fuel s : Nat) (seen : Sre.Seen), ∃ seen', Sre.M.admitted m fuel s seen = .ok (none, seen')
 | 0, s, seen => ⟨_, rfl⟩
 | fuel + 1, s, seen => by
  unfold Sre.M.admitted
  by_cases h : s ≥ m.lim
  ·rw [if_pos h]; exact ⟨_, rfl⟩
  ·rw [if_neg h, hc, ht]
   have hs : s < x.length := by exact Nat.lt_of_lt_of_le (Nat.lt_of_not_le h) (Nat.le_of_eq hl)
   have e : x.toArray.getD s 0 = x[s] := by simp [Array.getD, hs]
   obtain ⟨seen', h'⟩ := KT (hx _ (List.getElem_mem hs)) seen
   rw [e, h']
   exact Ei hx m hc ht hl fuel (s + 1) seen'
theorem FM {x : List Nat} (hx : ∀ ch ∈ x, N5 ch) {m : Sre.M} {fuel s : Nat} {seen : Sre.Seen} {r : Except String (Option Nat × Sre.Seen)} (q : Sre.M.admitted m fuel s seen = r) (hc : m.code = Eh.toArray) (ht : m.text = x.toArray) (hl : m.lim = x.length) :
  ∃ seen', r = .ok (none, seen') := by
 obtain ⟨seen', h⟩ := Ei hx m hc ht hl fuel s seen
 exact ⟨seen', q ▸ h⟩
theorem KU (m : Sre.M) (h1 : m.answer = some false) (h2 : m.frames = []) (h3 : m.outcome = none) : (m.runFor 4).outcome = some .failed := by
 have e1 : m.step = { m with outcome := some .failed } := by
  unfold Sre.M.step
  rw [h3, h1, h2]
  rfl
 have e0 : m.runFor 4 = { m with outcome := some .failed } := by
  have : m.runFor 4 = Sre.M.runFor 3 m.step := by
   show (if m.outcome.isSome = true then m else Sre.M.runFor 3 m.step) = _
   rw [h3]; rfl
  rw [this, e1]; rfl
 rw [e0]
theorem Jv {x : List Nat} (hx : ∀ ch ∈ x, N5 ch) : ∃ m, Sre.forSearch Eh.toArray x.toArray 1 0 x.length false = m ∧ m.answer = some false ∧ m.frames = [] ∧ m.outcome = none := by
 refine ⟨_, rfl, ?_⟩
 unfold Sre.forSearch
 by_cases h0 : x.length = 0
 ·have : (decide (0 > x.length) || decide (x.length - 0 < (Sre.header Eh.toArray).1)) = true := by rw [h0]; decide
  simp only []
  rw [if_pos this]
  exact ⟨rfl, rfl, rfl⟩
 ·have : ¬ (decide (0 > x.length) || decide (x.length - 0 < (Sre.header Eh.toArray).1)) = true := by
   have e : (Sre.header Eh.toArray).1 = 1 := by decide
   rw [e, Bool.or_eq_true, decide_eq_true_eq, decide_eq_true_eq]; lia
  simp only []
  rw [if_neg this]
  unfold Sre.M.attemptFrom
  have hf : ∀ m : Sre.M, m.code = Eh.toArray → m.hasFirstSet = true := fun m h => by unfold Sre.M.hasFirstSet; rw [h]; decide
  rw [hf _ rfl]
  simp only [Bool.not_true, Bool.false_eq_true, if_false]
  split
  ·rename_i s seen q
   obtain ⟨_, h'⟩ := FM hx q rfl rfl rfl
   cases h'
  ·exact ⟨rfl, rfl, rfl⟩
  ·rename_i why q
   obtain ⟨_, h'⟩ := FM hx q rfl rfl rfl
   cases h'
section
variable {M : Model} {A : Around} {E : Value → Shared → Prop} {s : Shared}
theorem HR (m : Sre.M) (n : Nat) {Q : Sre.M → Shared → Prop} (h1 : m.answer = some false) (h2 : m.frames = []) (h3 : m.outcome = none) (h : ∀ m', m'.outcome = some .failed → Q m' s) : wpAny M A (reDrive (n + 1) m) Q E s := by
 unfold reDrive
 have e := KU m h1 h2 h3
 show wpAny M A (if (m.runFor 4).outcome.isSome = true then pure (m.runFor 4) else _) Q E s
 rw [e]
 exact wpAny_pure (h _ e)
theorem EI (b : Nat → Bool) (nm : Nat → String) : ∀ (l : List Nat) {Q : PUnit → Shared → Prop}, Q ⟨⟩ s → wpAny M A (forIn l PUnit.unit fun i _ => (do if b i = true then (do rule (nm i); pure (ForInStep.yield PUnit.unit)) else pure (ForInStep.yield PUnit.unit) : Sem _)) Q E s
 | [], Q, h => by rw [List.forIn_nil]; exact wpAny_pure h
 | i :: r, Q, h => by
  rw [List.forIn_cons]
  refine wpAny_bind ?_
  cases b i with
  | true =>
   rw [if_pos rfl]
   exact wpAny_bind (wpAny_rule (wpAny_pure (EI b nm r h)))
  | false =>
   rw [if_neg Bool.false_ne_true]
   exact wpAny_pure (EI b nm r h)
theorem FN (m : Sre.M) {Q : Option Sre.M → Shared → Prop} (h1 : m.answer = some false) (h2 : m.frames = []) (h3 : m.outcome = none) (h : Q none s) : wpAny M A (reRunToEnd m) Q E s := by
 unfold reRunToEnd
 have e : (2 : Nat) ^ 64 = (2 ^ 64 - 1) + 1 := by decide
 rw [e]
 refine wpAny_bind (HR m _ h1 h2 h3 fun m' hm' => ?_)
 refine wpAny_bind (m := forIn _ _ _) ?_
 refine wpAny_mono (EI (fun i => m'.seen.has i) (fun i => Sre.names.getD i "") _ (Q := fun _ s' => s' = s) rfl) (fun _ s' hs => ?_) fun _ _ x => x
 subst hs
 rw [hm']
 exact wpAny_pure h
end
open PySem.Builtin PySem.Builtin.Re
inductive F5 (h : Heap) (ra : Addr) : Prop
 | mk (o : Obj) (wa : Addr) (ow : Obj) (k : Nat) (pt fl : Value) (h1 : h.get? ra = some o) (h2 : o.cls = .type "re.Pattern") (h3 : o.dict = none) (h4 : o.data = .fields #[pt, fl, rawInt 1, .none, .none, .ref wa, rawInt 0])
  (h5 : h.get? wa = some ow) (h6 : ow.data = .seq (Eh.map fun n => rawInt (n : Nat)).toArray k)
theorem F5.keeps {h h' : Heap} {ra : Addr} (x : F5 h ra) (k : ∀ b o, h.get? b = some o → h'.get? b = some o) : F5 h' ra :=
 by cases x with | mk o wa ow kk pt fl h1 h2 h3 h4 h5 h6 => exact .mk o wa ow kk pt fl (k _ _ h1) h2 h3 h4 (k _ _ h5) h6
section
variable {M : Model} {A : Around} {E : Value → Shared → Prop} {s : Shared}
theorem KW {x : PySem.Str} {t : Tok} {Q : (Array Nat × Nat) → Shared → Prop} (h : Q (x.cps, 0) s) : wpAny M A (reTextOf (.str x t)) Q E s := by
 unfold reTextOf
 refine wpAny_bind (wpAny_of_eq (a := some x) (by first | rfl | kernel_rfl) ?_)
 exact wpAny_pure h
theorem FO {ra : Addr} {x : List Nat} {t : Tok} {Q : ReTarget → Shared → Prop} (hp : F5 s.heap ra)
  (h : Q { pattern := .ref ra, string := .str (S x) t, code := Eh.toArray, text := x.toArray, kind := 0, groups := 1, pos := 0, lim := x.length } s) : wpAny M A (reWholeTarget (.ref ra) (.str (S x) t)) Q E s := by
 refine Ae (fun G_ hG_ => ?_)
 obtain ⟨o, wa, ow, k, pt, fl, h1, h2, h3, h4, h5, h6⟩ := hp
 refine hG_ ?_
 clear hG_ G_
 unfold reWholeTarget
 refine wpAny_bind (wpAny_fieldsOf h1 h4 ?_)
 refine wpAny_bind (KW ?_)
 have e1 : (reRawNat ((#[pt, fl, rawInt 1, .none, .none, .ref wa, rawInt 0] : Array Value).getD 6 .none)) = 0 := rfl
 have e2 : ((#[pt, fl, rawInt 1, .none, .none, .ref wa, rawInt 0] : Array Value).getD 5 .none) = .ref wa := rfl
 have e3 : (reRawNat ((#[pt, fl, rawInt 1, .none, .none, .ref wa, rawInt 0] : Array Value).getD 2 .none)) = 1 := rfl
 simp only [e1, e2, e3]
 refine wpAny_bind (m := (reNoCollectionInside (.str (S x) t) 0)) ?_
 unfold reNoCollectionInside
 rw [if_neg (by decide)]
 refine wpAny_pure (wpAny_bind ?_)
 unfold reRawItems
 refine wpAny_bind (wpAny_seqItems h5 h6 ?_)
 refine wpAny_pure (wpAny_pure ?_)
 have e4 : (((some (Eh.map fun n => rawInt (n : Nat)).toArray).getD #[]).map reRawOf).map (·.toNat) = Eh.toArray := by decide +kernel
 rw [e4]
 have e5 : (S x).cps.size = x.length := by simp [S]
 rw [e5]
 exact h
end
open PySem.Builtin PySem.Builtin.Re
theorem Ej : PlainAttrs "re.Pattern" :=
 ⟨⟨"object.__getattribute__", by rw [typeLookup_type, builtinLookup_eq_fast]; kernel_rfl, by decide +kernel⟩, by rw [typeLookup_type, builtinLookup_eq_fast]; kernel_rfl⟩
theorem C1 : Slot "re.Pattern" "sub" "re.Pattern.sub" :=
 .of (owner := "re.Pattern") (n := "sub") (by rw [typeLookup_type, builtinLookup_eq_fast]; kernel_rfl) (by decide +kernel) (by decide +kernel) (by decide +kernel)
  (by first | exact .inl (by decide +kernel) | exact .inr (by decide +kernel)) (by rw [isSubtype_type]; kernel_rfl)
theorem F6 : typeOf (.builtin "re.Pattern.sub") = pure (.type "method_descriptor") := by show builtinType _ = _; rw [builtinType_eq_fast]; kernel_rfl
theorem EJ : entryFor table "re.Pattern.sub" = some Builtin.«re.Pattern.sub» := entryFor_of_tree (by kernel_rfl)
theorem Ek : entryFor table "re.Pattern.sub.loop" = some Builtin.«re.Pattern.sub.loop» := entryFor_of_tree (by kernel_rfl)
theorem F7 (a b c : Value) : argsOk "re.Pattern.sub" ⟨[a, b, c], []⟩ := by unfold argsOk; kernel_rfl
theorem fn_call : typeLookup (.type "function") "__call__" = pure (some (.builtin "function.__call__")) := by rw [typeLookup_type, builtinLookup_eq_fast]; kernel_rfl
section
variable {prog : Program} {w : World} {A : Around} {E : Value → Shared → Prop} {s : Shared}
theorem Jw {x : PySem.Str} {t : Tok} {id : String} {Q : Unit → Shared → Prop} (h : Q () s) : wpAny (model prog w) A (reNotHeld id (.str x t)) Q E s := by
 unfold reNotHeld
 refine wpAny_bind (wpAny_isInstance (T := "str") (b := false) (typeIs_str _ _ _) (by rw [isSubtype_type]; kernel_rfl) ?_)
 first | exact wpAny_pure h | exact wpAny_bind (wpAny_pure (wpAny_pure h)) | exact wpAny_bind (wpAny_pure h)
theorem subLoop {R : Result → Shared → Prop} {ra f pa : Addr} {x : List Nat} {t : Tok} (hx : ∀ ch ∈ x, N5 ch) (hp : F5 s.heap ra) (hl : s.heap.get? pa = some { cls := .type "list", data := .seq #[] 0 }) (hxl : x.length ≤ 1048576)
  (h : ∀ h' t' k, Heap.SameBut pa s.heap h' → R (.ok (.ret (.str (S x) t'))) { s with heap := h', toks := k }) :
  codeAny (model prog w) A (.builtin "re.Pattern.sub.loop" ⟨[.ref ra, .str (S x) t, .ref f, rawInt 1, rawInt 0, rawInt 0, rawInt 0, rawInt 0, .bool false, .ref pa, .bool false], []⟩) R s := by
 refine codeAny_builtin Ek ?_
 unfold Builtin.«re.Pattern.sub.loop»
 show wpAny _ _ (reWholeTarget (.ref ra) (.str (S x) t) >>= _) _ _ s
 refine wpAny_bind (FO hp ?_)
 refine Ae (fun G_ hG_ => ?_)
 obtain ⟨m, hm, h1, h2, h3⟩ := Jv hx
 refine hG_ ?_
 clear hG_ G_
 refine wpAny_bind (m := reNextFound _ _ _) ?_
 unfold reNextFound
 show wpAny _ _ (reRunToEnd (Sre.forSearch Eh.toArray x.toArray 1 0 x.length false)) _ _ s
 rw [hm]
 refine FN m h1 h2 h3 ?_
 dsimp only
 by_cases h0 : Int.toNat 0 < x.length
 ·rw [if_pos h0]
  refine wpAny_bind (m := reSlice x.toArray 0 (Int.toNat 0) x.length) (wpAny_mkStr ?_ (by simp [PySem.Str.length, sizeLine_eq]; exact Nat.le_trans (by assumption) (by decide)))
  refine wpAny_bind (wpAny_updateSeq hl rfl ?_)
  have e0 : (⟨x.toArray.extract (Int.toNat 0) x.length⟩ : PySem.Str) = S x := by simp [S]
  rw [e0]
  refine wpAny_bind (m := reSlice x.toArray 0 0 0) (wpAny_mkStr ?_ (by simp [PySem.Str.length, sizeLine_eq]))
  have hl2 : (s.heap.update pa (Obj.mapSeq fun y => y.push (.str (S x) s.toks))).get? pa = some { cls := .type "list", data := .seq #[.str (S x) s.toks] 1 } := by
   rw [Heap.get?_update_self _ hl (by rw [Obj.mapSeq_push_plain]; rfl), Obj.mapSeq_push_plain]; rfl
  refine wpAny_bind (wpAny_seqItems hl2 rfl ?_)
  rw [if_neg (by simp)]
  have e1 : (⟨x.toArray.extract 0 0⟩ : PySem.Str) = S [] := by simp [S]
  rw [e1]
  refine wpAny_bind (m := call (.builtin "str.join") [.str (S []) _, .ref pa]) ?_
  refine PyProof.Rows.join_list (items := #[.str (S x) s.toks]) (ys := [S x]) ⟨_, hl2, rfl, 1, rfl⟩ (.cons _ _ .nil) ?_ fun t' k => ?_
  ·simp only [List.map_cons, List.map_nil, List.sum_cons, List.sum_nil, List.length_cons, List.length_nil, Bv]; exact Nat.le_trans (by assumption) (by decide)
  ·have e2 : Txt.join (S []) [S x] = S x := StrLaws.glued_eq_join _ _
   rw [e2]
   exact wpAny_pure (h _ t' k (Heap.SameBut.update ..))
 ·rw [if_neg h0]
  have hx0 : x = [] := List.length_eq_zero_iff.mp (by have : Int.toNat 0 = 0 := rfl; exact Nat.le_antisymm (Nat.le_trans (Nat.le_of_not_lt h0) (Nat.le_of_eq this)) (Nat.zero_le _))
  subst hx0
  refine wpAny_bind (m := reSlice #[] 0 0 0) ?_
  show wpAny _ _ (mkStr (S [])) _ _ _
  refine wpAny_mkStr ?_ (by rw [Bv]; exact Nat.zero_le _)
  refine wpAny_bind (wpAny_seqItems hl rfl ?_)
  have ee : ((some (#[] : Array Value)).getD #[]).isEmpty = true := rfl
  rw [if_pos ee]
  refine wpAny_bind (wpAny_pure ?_)
  have := h s.heap s.toks (s.toks + 1) (Heap.SameBut.refl _ _)
  exact wpAny_pure this
theorem NM {Q : Value → Shared → Prop} {ra f : Addr} {x : List Nat} {t : Tok} {of : Obj} (hx : ∀ ch ∈ x, N5 ch) (hp : F5 s.heap ra) (hf : s.heap.get? f = some of) (hfc : of.cls = .type "function") (hxl : x.length ≤ 1048576)
  (h : ∀ h' t' k, (∀ b o, s.heap.get? b = some o → h'.get? b = some o) → Q (.str (S x) t') { s with heap := h', toks := k }) :
  wpAny (model prog w) A (call (.builtin "re.Pattern.sub") [.ref ra, .ref f, .str (S x) t]) Q E s := by
 have hp' := hp
 refine Ae (fun G_ hG_ => ?_)
 obtain ⟨o, wa, ow, k, pt, fl, h1, h2, h3, h4, h5, h6⟩ := hp'
 refine hG_ ?_
 clear hG_ G_
 refine wpAny_call (codeAny_call_builtin C1.plain EJ (C1.check _ _ _ _ _ _ _ _ ⟨_, h1, h2⟩ (F7 _ _ _) ?_))
 unfold Builtin.«re.Pattern.sub» reSubstitute
 have e0 : reNamed "re.Pattern.sub" "sub" ["repl", "string", "count"] 2 [.ref f, .str (S x) t] [] = pure [some (.ref f), some (.str (S x) t), none] := by rfl
 show wpAny _ _ (reNamed "re.Pattern.sub" "sub" ["repl", "string", "count"] 2 [.ref f, .str (S x) t] [] >>= _) _ _ s
 rw [e0]
 refine wpAny_bind (wpAny_pure ?_)
 dsimp only
 refine wpAny_bind (wpAny_pure ?_)
 refine wpAny_bind (wpAny_specialOf (T := "function") ⟨_, hf, hfc⟩ fn_call ?_)
 simp only [Option.isSome_some, if_true]
 refine wpAny_bind (wpAny_pure ?_)
 refine wpAny_bind (wpAny_pure ?_)
 dsimp only
 refine wpAny_bind (wpAny_holding (FO hp ?_))
 have e11 : ((1 : Int) == 1) = true := rfl
 first | rw [if_pos e11] | rw [if_pos (show ((1 : Nat) == 1) = true from rfl)]
 refine wpAny_bind (Jw ?_)
 refine wpAny_bind (wpAny_newList ?_ (Nat.zero_le _))
 refine wpAny_pure ⟨Code.quiet_builtin _ (by decide +kernel), ?_⟩
 have kp : ∀ b o, s.heap.get? b = some o → (s.heap.push { cls := .type "list", data := .seq ([] : List Value).toArray 0 }).get? b = some o := fun b o e => Heap.get?_push_of_some _ e
 refine subLoop hx (hp.keeps kp) (Heap.get?_push_size _ rfl) hxl fun h' t' k' hs => ?_
 exact h h' t' k' fun b o e => (hs.2 b (Nat.ne_of_lt (Heap.lt_size e))).trans (kp b o e)
end
noncomputable def sb (c : Nat) (z : List Nat) (l : List Nat) : List Nat := l.flatMap fun k => if k = c then z else [k]
theorem FP (c : Nat) (z a b : List Nat) : sb c z (a ++ b) = sb c z a ++ sb c z b := List.flatMap_append
theorem H8 (c : Nat) (z : List Nat) : ∀ l : List Nat, c ∉ l → sb c z l = l
 | [], _ => rfl
 | k :: r, h => by
  have h1 : ¬ k = c := fun e => h (e ▸ List.mem_cons_self ..)
  have h2 : c ∉ r := fun m => h (List.mem_cons_of_mem _ m)
  show (if k = c then z else [k]) ++ sb c z r = _
  rw [if_neg h1, H8 c z r h2]; rfl
theorem Mb (c : Nat) (z : List Nat) : ∀ parts : List PySem.Str, (∀ p ∈ parts, c ∉ p.cps.toList) → sb c z (PySem.Str.join ⟨#[c]⟩ parts).cps.toList = (PySem.Str.join (S z) parts).cps.toList
 | [], _ => rfl
 | [p], h => H8 c z _ (h p (List.mem_singleton.mpr rfl))
 | p :: q :: r, h => by
  have ih := Mb c z (q :: r) fun a ha => h a (List.mem_cons_of_mem _ ha)
  show sb c z (p ++ ⟨#[c]⟩ ++ PySem.Str.join ⟨#[c]⟩ (q :: r)).cps.toList = (p ++ S z ++ PySem.Str.join (S z) (q :: r)).cps.toList
  simp only [PySem.Str.cps_append, Array.toList_append]
  rw [FP, FP, ih, H8 c z _ (h p (List.mem_cons_self ..))]
  have : sb c z (#[c] : Array Nat).toList = z := by simp [sb]
  rw [this]
theorem GC (x : List Nat) (c : Nat) (z : List Nat) : Txt.replace (S x) (S [c]) (S z) = S (sb c z x) := by
 have e : (S [c] : PySem.Str) = ⟨#[c]⟩ := rfl
 have h : (Txt.replace (S x) (S [c]) (S z)).cps.toList = sb c z x := by
  rw [e, StrLaws.replace_one, ← Mb c z _ (StrLaws.split_free (S x) c), StrLaws.join_split]
 show _ = PySem.Str.mk (sb c z x).toArray
 rw [← h]
section
variable {c : Cx} {P L : Addr} {n : Nat} {σ : St} {α β : Type} {e : Env} {l l' : Loc} {m m' f q : Led}
theorem KX {nm s1 s2 : PySem.Str} {ch : Nat} {z : List Nat} {k1 k2 : Nat} {p1 ap q1 q2 pos : Pos} {Q : Value → St → Prop} (h1 : s1 = S [ch]) (h2 : s2 = S z) (hne : ([ch] : List Nat) ≠ z) (hz : z.length ≤ 14)
  (h : V c L n (eval (.Name nm p1) e) (fun v σ₁ => ∃ x t, v = .str (S x) t ∧ x.length ≤ 1048576 ∧ ∀ t', Q (.str (S (sb ch z x)) t') σ₁) σ)
  (hline : (ap.endLine == pos.line) = true := by with_unfolding_all rfl) :
  W c P L n (eval (.Call (.Attribute (.Name nm p1) "replace" ap) [.Constant (.str s1) k1 q1, .Constant (.str s2) k2 q2] [] pos) e) Q σ :=
 fun A B s o hr hb hP hT ho hg ht => by
  refine wpAny_Call_method_lateS rfl rfl hline (wpAny_mono (wpAny_toks_of ht (h A (B.add P o) s hr (By hb hP) ho hg)) (fun v s' hp => ?_) fun _ _ x => x.2)
  refine Ae (fun G_ hG_ => ?_)
  obtain ⟨ht', hg', hos, σ', hw, x, t, rfl, hx, hq⟩ := hp
  refine hG_ ?_
  clear hG_ G_
  refine ⟨"str", "str.replace", F.plainAttrs_str, F.slot_str_replace, F.type_str_replace, typeIs_str _ _ _, (fun _ e => nomatch e), ?_⟩
  refine callWith_builtin rfl (AG rfl ?_)
  refine args_cons (wpAny_Constant_str (args_cons (wpAny_Constant_str (wpAny_pure ?_)) rfl)) rfl
  subst h1 h2
  show wpAny _ _ (call (.builtin "str.replace") [.str (S x) t, .str (S [ch]) s'.toks, .str (S z) (s'.toks + 1)]) _ _ _
  have e1 : (s'.toks : Nat) ≠ 0 := by exact Nat.ne_of_gt (by assumption)
  refine SC.replaceW e1 (Nat.succ_ne_zero _) (Nat.ne_of_lt (Nat.lt_succ_self _)) (by rw [Ga]; exact decide_eq_false hne) (by rw [Bv]; exact hx) (by rw [Bv]; exact hz) fun t' k => ?_
  rw [GC]
  exact ⟨hg', hos, σ', o, hT, hw, hq t'⟩
noncomputable def fnD : D := .prop fun o => o.cls = .type "function"
theorem NN {args : Arguments} {body : Expr} {scope : Scope} {pos : Pos} {cc : Addr} {KL : List (PySem.Str × NameKind)} {CL : List (PySem.Str × Addr)} {Q : Value → St → Prop} (hc : c.Ok) (he : Ag e L KL CL) (hcode : e.code = .ref cc) (C : CodeHd c.b cc P) (hPb : c.b.get? P = none) (hbi : c.b.BuiltinsAt c.mg P)
  (h : ∀ a, Q (.ref a) ⟨l, m, (a, fnD) :: f, q⟩) (hdef : defaultsOf args e = ([], []) := by with_unfolding_all rfl) (hcl : closureFor scope e = pure [] := by with_unfolding_all rfl) :
  W c P L n (eval (.Lambda args body scope pos) e) Q ⟨l, m, f, q⟩ := fun A B s o hr hb hP hT ho hg ht => by
 obtain ⟨ps, rfl, htr⟩ := hT
 have kb : ∀ a o, c.b.get? a = some o → s.heap.get? a = some o := fun a o q => ho.sub a o (By hb hP a o q)
 have hns := hc.g.keeps kb
 have hPs := ho.at_hid.1
 have hgP : mainGlobals ≠ P := fun q => by
  refine Ae (fun G_ hG_ => ?_)
  obtain ⟨o, es, ep, e1, hd, _⟩ := hc.g
  refine hG_ ?_
  clear hG_ G_
  rw [q, hPb] at e1; cases e1
 have hbi' : s.heap.BuiltinsAt c.mg P := by
  refine Ae (fun G_ hG_ => ?_)
  obtain ⟨bm, ob, b1, b2, b3, b4, b5, b6⟩ := hbi
  refine hG_ ?_
  clear hG_ G_
  exact ⟨bm, ob, b1, b2, b3, b4, kb _ _ b5, b6⟩
 refine kla_eval hdef ?_
 cases hca : codeAmong pos ps.toList with
 | none =>
  refine kla_makeFunction (mg := c.mg) hcl he.glob hns hcode (C.keeps kb) hPs htr hca hgP hbi' fun c' ctv h' tk hx hge hlt hrec htb => ?_
  have hw := ho.setHid hx htb
  refine ⟨hg, rfl, _, tabObj (ps ++ #[rawInt pos.line, rawInt pos.col, .ref c']), ⟨_, rfl, ?_⟩, hw.newFz (o := fnD) (Ext.push _ _) (Nat.le_refl _) ⟨_, Heap.get?_push_size _ rfl, rfl⟩, h _⟩
  have := TriplesOk_snoc pos.line pos.col (.ref c') ps.toList htr
  simpa using this
 | some cv =>
  refine kla_makeFunctionHit (mg := c.mg) hcl he.glob hns hcode (C.keeps kb) hPs htr hca hbi' fun ctv h' tk hk hsz => ?_
  have hw := ho.ext hk
  exact ⟨hg, rfl, _, tabObj ps, ⟨_, rfl, htr⟩, hw.newFz (o := fnD) (Ext.push _ _) (Nat.le_refl _) ⟨_, Heap.get?_push_size _ rfl, rfl⟩, h _⟩
end
section
variable {c : Cx} {P L : Addr} {n : Nat} {σ : St} {α β : Type} {e : Env} {l l' : Loc} {m m' f q : Led}
theorem W_sub {g nm : PySem.Str} {gp ap lp np pos : Pos} {largs : Arguments} {lbody : Expr} {lscope : Scope} {cc ra : Addr} {KL : List (PySem.Str × NameKind)} {CL : List (PySem.Str × Addr)} {Q : Value → St → Prop}
  (hc : c.Ok) (he : Ag e L KL CL) (hcode : e.code = .ref cc) (C : CodeHd c.b cc P) (hPb : c.b.get? P = none) (hbi : c.b.BuiltinsAt c.mg P) (hra : F5 c.b ra)
  (hg0 : V c L n (eval (.Name g gp) e) (fun v σ' => v = .ref ra ∧ σ' = ⟨l, m, f, q⟩) ⟨l, m, f, q⟩)
  (h : ∀ a, V c L n (eval (.Name nm np) e) (fun v σ₁ => ∃ x t, v = .str (S x) t ∧ (∀ ch ∈ x, N5 ch) ∧ x.length ≤ 1048576 ∧ Has σ₁ a fnD ∧ ∀ t', Q (.str (S x) t') σ₁) ⟨l, m, (a, fnD) :: f, q⟩)
  (hdef : defaultsOf largs e = ([], []) := by with_unfolding_all rfl) (hcl : closureFor lscope e = pure [] := by with_unfolding_all rfl) (hline : (ap.endLine == pos.line) = true := by with_unfolding_all rfl) :
  W c P L n (eval (.Call (.Attribute (.Name g gp) "sub" ap) [.Lambda largs lbody lscope lp, .Name nm np] [] pos) e) Q ⟨l, m, f, q⟩ :=
 fun A B s o hr hb hP hT ho hg ht => by
  refine wpAny_Call_method_lateS rfl rfl hline (wpAny_mono (wpAny_toks_of ht (hg0 A (B.add P o) s hr (By hb hP) ho hg)) (fun v s' hp => ?_) fun _ _ x => x.2)
  refine Ae (fun G_ hG_ => ?_)
  obtain ⟨ht', hg', hos, σ', hw, rfl, rfl⟩ := hp
  refine hG_ ?_
  clear hG_ G_
  have kb : ∀ a o, c.b.get? a = some o → s'.heap.get? a = some o := fun a o q => hw.sub a o (By hb hP a o q)
  refine Ae (fun G_ hG_ => ?_)
  obtain ⟨oo, wa, ow, k, pt, fl, h1, h2, h3, h4, h5, h6⟩ := hra
  refine hG_ ?_
  clear hG_ G_
  refine ⟨"re.Pattern", "re.Pattern.sub", Ej, C1, F6, ⟨_, kb _ _ h1, h2⟩, (fun a ea => by cases ea; exact ⟨_, kb _ _ h1, h3⟩), ?_⟩
  refine callWith_builtin rfl (AG rfl ?_)
  refine args_cons (wpAny_mono (wpAny_toks_of ht' (NN (Q := fun v σ₂ => ∃ a, v = .ref a ∧ σ₂ = ⟨l, m, (a, fnD) :: f, q⟩) hc he hcode C hPb hbi (fun a => ⟨a, rfl, rfl⟩) hdef hcl A B s' o hr hb hP hT hw hg' ht')) (fun v s₂ hp => ?_) fun _ _ x => x.2) rfl
  refine Ae (fun G_ hG_ => ?_)
  obtain ⟨ht₂, hg₂, hos₂, σ₂, o₂, hT₂, hw₂, a, rfl, rfl⟩ := hp
  refine hG_ ?_
  clear hG_ G_
  refine args_cons (wpAny_mono (h a A (B.add P o₂) s₂ hr (By hb hP) hw₂ hg₂) (fun v s₃ hp => ?_) fun _ _ x => x) rfl
  refine Ae (fun G_ hG_ => ?_)
  obtain ⟨hg₃, hos₃, σ₃, hw₃, x, t, rfl, hx, hxl, ha, hq⟩ := hp
  refine hG_ ?_
  clear hG_ G_
  refine wpAny_pure ?_
  show wpAny _ _ (call (.builtin "re.Pattern.sub") [.ref ra, .ref a, .str (S x) t]) _ _ _
  have kb3 : ∀ a o, c.b.get? a = some o → s₃.heap.get? a = some o := fun a o q => hw₃.sub a o (By hb hP a o q)
  obtain ⟨of, e1, e2⟩ := hw₃.has ha
  refine NM hx ⟨oo, wa, ow, k, pt, fl, kb3 _ _ h1, h2, h3, h4, kb3 _ _ h5, h6⟩ e1 e2 hxl fun h' t' k' hk => ?_
  exact ⟨hg₃, hos₃.trans (hos₂.trans hos), σ₃, o₂, hT₂, hw₃.ext hk, hq t'⟩
end
open Sem (wp)
noncomputable def H9 (prog : Program) (w : World) (cenv : Env) (x : PySem.Str) (elt : Expr) (fp wr : List Addr) (P : Nat → Value → Prop) (F : Nat → Value → Prop) (href : Heap) : Prop :=
 ∀ (A' : Around) E' i v (s₂ : Shared) m₂, A'.handled = none → P i v → 1 ≤ s₂.toks → s₂.heap.Ns cenv.locals m₂ → m₂ x = some v → (∀ b ∈ fp, b ∉ wr → ∀ o, href.get? b = some o → s₂.heap.get? b = some o) →
  wpAny (model prog w) A' (eval elt cenv) (fun y s₃ => F i y ∧ Keeps s₂ s₃) E' s₂
section
variable {prog : Program} {w : World} {A : Around}
noncomputable abbrev Q8 : Nat → Bool := fun _ => true
theorem NO {elt iter : Expr} {x : PySem.Str} {px : Pos} {scope : Scope} {pos : Pos} {I : Addr} {fp wr : List Addr} {n₀ : Nat} {P : Nat → Value → Prop} {St₀ : Nat → Heap → Prop} {cenv : Env}
  (hh : A.handled = none) (W₀ : ∀ A' : Around, A'.handled = none → Walks prog w A' I fp wr n₀ P St₀) (F : Nat → Value → Prop) (href : Heap)
  (hx : cenv.kindOf x = some .local) (hp : (cenv.scope.kind == .class || (cenv.scope.kind == .module && cenv.locals != cenv.globals)) = false)
  (hco : cenv.scope.isCoroutine = false) (hCf : cenv.locals ∉ fp) (hq : H9 prog w cenv x elt fp wr P F href) :
  ∀ (k i : Nat) (s₀ s : Shared) (m : PySem.Str → Option Value), n₀ - i = k → i ≤ n₀ → St₀ i s.heap → s.heap.Ns cenv.locals m → GenSince cenv.locals wr s₀ s →
   (∀ b ∈ fp, b ∉ wr → ∀ o, href.get? b = some o → s.heap.get? b = some o) →
   Seg (model prog w) A (fun n s₀ r s₁ => r = .ok .next ∧ (n = 0 ∧ GenSince cenv.locals wr s₀ s₁)) (genProto cenv.locals fp wr Q8 n₀ F) (passing Q8 n₀ i).length s₀
    (.compLoop (.GeneratorExp elt [⟨.Name x px, iter, [], 0⟩] scope pos) 0 (.ref I) .none cenv)
    ((model prog w).den (.compLoop (.GeneratorExp elt [⟨.Name x px, iter, [], 0⟩] scope pos) 0 (.ref I) .none cenv)) [] s := by
 have hh' : (A.over (.compLoop (.GeneratorExp elt [⟨.Name x px, iter, [], 0⟩] scope pos) 0 (.ref I) .none cenv) []).handled = none := hh
 have hCw : cenv.locals ∉ wr := fun h => hCf ((W₀ A hh).sub _ h)
 intro k
 induction k with
 | zero =>
  intro i s₀ s m hk hi hst hn hsince hkp
  have hin : i = n₀ := by lia
  subst hin
  show Seg _ A _ _ _ s₀ _ ((compTurn (.GeneratorExp elt [⟨.Name x px, iter, [], 0⟩] scope pos) 0 (.ref I) .none cenv).onRaise (leaving cenv)) [] s
  rw [compTurn_gen, Sem.onRaise_eq_wrap]
  refine seg_bind_wrap (wpAny_standAt ?_)
  refine seg_bind_wrap ((W₀ _ hh').done s _ _ hst fun h' tk hk' => ?_)
  exact seg_end (.ok .next) ⟨rfl, by rw [passing_end]; rfl, hsince.step fun b o _ hw e => hk' b o hw e⟩
 | succ k ih =>
  intro i s₀ s m hk hi hst hn hsince hkp
  have hlt : i < n₀ := by clear hi; omega
  show Seg _ A _ _ _ s₀ _ ((compTurn (.GeneratorExp elt [⟨.Name x px, iter, [], 0⟩] scope pos) 0 (.ref I) .none cenv).onRaise (leaving cenv)) [] s
  rw [compTurn_gen, Sem.onRaise_eq_wrap]
  refine seg_bind_wrap (wpAny_standAt ?_)
  refine seg_bind_wrap ((W₀ _ hh').item i s _ _ hlt hst fun v h₁ tk₁ hPv hst₁ hk₁ => ?_)
  refine seg_bind_wrap (wpAny_of_eq (rfl : letOwnedTupleGo (.Name x px) (.ref I) v = pure ()) ?_)
  refine seg_bind_wrap (wpAny_assign_Name (wpAny_storeName_local hx (hn.at' fun o e => hk₁ _ o hCw e) (fun h₂ hn₂ hs₂ => ?_) hp))
  have up₂ : ∀ b o, b ≠ cenv.locals → b ∉ wr → s.heap.get? b = some o → h₂.get? b = some o := fun b o hbC hbw e => hs₂.extBut b o hbC (hk₁ b o hbw e)
  have hst₂ : St₀ (i + 1) h₂ := (W₀ A hh).frame _ _ _ hst₁ fun b hb o e => hs₂.extBut b o (fun h => hCf (h ▸ hb)) e
  have hkp₂ : ∀ b ∈ fp, b ∉ wr → ∀ o, href.get? b = some o → h₂.get? b = some o := fun b hb hbw o e => up₂ b o (fun h => hCf (h ▸ hb)) hbw (hkp b hb hbw o e)
  refine seg_bind_wrap (wpAny_of_eq (a := true) (by rw [List.forIn_nil]) ?_)
  rw [passing_true hlt rfl, List.length_cons]
  simp only [if_true]
  have hy : ∀ v, yieldOut cenv v = yieldValue v := fun v => by simp only [yieldOut, hco, Bool.false_eq_true, if_false]
  simp only [hy]
  rw [Sem.bind_eq_wrap', Sem.bind_eq_wrap', Sem.wrap_wrap, Sem.wrap_wrap]
  refine seg_wrap (wpAny_mono (hq _ _ i v _ _ hh' hPv (Nat.le_add_left _ _) hn₂ (by simp) hkp₂) (fun y s₄ h₄ => ?_) fun _ _ e => e)
  refine Ae (fun G_ hG_ => ?_)
  obtain ⟨hFy, h₄, tk₄, rfl, hk₄⟩ := h₄
  refine hG_ ?_
  clear hG_ G_
  refine seg_at (seg_yield rfl rfl rfl ⟨⟨i, passing_here hlt rfl, hFy⟩, hsince.step fun b o hbC hbw e => hk₄ b o (up₂ b o hbC hbw e), fun s'' hal => ?_⟩)
  refine seg_again rfl (ih (i + 1) s'' s'' _ (by omega) hlt ((W₀ A hh).frame _ _ _ hst₂ fun b hb o e => hal b (List.mem_cons_of_mem _ hb) o (hk₄ b o e))
   ((hn₂.keeps hk₄).at' fun o e => hal _ (List.mem_cons_self ..) o e) (GenSince.refl _ _ _) fun b hb hbw o e => hal b (List.mem_cons_of_mem _ hb) o (hk₄ b o (hkp₂ b hb hbw o e)))
theorem Mc {elt iter : Expr} {x : PySem.Str} {px : Pos} {scope : Scope} {pos : Pos} {I : Addr} {fp wr : List Addr} {n₀ : Nat} {P : Nat → Value → Prop} {St₀ : Nat → Heap → Prop} {cenv : Env}
  (hh : A.handled = none) (W₀ : ∀ A' : Around, A'.handled = none → Walks prog w A' I fp wr n₀ P St₀) (F : Nat → Value → Prop) (href : Heap)
  (hx : cenv.kindOf x = some .local) (hp : (cenv.scope.kind == .class || (cenv.scope.kind == .module && cenv.locals != cenv.globals)) = false)
  (hco : cenv.scope.isCoroutine = false) (hCf : cenv.locals ∉ fp) (hq : H9 prog w cenv x elt fp wr P F href)
  (s₀ s : Shared) (m : PySem.Str → Option Value) (hst : St₀ 0 s.heap) (hn : s.heap.Ns cenv.locals m) (hsince : GenSince cenv.locals wr s₀ s)
  (hkp : ∀ b ∈ fp, b ∉ wr → ∀ o, href.get? b = some o → s.heap.get? b = some o) :
  Seg (model prog w) A (fun n s₀ r s₁ => r = .ok .next ∧ (n = 0 ∧ GenSince cenv.locals wr s₀ s₁)) (genProto cenv.locals fp wr Q8 n₀ F) (passing Q8 n₀ 0).length s₀
   (.compStart (.GeneratorExp elt [⟨.Name x px, iter, [], 0⟩] scope pos) 0 (.ref I) .none cenv)
   ((model prog w).den (.compStart (.GeneratorExp elt [⟨.Name x px, iter, [], 0⟩] scope pos) 0 (.ref I) .none cenv)) [] s := by
 have hh' : (A.over (.compStart (.GeneratorExp elt [⟨.Name x px, iter, [], 0⟩] scope pos) 0 (.ref I) .none cenv) []).handled = none := hh
 have loop := NO (iter := iter) (px := px) (scope := scope) (pos := pos) hh W₀ F href hx hp hco hCf hq n₀ 0 s₀ s m (Nat.sub_zero _) (Nat.zero_le _) hst hn hsince hkp
 show Seg _ A _ _ _ s₀ _ ((compStart (.GeneratorExp elt [⟨.Name x px, iter, [], 0⟩] scope pos) 0 (.ref I) .none cenv).onRaise (leaving cenv)) [] s
 unfold compStart
 rw [Sem.onRaise_eq_wrap]
 show Seg _ A _ _ _ s₀ _ ((ask >>= _).wrap _ _ _ _) [] s
 refine seg_bind_wrap (wpAny_askSetting ?_)
 split
 ·exact seg_again rfl loop
 ·first
   | exact seg_bind_wrap (wpAny_rule (seg_bind_wrap (wpAny_standAt (seg_bind_wrap ((W₀ _ hh').self 0 s _ _ hst (seg_again rfl loop))))))
   | (refine seg_bind_wrap (wpAny_rule ?_); show Seg _ A _ _ _ s₀ _ ((standAt iter.pos >>= _).wrap _ _ _ _) [] s; exact seg_bind_wrap (wpAny_standAt (seg_bind_wrap ((W₀ _ hh').self 0 s _ _ hst (seg_again rfl loop)))))
theorem Md {elt iter : Expr} {x : PySem.Str} {px : Pos} {scope : Scope} {pos : Pos} {I a : Addr} {g : Nat} {fp wr : List Addr} {n₀ : Nat} {P : Nat → Value → Prop} {St₀ : Nat → Heap → Prop} {cenv : Env}
  (hh : A.handled = none) (W₀ : ∀ A' : Around, A'.handled = none → Walks prog w A' I fp wr n₀ P St₀) (F : Nat → Value → Prop)
  (hx : cenv.kindOf x = some .local) (hp : (cenv.scope.kind == .class || (cenv.scope.kind == .module && cenv.locals != cenv.globals)) = false)
  (hco : cenv.scope.isCoroutine = false) (hCf : cenv.locals ∉ fp) {s : Shared} {m : PySem.Str → Option Value} (hq : H9 prog w cenv x elt fp wr P F s.heap)
  (hg : s.heap.IsGen a g) (hgs : s.gens[g]? = some (.fresh (.compStart (.GeneratorExp elt [⟨.Name x px, iter, [], 0⟩] scope pos) 0 (.ref I) .none cenv)))
  (hst : St₀ 0 s.heap) (hn : s.heap.Ns cenv.locals m) (hl : s.heap.NoLimit) : GenAt prog w A a g cenv.locals fp wr Q8 n₀ F 0 s :=
 ⟨hg, hl, _, hgs, fun s'' hal => ⟨rfl, Mc (A := A.in1) hh W₀ F s.heap hx hp hco hCf hq s'' s'' m ((W₀ A hh).frame _ _ _ hst fun b hb o e => hal b (List.mem_cons_of_mem _ hb) o e)
  (hn.at' fun o e => hal _ (List.mem_cons_self ..) o e) (GenSince.refl _ _ _) fun b hb _ o e => hal b (List.mem_cons_of_mem _ hb) o e⟩⟩
end
section
variable {prog : Program} {w : World} {A : Around} {E : Value → Shared → Prop} {s : Shared}
theorem FQ {env : Env} {o : Expr} {s1 s2 : PySem.Str} {ch : Nat} {z : List Nat} {k1 k2 : Nat} {ap q1 q2 pos : Pos} {Q : Value → Shared → Prop} (h1 : s1 = S [ch]) (h2 : s2 = S z) (hne : ([ch] : List Nat) ≠ z) (hz : z.length ≤ 14)
  (hbase : attributeBase o "replace" env (eval o env) = eval o env) (ht : 1 ≤ s.toks)
  (h : wpAny (model prog w) A (eval o env) (fun v s' => ∃ x t, v = .str (S x) t ∧ x.length ≤ 1048576 ∧ ∀ t' k, Q (.str (S (sb ch z x)) t') { s' with toks := k }) E s)
  (hline : (ap.endLine == pos.line) = true) :
  wpAny (model prog w) A (eval (.Call (.Attribute o "replace" ap) [.Constant (.str s1) k1 q1, .Constant (.str s2) k2 q2] [] pos) env) Q E s := by
 refine wpAny_Call_method_lateS hbase rfl hline (wpAny_mono (wpAny_toks_of ht h) (fun v s' hp => ?_) fun _ _ x => x.2)
 refine Ae (fun G_ hG_ => ?_)
 obtain ⟨ht', x, t, rfl, hx, hq⟩ := hp
 refine hG_ ?_
 clear hG_ G_
 refine ⟨"str", "str.replace", F.plainAttrs_str, F.slot_str_replace, F.type_str_replace, typeIs_str _ _ _, (fun _ e => nomatch e), ?_⟩
 refine callWith_builtin rfl (AG rfl ?_)
 refine args_cons (wpAny_Constant_str (args_cons (wpAny_Constant_str (wpAny_pure ?_)) rfl)) rfl
 subst h1 h2
 show wpAny _ _ (call (.builtin "str.replace") [.str (S x) t, .str (S [ch]) s'.toks, .str (S z) (s'.toks + 1)]) _ _ _
 have e1 : (s'.toks : Nat) ≠ 0 := by exact Nat.ne_of_gt (by assumption)
 refine SC.replaceW e1 (Nat.succ_ne_zero _) (Nat.ne_of_lt (Nat.lt_succ_self _)) (by rw [Ga]; exact decide_eq_false hne) (by rw [Bv]; exact hx) (by rw [Bv]; exact hz) fun t' k => ?_
 rw [GC]
 exact hq t' k
end
noncomputable def DG (x : List Nat) : List Nat := sb 45 [92, 45] (sb 92 [92, 92] x)
theorem HS (c : Nat) (z : List Nat) (hz : z.length ≤ 2) : ∀ x : List Nat, (sb c z x).length ≤ 2 * x.length
 | [] => Nat.zero_le _
 | k :: r => by
  have ih := HS c z hz r
  have e : sb c z (k :: r) = (if k = c then z else [k]) ++ sb c z r := rfl
  rw [e, List.length_append, List.length_cons]
  split
  ·lia
  ·simp only [List.length_cons, List.length_nil]; lia
theorem K8 (x : List Nat) : (DG x).length ≤ 4 * x.length := by
 have h1 := HS 92 [92, 92] (Nat.le_refl _) x
 have h2 := HS 45 [92, 45] (Nat.le_refl _) (sb 92 [92, 92] x)
 unfold DG; lia
noncomputable def Qj (nm : PySem.Str) (p1 ap1 a1 a2 pos1 ap2 b1 b2 pos2 : Pos) (k1 k2 k3 k4 : Nat) : Expr :=
 .Call (.Attribute (.Call (.Attribute (.Name nm p1) "replace" ap1) [.Constant (.str (ofString "\\")) k1 a1, .Constant (.str (ofString "\\\\")) k2 a2] [] pos1) "replace" ap2)
  [.Constant (.str (ofString "-")) k3 b1, .Constant (.str (ofString "\\-")) k4 b2] [] pos2
section
variable {prog : Program} {w : World} {A : Around} {E : Value → Shared → Prop} {s : Shared}
theorem NP {cenv : Env} {nm : PySem.Str} {p1 ap1 a1 a2 pos1 ap2 b1 b2 pos2 : Pos} {k1 k2 k3 k4 : Nat} {fp wr : List Addr} {href : Heap} {vs : List Value} {xs : List (List Nat)} (hx : cenv.kindOf nm = some .local) (hk : cenv.scope.kind = .function) (hd : (nm == ("__debug__" : PySem.Str)) = false)
  (hxs : Bk xs vs) (hl : ∀ x ∈ xs, x.length ≤ 65536) (hl1 : (ap1.endLine == pos1.line) = true) (hl2 : (ap2.endLine == pos2.line) = true) :
  H9 prog w cenv nm (Qj nm p1 ap1 a1 a2 pos1 ap2 b1 b2 pos2 k1 k2 k3 k4) fp wr (fun i v => vs.toArray[i]? = some v) (fun i y => ∃ x, xs[i]? = some x ∧ ∃ t, y = .str (S (DG x)) t) href := by
 intro A' E' i v s₂ m₂ hA hP ht hn hm _
 obtain ⟨x, hxi, t, rfl⟩ := hxs.get (show vs[i]? = some v by simpa using hP)
 have hxl := hl x (List.mem_of_getElem? hxi)
 unfold Qj
 refine FQ KA lit11 (by decide) (by decide) rfl ht (FQ Qe lit8 (by decide) (by decide) rfl ht (wpAny_Name (wpAny_loadName_local hk hx hn hm ?_) hd) hl1) hl2
 refine ⟨x, t, rfl, by exact Nat.le_trans (by assumption) (by decide), fun t' k => ?_⟩
 have h2 := HS 92 [92, 92] (Nat.le_refl _) x
 exact ⟨_, _, rfl, by lia, fun t'' k' => ⟨⟨x, hxi, t'', rfl⟩, ⟨s₂.heap, k', rfl, fun _ _ e => e⟩⟩⟩
theorem NQ {env : Env} {c P : Addr} {ps : Array Value} {pos : Pos} {qualname : PySem.Str} {scope : Scope} {Q : Value → Shared → Prop} (hc : env.code = .ref c) (C : CodeHd s.heap c P) (hP : s.heap.get? P = some (tabObj ps)) (htr : TriplesOk ps.toList)
  (h : ∀ code h₃ tk o₃, Heap.ExtBut P s.heap h₃ → s.heap.objs.size ≤ h₃.objs.size → h₃.get? P = some o₃ → NL o₃ → Q code { s with heap := h₃, toks := tk }) : wpAny (model prog w) A (genexprCode env pos qualname scope) Q E s := by
 cases hca : codeAmong pos ps.toList with
 | none =>
  refine wpAny_genexprCodeX hc (C.code hP htr) (C.tab hP) hca fun c' h' tk hx hge hlt _ _ htb _ => ?_
  refine h _ h' tk _ hx (Nat.le_trans hge (Nat.le_of_lt hlt)) htb.2 ⟨_, rfl, ?_⟩
  have := TriplesOk_snoc pos.line pos.col (.ref c') ps.toList htr
  simpa using this
 | some cv => exact wpAny_genexprCode_hit hc (C.code hP htr) hca (h cv s.heap s.toks _ (fun _ _ _ e => e) (Nat.le_refl _) hP ⟨ps, rfl, htr⟩)
end
theorem FR (n : Nat) : passing Q8 n 0 = List.range n := by
 unfold passing
 rw [List.drop_zero]
 exact List.filter_eq_self.mpr fun _ _ => rfl
section
variable {c : Cx} {P L : Addr} {n : Nat} {σ : St} {α β : Type} {e : Env} {l l' : Loc} {m m' f q : Led}
theorem Me {s1 : PySem.Str} {sep : List Nat} {ks : Nat} {ps0 ap gpos pos px cp : Pos} {nm ch : PySem.Str} {gscope : Scope} {p1 ap1 a1 a2 pos1 ap2 b1 b2 pos2 : Pos} {k1 k2 k3 k4 : Nat} {cc : Addr} {KL : List (PySem.Str × NameKind)} {CL : List (PySem.Str × Addr)} {Q : Value → St → Prop}
  (hc : c.Ok) (he : Ag e L KL CL) (hcode : e.code = .ref cc) (C : CodeHd c.b cc P) (hPb : c.b.get? P = none) (hbi : c.b.BuiltinsAt c.mg P) (h1 : s1 = S sep) (hsl : sep.length ≤ 14)
  (hco : gscope.isCoroutine = false) (hclos : closureFor gscope e = pure []) (hcell : ∀ y ∈ gscope.names, y.2 ≠ .cell) (h0 : gscope.names.lookup (".0" : PySem.Str) = some NameKind.local)
  (hx : gscope.names.lookup nm = some .local) (hkind : gscope.kind = .function) (hd : (nm == ("__debug__" : PySem.Str)) = false)
  (h : V c L n (eval (.Name ch cp) e) (fun v σ₁ => ∃ la vs xs, v = .ref la ∧ Has σ₁ la (.list vs) ∧ Bk xs vs ∧ (∀ x ∈ xs, x.length ≤ 65536) ∧ xs.length ≤ 200 ∧ (xs.map List.length).sum ≤ 65536 ∧ ∀ t', Q (.str (S (CR sep (xs.map DG))) t') σ₁) σ)
  (hs : ∀ x, genFold (.Name ch cp) e x = pure x)
  (hl1 : (ap1.endLine == pos1.line) = true := by with_unfolding_all rfl) (hl2 : (ap2.endLine == pos2.line) = true := by with_unfolding_all rfl) (hline : (ap.endLine == pos.line) = true := by with_unfolding_all rfl) :
  W c P L n (eval (.Call (.Attribute (.Constant (.str s1) ks ps0) "join" ap) [.GeneratorExp (Qj nm p1 ap1 a1 a2 pos1 ap2 b1 b2 pos2 k1 k2 k3 k4) [⟨.Name nm px, .Name ch cp, [], 0⟩] gscope gpos] [] pos) e) Q σ :=
 fun A B s o hr hb hP hT ho hg ht => by
  refine wpAny_Call_method_lateS rfl rfl hline (wpAny_Constant_str ?_)
  refine ⟨"str", "str.join", F.plainAttrs_str, F.slot_str_join, F.type_str_join, typeIs_str _ _ _, (fun _ e => nomatch e), ?_⟩
  refine callWith_builtin rfl (AG rfl ?_)
  refine args_cons ?_ rfl
  subst h1
  refine wpAny_GeneratorExp_make hco hclos hcell h0 hkind hr.room (wpAny_mono (h A (B.add P o) { s with toks := s.toks + 1 } hr (By hb hP) ho hg) (fun xv s₁ hp => ?_) fun _ _ x => x.elim) hs
  refine Ae (fun G_ hG_ => ?_)
  obtain ⟨hg₁, hos₁, σ₁, hw₁, la, vs, xs, rfl, hla, hxs, hxl, hxn, hxsum, hQ⟩ := hp
  refine hG_ ?_
  clear hG_ G_
  have hlist := (hw₁.has hla).list
  have hlalt := (hw₁.has hla).lt
  refine wpAny_pyIter_list hlist ?_
  obtain ⟨s₂, hs₂⟩ : ∃ x : Shared, x = { s₁ with heap := s₁.heap.push { cls := .type "list_iterator", data := .fields #[.ref la, .int 0 0] } } := ⟨_, rfl⟩
  rw [← hs₂]
  have hx12 : Ext s₁.heap s₂.heap := by rw [hs₂]; exact Ext.push _ _
  have hsz12 : s₂.heap.objs.size = s₁.heap.objs.size + 1 := by rw [hs₂]; exact Heap.size_push _ _
  have hw₂ := hw₁.ext hx12
  have kb : ∀ a o, c.b.get? a = some o → s₂.heap.get? a = some o := fun a o q => hw₂.sub a o (By hb hP a o q)
  refine ⟨hc.lim.keeps kb, ?_⟩
  obtain ⟨tps, rfl, htr⟩ := hT
  refine NQ hcode (C.keeps kb) hw₂.at_hid.1 htr fun code h₃ tk o₃ hx₃ hsz₃ hP₃ hT₃ => ?_
  have hgP : mainGlobals ≠ P := fun q => by
   refine Ae (fun G_ hG_ => ?_)
   obtain ⟨o, es, ep, e1, hd, _⟩ := hc.g
   refine hG_ ?_
   clear hG_ G_
   rw [q, hPb] at e1; cases e1
  have kb₃ : ∀ a o, c.b.get? a = some o → h₃.get? a = some o := fun a o q => hx₃ a o (fun z => by rw [z, hPb] at q; cases q) (kb a o q)
  refine Ae (fun G_ hG_ => ?_)
  obtain ⟨bm, ob, bq1, bq2, bq3, bq4, bq5, bq6, bq7, bq8⟩ := hbi
  refine hG_ ?_
  clear hG_ G_
  have hns₃ : h₃.Ns e.globals c.mg := by rw [he.glob]; exact hc.g.keeps kb₃
  refine wpAny_builtinsFor hns₃ bq1 bq2 (kb₃ _ _ bq5) bq6 bq7 bq8 ?_
  intro h' hn' hs'
  refine wpAny_pure ?_
  obtain ⟨Cg, hCg⟩ : ∃ k, k = h₃.objs.size := ⟨_, rfl⟩
  obtain ⟨I, hI⟩ : ∃ k, k = s₁.heap.objs.size := ⟨_, rfl⟩
  have hCg' : ({ s₂ with heap := h₃, toks := tk } : Shared).heap.objs.size = Cg := hCg.symm
  rw [hCg'] at hn' hs' ⊢
  rw [← hI] at hn'
  have hsz : h'.objs.size = Cg + 1 := by rw [hs'.1, Heap.size_push, hCg]
  have keep' : ∀ b o, h₃.get? b = some o → h'.get? b = some o := fun b o q => hs'.extBut b o (Nat.ne_of_lt (hCg ▸ Heap.lt_size q)) (Heap.get?_push_of_some _ q)
  have hPlt : P < s₁.heap.objs.size := Heap.lt_size hw₁.at_hid.1
  have hIP : I ≠ P := by rw [hI]; exact Nat.ne_of_gt hPlt
  have hlaP : la ≠ P := fun z => by
   obtain ⟨lo, q1, q2, _⟩ := hlist
   rw [z, hw₁.at_hid.1] at q1; cases q1; cases q2
  have hlaI : la ≠ I := by rw [hI]; exact Nat.ne_of_lt hlalt
  have hIC : I < Cg := by exact Nat.lt_of_lt_of_le (Nat.lt_of_lt_of_le (Nat.lt_of_le_of_lt (Nat.le_of_eq hI) (Nat.le_of_eq hsz12.symm)) hsz₃) (Nat.le_of_eq hCg.symm)
  have hst₂ : s₂.heap.IsListIter I la 0 ∧ s₂.heap.IsList la vs.toArray := by
   rw [hs₂, hI]; exact ⟨⟨_, Heap.get?_push_size _ rfl, rfl, rfl⟩, hlist.push _⟩
  obtain ⟨s₅, hs₅⟩ : ∃ x : Shared, x = { s₂ with
    gens := s₂.gens.push (.fresh (.compStart (.GeneratorExp (Qj nm p1 ap1 a1 a2 pos1 ap2 b1 b2 pos2 k1 k2 k3 k4) [⟨.Name nm px, .Name ch cp, [], 0⟩] gscope gpos) 0 (.ref I) .none (genEnv gscope [] Cg code builtinsNs e)))
    toks := tk + 1 + 1 + 1
    heap := h'.push { cls := .type "generator", data := .fields #[.int s₂.gens.size 0, .str "<genexpr>" (tk + 1), .str (e.qual ++ "<genexpr>") (tk + 1 + 1)] } } := ⟨_, rfl⟩
  have keep₅ : ∀ b o, h₃.get? b = some o → s₅.heap.get? b = some o := fun b o q => by rw [hs₅]; exact Heap.get?_push_of_some _ (keep' b o q)
  have hst₅ : s₅.heap.IsListIter I la 0 ∧ s₅.heap.IsList la vs.toArray :=
   ⟨hst₂.1.at fun o q => keep₅ _ _ (hx₃ _ _ hIP q), hst₂.2.at fun o q => keep₅ _ _ (hx₃ _ _ hlaP q)⟩
  have hlim₅ : s₅.heap.NoLimit := hc.lim.keeps fun a o q => keep₅ _ _ (kb₃ a o q)
  have hcst : cStatics < s₂.heap.objs.size := let ⟨_, hn, _⟩ := hc.lim.keeps kb; hn.lt
  have hcC : cStatics < Cg := by rw [hCg]; exact Nat.lt_of_lt_of_le hcst hsz₃
  have hcstI : cStatics ≠ I := fun z => by
   refine Ae (fun G_ hG_ => ?_)
   obtain ⟨_, hn, _⟩ := hc.lim
   obtain ⟨oo, es, ep, q, _⟩ := hn
   refine hG_ ?_
   clear hG_ G_
   have := Heap.lt_size (hw₁.sub _ _ (By hb hP _ _ q))
   rw [z, hI] at this; exact Nat.lt_irrefl _ this
  have hgen : s₅.heap.IsGen h'.objs.size s₂.gens.size := by rw [hs₅]; exact ⟨_, _, _, Heap.get?_push_size _ rfl, rfl, rfl, rfl⟩
  have W₀ : ∀ A' : Around, A'.handled = none → Walks c.prog c.w A' I (List.range Cg) [I] vs.toArray.size (fun i v => vs.toArray[i]? = some v) (fun i h => h.IsListIter I la i ∧ h.IsList la vs.toArray) := fun A' hA =>
   (Walks.list hA I la hlaI vs.toArray).mono_fp fun b hb => List.mem_range.mpr (by
    rcases List.mem_cons.mp hb with rfl | hb
    ·exact hIC
    ·rw [List.mem_singleton.mp hb]; exact Nat.lt_trans (Nat.lt_of_lt_of_eq hlalt hI.symm) hIC)
  have G₅ := Md (prog := c.prog) (w := c.w) (A := A.in4) (cenv := genEnv gscope [] Cg code builtinsNs e) (m := fun y => if y = (".0" : PySem.Str) then some (.ref I) else none) (a := h'.objs.size) (g := s₂.gens.size) (s := s₅) (elt := Qj nm p1 ap1 a1 a2 pos1 ap2 b1 b2 pos2 k1 k2 k3 k4) (iter := .Name ch cp) (px := px) (scope := gscope) (pos := gpos)
   hr.hd W₀ (fun i y => ∃ x, xs[i]? = some x ∧ ∃ t, y = .str (S (DG x)) t) (x := nm) hx (by show (gscope.kind == .class || (gscope.kind == .module && _)) = false; rw [hkind]; rfl) hco
   (fun hm => Nat.lt_irrefl _ (List.mem_range.mp hm)) (NP hx hkind hd hxs hxl hl1 hl2) hgen (by rw [hs₅]; exact Array.getElem?_push_size ..) hst₅ (by rw [hs₅]; exact hn'.push _) hlim₅
  have WS := WalksS.genexpQ (prog := c.prog) (w := c.w) (A := A.in4) hr.hd h'.objs.size s₂.gens.size Cg (List.range Cg) [I] Q8 vs.toArray.size (fun i y => ∃ x, xs[i]? = some x ∧ ∃ t, y = .str (S (DG x)) t)
   (by rw [hsz]; exact Nat.succ_ne_self _) (fun hm => absurd (List.mem_range.mp hm) (by rw [hsz]; exact Nat.not_lt.mpr (Nat.le_succ _))) (fun b hb => by rw [List.mem_singleton.mp hb]; exact List.mem_range.mpr hIC) hr.room (List.mem_range.mpr hcC) (Nat.ne_of_lt hcC) (by simpa using hcstI)
  have key : wpAny (model c.prog c.w) A (call (.builtin "str.join") [.str (S sep) s.toks, .ref h'.objs.size]) (fun v s' => PW B P L s.os (Q v) s') No s₅ := by
   have hlen := hxs.length
   have hg₅ : AllBare s₅.gens := by
    rw [hs₅]
    refine AllBare.push ?_ rfl
    rw [hs₂]; exact hg₁
   refine SC.joinGen WS.in4_2 (fun i s' st => st.1.typeIs) G₅ (fun b hb => ?_) List.mem_cons_self (fun j v hv => ?_) (fun s' lt hm hacc => ?_) ?_
   ·have h5s : s₅.heap.objs.size = h'.objs.size + 1 := by rw [hs₅]; exact Heap.size_push _ _
    rw [h5s, hsz]
    rcases List.mem_cons.mp hb with rfl | hb
    ·rw [hsz]; exact Nat.lt_succ_self _
    ·rcases List.mem_cons.mp hb with rfl | hb
     ·exact Nat.lt_succ_of_lt (Nat.lt_succ_self _)
     ·exact Nat.lt_succ_of_lt (Nat.lt_succ_of_lt (List.mem_range.mp hb))
   ·refine Ae (fun G_ hG_ => ?_)
    obtain ⟨i, _, x, _, t, e1⟩ := hv
    refine hG_ ?_
    clear hG_ G_
    exact ⟨_, _, e1⟩
   ·rw [FR] at hacc
    have hl : lt.map (·.1) = (xs.map DG).map S := by
     apply List.ext_getElem?
     intro j
     have hsz2 : lt.length = xs.length := by simpa [strValues, hlen] using hacc.1
     by_cases hj : j < xs.length
     ·have hj' : j < lt.length := hsz2 ▸ hj
      refine Ae (fun G_ hG_ => ?_)
      obtain ⟨i, hi, x, hxi, u, hv⟩ := hacc.2 j (.str lt[j].1 lt[j].2) (by simp [strValues, List.getElem?_eq_getElem hj'])
      refine hG_ ?_
      clear hG_ G_
      have hij : i = j := by
       rw [List.getElem?_range (by simpa [hlen] using hj)] at hi
       exact (Option.some.inj hi).symm
      subst hij
      injection hv with q1 _
      rw [List.getElem?_map, List.getElem?_map, List.getElem?_map, List.getElem?_eq_getElem hj', hxi]
      show some lt[i].1 = some (S (DG x))
      rw [q1]
     ·rw [List.getElem?_eq_none (by simpa [hsz2] using Nat.le_of_not_lt hj), List.getElem?_eq_none (by simpa using Nat.le_of_not_lt hj)]
    rw [hl]
    refine ⟨?_, fun t' k => ?_⟩
    ·refine joinOk_of ?_
     rw [Hx, List.length_map, List.length_map, Bv]
     have h4 : ∀ ys : List (List Nat), ((ys.map DG).map List.length).sum ≤ 4 * (ys.map List.length).sum := by
      intro ys
      induction ys with
      | nil => exact Nat.zero_le _
      | cons y r ih =>
       have := K8 y
       simp only [List.map_cons, List.sum_cons]; lia
     have h5 := h4 xs
     have h6 : xs.length * sep.length ≤ 200 * 14 := Nat.mul_le_mul hxn hsl
     lia
    ·rw [show Txt.join (S sep) ((xs.map DG).map S) = S (CR sep (xs.map DG)) from (StrLaws.glued_eq_join _ _).trans (Ey sep _)]
     refine ⟨?_, ?_, σ₁, o₃, hT₃, ?_, hQ t'⟩
     ·exact GenOnlyQ.bare hm.gens hg₅
     ·show s'.os = s.os
      rw [hm.os, hs₅]
      show s₂.os = s.os
      rw [hs₂]; exact hos₁
     ·refine hw₁.setHid (fun b ob hbP q => ?_) ?_
      ·have hbl := Heap.lt_size q
       refine hm.heap b ob (fun hmem => ?_) (keep₅ _ _ (hx₃ b ob hbP (hx12 b ob q)))
       rcases List.mem_cons.mp hmem with rfl | hmem
       ·exact absurd hIC (by rw [hI]; exact Nat.not_lt.mpr (Nat.le_of_lt hbl))
       ·rw [List.mem_singleton.mp hmem, hI] at hbl; exact Nat.lt_irrefl _ hbl
      ·refine hm.heap P o₃ (fun hmem => ?_) (keep₅ _ _ hP₃)
       rcases List.mem_cons.mp hmem with z | hmem
       ·rw [z] at hPlt; exact absurd hIC (by rw [hI]; exact Nat.not_lt.mpr (Nat.le_of_lt hPlt))
       ·exact hIP (List.mem_singleton.mp hmem).symm
   ·rw [FR, List.length_range, List.size_toArray, ← hlen, sizeLine_eq]; exact Nat.le_trans (by assumption) (by decide)
  rw [hs₅] at key
  subst hI
  exact key
end
noncomputable def Gj : List Nat → Option Nat
 | [] => none
 | c :: r => if c = 45 then some 0 else (Gj r).map (· + 1)
theorem FS : ∀ {l : List Nat}, Gj l = none ↔ 45 ∉ l
 | [] => by simp [Gj]
 | c :: r => by
  unfold Gj
  by_cases h : c = 45
  ·rw [if_pos h]; simp [h]
  ·rw [if_neg h, Option.map_eq_none_iff, FS]
   simp [Ne.symm h]
theorem Dv : ∀ {l : List Nat} {p : Nat}, Gj l = some p ↔ l[p]? = some 45 ∧ ∀ q, q < p → l[q]? ≠ some 45
 | [], p => by simp [Gj]
 | c :: r, p => by
  unfold Gj
  by_cases h : c = 45
  ·rw [if_pos h]
   constructor
   ·intro q; cases q; exact ⟨by rw [h]; rfl, fun q hq => absurd hq (Nat.not_lt_zero _)⟩
   ·intro ⟨h1, h2⟩
    cases p with
    | zero => rfl
    | succ p => exact absurd (show (c :: r)[0]? = some 45 by rw [h]; rfl) (h2 0 (Nat.succ_pos _))
  ·rw [if_neg h]
   constructor
   ·intro q
    obtain ⟨p', hp', rfl⟩ := Option.map_eq_some_iff.mp q
    obtain ⟨h1, h2⟩ := Dv.mp hp'
    refine ⟨by simpa using h1, fun q hq => ?_⟩
    cases q with
    | zero => simpa using h
    | succ q => simpa using h2 q (by exact Nat.lt_of_lt_of_le (Nat.lt_succ_self _) (Nat.le_of_lt_succ hq))
   ·intro ⟨h1, h2⟩
    cases p with
    | zero => exact absurd (by simpa using h1) h
    | succ p =>
     have : Gj r = some p := Dv.mpr ⟨by simpa using h1, fun q hq => by simpa using h2 (q + 1) (by exact Nat.succ_le_succ (by assumption))⟩
     rw [this]; rfl
theorem Jx {l : List Nat} {p : Nat} (h : Gj l = some p) : p < l.length := (List.getElem?_eq_some_iff.mp (Dv.mp h).1).1
noncomputable def Ar : Nat → Nat → List Nat → List (List Nat) × List Nat
 | 0, _, r => ([], r)
 | fuel + 1, off, r => match Gj (r.drop off) with
  | none => ([], r)
  | some p => (r.take (off + p) :: (Ar fuel 2 (r.drop (off + p + 1))).1, (Ar fuel 2 (r.drop (off + p + 1))).2)
noncomputable def E1 (cs : List (List Nat)) (rest : List Nat) : List (List Nat) := if rest = [] then cs.dropLast ++ [(cs.getLast?.getD []) ++ [45]] else cs ++ [rest]
noncomputable def Dd (c : List Nat) : List (List Nat) → List (List Nat)
 | [] => [c]
 | d :: t => if d.headD 0 < c.getLastD 0 then (c.dropLast ++ d.tail) :: t else c :: d :: t
noncomputable def AT : List (List Nat) → List (List Nat)
 | [] => []
 | c :: r => Dd c (AT r)
noncomputable def De (r : List Nat) : Nat := if r.headD 0 = 33 then 2 else 1
noncomputable def B6 (r : List Nat) : List (List Nat) := E1 (Ar (r.length + 1) (De r) r).1 (Ar (r.length + 1) (De r) r).2
noncomputable def Bx (r : List Nat) : List Nat := if 45 ∈ r then CR [45] ((AT (B6 r)).map DG) else sb 92 [92, 92] r
noncomputable def Cu (s : List Nat) : List Nat :=
 if s = [] then [40, 63, 33, 41] else if s = [33] then [46]
 else [91] ++ (if s.headD 0 = 33 then 94 :: s.tail else if s.headD 0 = 94 ∨ s.headD 0 = 91 then 92 :: s else s) ++ [93]
inductive Tk | star | quest | br (r : List Nat)
noncomputable def Tk.text : Tk → List Nat
 | .star => [42]
 | .quest => [63]
 | .br r => [91] ++ r ++ [93]
noncomputable def Sg (ch : Nat) : Prop := ch ∈ [33, 45, 92, 94, 97, 98]
noncomputable def Tk.ok : Tk → Prop
 | .br r => r ≠ [] ∧ r ≠ [33] ∧ ∀ ch ∈ r, Sg ch
 | _ => True
noncomputable def Fi (acc : List BA) : Tk → List BA
 | .star => if acc.getLast? = some none then acc else acc ++ [none]
 | .quest => acc ++ [some [91, 94, 45, 93]]
 | .br r => acc ++ [some (Cu (Bx r))]
noncomputable def As (ts : List Tk) : List BA := ts.foldl Fi []
noncomputable def CU : List (List Nat) → Prop
 | [] => False
 | [c] => c ≠ []
 | c :: r => 2 ≤ c.length ∧ CU r
noncomputable def Ha : List (List Nat) → Prop
 | [] => False
 | [c] => c ≠ []
 | c :: r => c ≠ [] ∧ CU r
theorem CU.cons {c : List Nat} {r : List (List Nat)} (h1 : 2 ≤ c.length) (h : CU r) : CU (c :: r) := by
 cases r with
 | nil => exact h.elim
 | cons d t => exact ⟨h1, h⟩
theorem CU.toC {cs : List (List Nat)} (h : CU cs) : Ha cs := by
 match cs, h with
 | [c], h => exact h
 | c :: d :: t, h => exact ⟨fun q => by rw [q] at h; exact absurd h.1 (by simp), h.2⟩
theorem fin_good (P : List (List Nat) → Prop) : True := trivial
theorem FT : ∀ (fuel : Nat) (off : Nat) (r : List Nat), r.length < fuel → 1 ≤ off → ((Ar fuel off r).1 = [] → r ≠ []) →
  (off = 2 → CU (E1 (Ar fuel off r).1 (Ar fuel off r).2)) ∧ Ha (E1 (Ar fuel off r).1 (Ar fuel off r).2)
 | 0, off, r, h, _, _ => absurd h (Nat.not_lt_zero _)
 | fuel + 1, off, r, h, ho, hne => by
  unfold Ar at hne ⊢
  cases hd : Gj (r.drop off) with
  | none =>
   rw [hd] at hne
   have hr := hne rfl
   simp only [E1, if_neg hr, List.nil_append]
   exact ⟨fun _ => hr, hr⟩
  | some p =>
   have hlt := Jx hd
   rw [List.length_drop] at hlt
   simp only []
   have hlen : (r.drop (off + p + 1)).length < fuel := by rw [List.length_drop]; omega
   have htl : (r.take (off + p)).length = off + p := by rw [List.length_take]; clear hne; lia
   by_cases hs : (Ar fuel 2 (r.drop (off + p + 1))).1 = [] ∧ r.drop (off + p + 1) = []
   ·obtain ⟨h1, h2⟩ := hs
    have h3 : (Ar fuel 2 (r.drop (off + p + 1))).2 = [] := by
     rw [h2]
     cases fuel with
     | zero => rfl
     | succ f => rfl
    rw [h1, h3]
    have e : E1 [r.take (off + p)] [] = [r.take (off + p) ++ [45]] := by simp [E1]
    rw [e]
    exact ⟨fun _ => by simp [CU], by simp [Ha]⟩
   ·have ih := FT fuel 2 (r.drop (off + p + 1)) hlen (by decide) (fun q1 q2 => hs ⟨q1, q2⟩)
    have ihT := ih.1 rfl
    have e : E1 (r.take (off + p) :: (Ar fuel 2 (r.drop (off + p + 1))).1) (Ar fuel 2 (r.drop (off + p + 1))).2 = r.take (off + p) :: E1 (Ar fuel 2 (r.drop (off + p + 1))).1 (Ar fuel 2 (r.drop (off + p + 1))).2 := by
     unfold E1
     split
     ·rename_i hrest
      cases hc : (Ar fuel 2 (r.drop (off + p + 1))).1 with
      | nil =>
       exfalso
       refine hs ⟨hc, ?_⟩
       cases fuel with
       | zero => exact absurd hlen (Nat.not_lt_zero _)
       | succ f =>
        unfold Ar at hc hrest
        cases hd2 : Gj ((r.drop (off + p + 1)).drop 2) with
        | none => rw [hd2] at hrest; exact hrest
        | some p2 => rw [hd2] at hc; cases hc
      | cons d t => simp
     ·rfl
    rw [e]
    refine ⟨fun ho2 => CU.cons (by rw [htl]; exact Nat.le_trans (Nat.le_of_eq ho2.symm) (Nat.le_add_right _ _)) ihT, ?_⟩
    cases hf : E1 (Ar fuel 2 (r.drop (off + p + 1))).1 (Ar fuel 2 (r.drop (off + p + 1))).2 with
    | nil => rw [hf] at ihT; exact ihT.elim
    | cons d t => rw [hf] at ihT; exact ⟨fun q => by have := congrArg List.length q; rw [htl] at this; simp at this; lia, ihT⟩
theorem FU : ∀ {cs : List (List Nat)}, CU cs → ∃ d t, AT cs = d :: t ∧ d ≠ []
 | [c], h => ⟨c, [], rfl, h⟩
 | c :: d :: t, h => by
  obtain ⟨d', t', e, hd'⟩ := FU h.2
  show ∃ x y, Dd c (AT (d :: t)) = x :: y ∧ x ≠ []
  rw [e]
  simp only [Dd]
  split
  ·refine ⟨_, _, rfl, fun q => ?_⟩
   have h1 := congrArg List.length q
   rw [List.length_append, List.length_dropLast] at h1
   have h2 := h.1
   simp only [List.length_nil] at h1
   lia
  ·exact ⟨_, _, rfl, fun q => by rw [q] at h; exact absurd h.1 (by simp)⟩
theorem IsL_plain {h : Heap} {a : Addr} {vs : List Value} (x : At h a (.list vs)) : ∃ o k, h.get? a = some o ∧ o = { cls := .type "list", data := .seq vs.toArray k } := by
 obtain ⟨o, e, n, rfl⟩ := x; exact ⟨_, n, e, rfl⟩
theorem Jy (x : List Nat) (a b : Nat) : cut x (some (a : Int)) (some (b : Int)) = (x.take b).drop a := by
 unfold cut
 have e1 : Eu (a : Int) x.length = min a x.length := Bb a _
 have e2 : Eu (b : Int) x.length = min b x.length := Bb b _
 simp only [e1, e2]
 rw [List.drop_take, List.drop_take]
 by_cases hb : b ≤ x.length
 ·rw [Nat.min_eq_left hb]
  by_cases ha : a ≤ x.length
  ·rw [Nat.min_eq_left ha]
  ·rw [Nat.min_eq_right (by exact Nat.le_of_lt (Nat.lt_of_not_le ha)), show b - x.length = 0 from by lia, show b - a = 0 from by lia]; rfl
 ·rw [Nat.min_eq_right (by lia)]
  by_cases ha : a ≤ x.length
  ·rw [Nat.min_eq_left ha, List.take_of_length_le (by rw [List.length_drop]; exact Nat.le_refl _), List.take_of_length_le (by rw [List.length_drop]; clear e2; lia)]
  ·rw [Nat.min_eq_right (by lia), List.drop_of_length_le (Nat.le_refl _), List.drop_of_length_le (by lia)]; simp
theorem occ_one (x : List Nat) (lo hi : Nat) (hh : hi ≤ x.length) : (match Builtin.Str.occurrences (S x) (S [45]) lo hi 1 with | i :: _ => (i : Int) | [] => -1) = match Gj ((x.take hi).drop lo) with | some p => ((lo + p : Nat) : Int) | none => -1 := by
 have hat : ∀ i, StrLaws.At (S x) (S [45]) hi i ↔ i < hi ∧ x[i]? = some 45 := fun i => by
  unfold StrLaws.At
  have e1 : (S [45] : PySem.Str).length = 1 := rfl
  rw [e1]
  have := StrLaws.subAt_one (S x) 45 i
  have e2 : (S [45] : PySem.Str) = ⟨#[45]⟩ := rfl
  rw [e2]
  constructor
  ·intro ⟨h1, h2⟩; exact ⟨by assumption, by simpa [S] using (this.mp ⟨Nat.le_trans (show i + 1 ≤ x.length by exact Nat.lt_of_lt_of_le (by assumption) (by assumption)) (Nat.le_of_eq (Bv x).symm), h2⟩)⟩
  ·intro ⟨h1, h2⟩; exact ⟨by assumption, (this.mpr (by simpa [S] using h2)).2⟩
 have hget : ∀ p, ((x.take hi).drop lo)[p]? = if lo + p < hi then x[lo + p]? else none := fun p => by
  rw [List.getElem?_drop, List.getElem?_take]
 rw [StrLaws.occ_eq]
 rcases StrLaws.occ_first (S x) (S [45]) hi 1 (Nat.le_refl 1) (List.range' lo (hi + 1 - lo)) lo (fun i hi => by have := List.mem_range'_1.mp hi; exact this.1) with ⟨h0, hn⟩ | ⟨pre, a, post, e, h0, ha, hn⟩
 ·rw [h0]
  have : Gj ((x.take hi).drop lo) = none := by
   rw [FS]
   intro hm
   obtain ⟨p, hp, e⟩ := List.getElem_of_mem hm
   have hp2 := List.getElem?_eq_getElem hp
   rw [hget, e] at hp2
   split at hp2
   ·rename_i hlt
    exact hn (lo + p) (List.mem_range'_1.mpr ⟨by simp, by clear hh hp e; omega⟩) ((hat _).mpr ⟨hlt, hp2⟩)
   ·cases hp2
  rw [this]
 ·have hs := StrLaws.range'_split_from e
  have ha' := (hat a).mp ha
  have hd : Gj ((x.take hi).drop lo) = some (a - lo) := by
   rw [Dv]
   refine ⟨?_, fun q hq => ?_⟩
   ·rw [hget, show lo + (a - lo) = a from by lia, if_pos ha'.1]; exact ha'.2
   ·rw [hget, if_pos (by clear hh hs; omega)]
    intro h45
    exact hn (lo + q) (hs.2 _ (by exact Nat.le_add_right _ _) (by clear hh hs ha'; omega)) ((hat _).mpr ⟨by lia, h45⟩)
  rw [hd]
  generalize (forIn (List.range' lo (hi + 1 - lo)) ((#[] : Array Nat), lo) (StrLaws.occBody (S x) (S [45]) hi 1)).run.fst = arr at h0
  have h1 : arr.toList[0]? = some a := by simpa using h0
  cases hL : arr.toList with
  | nil => rw [hL] at h1; cases h1
  | cons b t =>
   rw [hL] at h1
   simp at h1
   subst h1
   show (b : Int) = ((lo + (b - lo) : Nat) : Int)
   rw [show lo + (b - lo) = b from by lia]
theorem Jz (x y : PySem.Str) (i j : Nat) (t u v w : Tok) : Gives (Builtin.«str.find» ⟨[.str x t, .str y u, .int (i : Nat) v, .int (j : Nat) w], []⟩) (.int (match Builtin.Str.occurrences x y i (min j x.length) 1 with | k :: _ => (k : Int) | [] => -1)) := by
 show Gives (match Builtin.Str.occurrences x y (fromIndex x.length i) (min (fromIndex x.length j) x.length) 1 with | k :: _ => retInt k | [] => (do rule "str.find.not-found"; retInt (-1))) _
 have e : ∀ k : Nat, fromIndex x.length (k : Int) = k := fun k => by unfold fromIndex; split <;> lia
 rw [e, e]
 cases Builtin.Str.occurrences x y i (min j x.length) 1 with
 | nil => exact .rule (.of_eq rfl)
 | cons k _ => exact .of_eq rfl
section
variable {c : Cx} {L : Addr} {n : Nat} {σ : St} {α β : Type} {e : Env} {l l' : Loc} {m m' f q : Led}
theorem V_find4 {x : List Nat} {i j : Nat} {t u v w : Tok} {Q : Value → St → Prop} (hj : j ≤ x.length) (h : ∀ t', Q (.int (match Gj ((x.take j).drop i) with | some p => ((i + p : Nat) : Int) | none => -1) t') σ) :
  V c L n (call (.builtin "str.find") [.str (S x) t, .str (S [45]) u, .int (i : Nat) v, .int (j : Nat) w]) Q σ :=
 fun A B s hr hb ho hg => by
  refine call_gives F.slot_str_find (typeIs_str _ _ _) F.entry_str_find (F.args_str_find_4 _ _ _ _) (Jz (S x) (S [45]) i j t u v w) ?_
  rw [Bv, Nat.min_eq_left hj, occ_one x i j hj]
  exact ⟨hg, rfl, σ, ho, h _⟩
theorem Mf {a : Addr} {vs : List Value} {k : Nat} {u : Tok} {Q : Unit → St → Prop} (hu : Upd m a (.list vs) (.list (vs.eraseIdx k)) m') (hk : k < vs.length) (hl : vs.length ≤ 1000) (h : Q () ⟨l, m', f, q⟩) : V c L n (delItem (.ref a) (.int (k : Nat) u)) Q ⟨l, m, f, q⟩ :=
 fun A B s hr hb ho hg => wpAny_delItem_plain (ho.has (.inl hu.mem)).plain (by simp [Builtin.List.listFitsIndex]; lia) (seqIndex_of (by simp) (by rw [List.size_toArray]; exact Int.ofNat_lt.mpr hk))
  (fun h' hp hs => ⟨hg, rfl, _, ho.setMut hu (At.ofPlain (by
   have e : (vs.toArray.eraseIdxIfInBounds ((k : Int)).toNat) = (vs.eraseIdx k).toArray := by
    rw [Int.toNat_natCast]; simp [Array.eraseIdxIfInBounds, hk]
   rw [e] at hp; exact hp)) hs.extBut, h⟩) (by rw [List.size_toArray, sizeLine_eq]; exact Nat.le_trans (by assumption) (by decide))
end
section
variable {prog : Program} {w : World} {A : Around} {E : Value → Shared → Prop} {s : Shared}
theorem HT (xs : Array Value) (k j : Nat) (v : Value) : Obj.mapSeq (·.setIfInBounds j v) { cls := .type "list", data := .seq xs k } = { cls := .type "list", data := .seq (xs.setIfInBounds j v) (k + if (xs.setIfInBounds j v).size == xs.size then 0 else 1) } ∨ ∃ k', Obj.mapSeq (·.setIfInBounds j v) { cls := .type "list", data := .seq xs k } = { cls := .type "list", data := .seq (xs.setIfInBounds j v) k' } := by
 refine .inr ?_
 unfold Obj.mapSeq
 exact ⟨_, rfl⟩
theorem JA {a : Addr} {xs : Array Value} {n : Nat} {k : Int} {t : Tok} {v : Value} {Q : Unit → Shared → Prop} (ho : s.heap.get? a = some { cls := .type "list", data := .seq xs n })
  (h0 : k < 0) (h1 : -(xs.size : Int) ≤ k) (hfit : -(2 ^ 63) ≤ k)
  (hQ : ∀ h', h'.PlainList a (xs.setIfInBounds (k + xs.size).toNat v) → Heap.SameBut a s.heap h' → Q () { s with heap := h' }) : wpAny (model prog w) A (setItem (.ref a) (.int k t) v) Q E s := by
 have hT : s.TypeIs (.ref a) "list" := ⟨_, ho, rfl⟩
 unfold setItem
 try with_reducible refine wpAny_holding ?_
 first | refine wpAny_bind (wpAny_pure ?_) | skip
 refine wpAny_bind (wpAny_sequenceKey hT (by decide) ?_)
 refine wpAny_bind (wpAny_callSpecial?_slot (name := ofString "__setitem__") hT slot_list_setitem
  (wpAny_call_entry slot_list_setitem hT entry_list_setitem ?_ (args_list_setitem _ _ _)))
 show wpAny _ _ (Builtin.List.listSubscript? (.int k t) >>= _) _ _ s
 refine wpAny_bind (wpAny_listSubscript_int (fitsIndex_neg h0 hfit) ?_)
 clear hfit
 have hidx := seqIndex_neg h0 h1
 have hx : xs[(k + xs.size).toNat]? = some (xs[(k + xs.size).toNat]'(by lia)) := Array.getElem?_eq_getElem _
 obtain ⟨j, rfl⟩ : ∃ j : Nat, k = Int.negSucc j := by
  cases k with
  | ofNat n => exact absurd h0 (Int.not_lt.mpr (Int.natCast_nonneg n))
  | negSucc n => exact ⟨n, rfl⟩
 show wpAny _ _ ((Builtin.List.listItems (.ref a) >>= fun xs => pure ((seqIndex? (Int.negSucc j) xs.size).bind fun i => xs[i]?.map (i, ·))) >>= _) _ _ s
 refine wpAny_bind (wpAny_bind ?_)
 show wpAny _ _ (seqItems? (.ref a) >>= _) _ _ s
 refine wpAny_bind (wpAny_seqItems ho rfl (wpAny_pure (wpAny_pure ?_)))
 simp only [Option.getD_some]
 rw [hidx]
 simp only [Option.bind_some, hx, Option.map_some]
 show wpAny _ _ (setSeqItemAt a _ v >>= _) _ _ s
 have hfin : (s.heap.update a (Obj.mapSeq (·.setIfInBounds (Int.negSucc j + xs.size).toNat v))).PlainList a (xs.setIfInBounds (Int.negSucc j + xs.size).toNat v) := by
  rcases HT xs n (Int.negSucc j + xs.size).toNat v with e | ⟨k', e⟩
  ·exact ⟨_, by rw [Heap.get?_update_self _ ho (by rw [e]; rfl), e]⟩
  ·exact ⟨_, by rw [Heap.get?_update_self _ ho (by rw [e]; rfl), e]⟩
 refine wpAny_bind (wpAny_setSeqItemAt ho rfl ?_)
 first
  | exact wpAny_bind (wpAny_pure (wpAny_pure ⟨.none, rfl, wpAny_pure (hQ _ hfin (Heap.SameBut.update ..))⟩))
  | exact wpAny_pure ⟨.none, rfl, wpAny_pure (hQ _ hfin (Heap.SameBut.update ..))⟩
theorem JB {a : Addr} {xs : Array Value} {n : Nat} {k : Int} {t : Tok} {v : Value} {Q : Unit → Shared → Prop} (ho : s.heap.get? a = some { cls := .type "list", data := .seq xs n })
  (h0 : 0 ≤ k) (hj : k < xs.size) (hfit : k < 2 ^ 63)
  (hQ : ∀ h', h'.PlainList a (xs.setIfInBounds k.toNat v) → Heap.SameBut a s.heap h' → Q () { s with heap := h' }) : wpAny (model prog w) A (setItem (.ref a) (.int k t) v) Q E s := by
 have hT : s.TypeIs (.ref a) "list" := ⟨_, ho, rfl⟩
 unfold setItem
 try with_reducible refine wpAny_holding ?_
 first | refine wpAny_bind (wpAny_pure ?_) | skip
 refine wpAny_bind (wpAny_sequenceKey hT (by decide) ?_)
 refine wpAny_bind (wpAny_callSpecial?_slot (name := ofString "__setitem__") hT slot_list_setitem
  (wpAny_call_entry slot_list_setitem hT entry_list_setitem ?_ (args_list_setitem _ _ _)))
 show wpAny _ _ (Builtin.List.listSubscript? (.int k t) >>= _) _ _ s
 refine wpAny_bind (wpAny_listSubscript_int (fitsIndex_of h0 hfit) ?_)
 clear hfit
 obtain ⟨k, rfl⟩ := Int.eq_ofNat_of_zero_le h0
 have hj : k < xs.size := by lia
 have hx' : xs[k]? = some xs[k] := Array.getElem?_eq_getElem hj
 show wpAny _ _ ((seqItemAt a k >>= fun r => pure (r.map (k, ·))) >>= _) _ _ s
 refine wpAny_bind (wpAny_bind (wpAny_seqItemAt ho rfl (wpAny_pure ?_)))
 rw [hx']
 show wpAny _ _ (setSeqItemAt a k v >>= _) _ _ s
 have hfin : (s.heap.update a (Obj.mapSeq (·.setIfInBounds k v))).PlainList a (xs.setIfInBounds k v) := by
  rcases HT xs n k v with e | ⟨k', e⟩
  ·exact ⟨_, by rw [Heap.get?_update_self _ ho (by rw [e]; rfl), e]⟩
  ·exact ⟨_, by rw [Heap.get?_update_self _ ho (by rw [e]; rfl), e]⟩
 refine wpAny_bind (wpAny_setSeqItemAt ho rfl ?_)
 first
  | exact wpAny_bind (wpAny_pure (wpAny_pure ⟨.none, rfl, wpAny_pure (hQ _ hfin (Heap.SameBut.update ..))⟩))
  | exact wpAny_pure ⟨.none, rfl, wpAny_pure (hQ _ hfin (Heap.SameBut.update ..))⟩
end
section
variable {c : Cx} {L : Addr} {n : Nat} {σ : St} {α β : Type} {e : Env} {l l' : Loc} {m m' f q : Led}
theorem Hb {a : Addr} {vs : List Value} {k : Nat} {u : Tok} {v : Value} {Q : Unit → St → Prop} (hu : Upd m a (.list vs) (.list (vs.set k v)) m') (hk : k < vs.length) (hl : vs.length ≤ 1000) (h : Q () ⟨l, m', f, q⟩) : V c L n (setItem (.ref a) (.int (k : Nat) u) v) Q ⟨l, m, f, q⟩ :=
 fun A B s hr hb ho hg => by
  obtain ⟨o, e1, k', rfl⟩ := ho.has (.inl hu.mem)
  exact JB e1 (by simp) (by rw [List.size_toArray]; exact Int.ofNat_lt.mpr hk) (by lia) fun h' hp hs => ⟨hg, rfl, _, ho.setMut hu (At.ofPlain (by simpa using hp)) hs.extBut, h⟩
theorem DQ {a : Addr} {vs : List Value} {u : Tok} {v : Value} {Q : Unit → St → Prop} (hu : Upd m a (.list vs) (.list (vs.dropLast ++ [v])) m') (hne : vs ≠ []) (hl : vs.length ≤ 1000) (h : Q () ⟨l, m', f, q⟩) : V c L n (setItem (.ref a) (.int (-1) u) v) Q ⟨l, m, f, q⟩ :=
 fun A B s hr hb ho hg => by
  obtain ⟨o, e1, k', rfl⟩ := ho.has (.inl hu.mem)
  have hlen : 0 < vs.length := List.length_pos_iff.mpr hne
  refine JA e1 (by decide) (by rw [List.size_toArray]; lia) (by decide) fun h' hp hs => ⟨hg, rfl, _, ho.setMut hu (At.ofPlain ?_) hs.extBut, h⟩
  have e2 : (vs.toArray.setIfInBounds (-1 + (vs.toArray.size : Int)).toNat v) = (vs.dropLast ++ [v]).toArray := by
   have e3 : (-1 + (vs.toArray.size : Int)).toNat = vs.length - 1 := by rw [List.size_toArray]; lia
   rw [e3]
   simp only [List.setIfInBounds_toArray]
   congr 1
   apply List.ext_getElem?
   intro i
   rw [List.getElem?_set]
   by_cases hi : vs.length - 1 = i
   ·subst hi
    rw [if_pos rfl, if_pos (by clear hl e3; omega), List.getElem?_append_right (by rw [List.length_dropLast]; exact Nat.le_refl _), List.length_dropLast, Nat.sub_self]; rfl
   ·rw [if_neg hi]
    by_cases h2 : i < vs.length - 1
    ·rw [List.getElem?_append_left (by rw [List.length_dropLast]; exact h2), List.getElem?_dropLast, if_pos h2]
    ·rw [List.getElem?_eq_none (by clear e3; lia), List.getElem?_eq_none (by rw [List.length_append, List.length_dropLast]; simp; clear e3; lia)]
  rw [e2] at hp; exact hp
end
noncomputable def W0 {α : Type} (c : Cx) (P L : Addr) (n : Nat) (t : Sem α) (Q : α → St → Prop) (σ : St) : Prop :=
 ∀ A B s o, Rm n A → InB c B → B.pm P = none → NL o → Own (B.add P o) L σ s.heap → AllBare s.gens →
  wpAny (model c.prog c.w) A t (fun v s' => PW B P L s.os (Q v) s') No s
theorem K9 {c : Cx} {P L : Addr} {n : Nat} {σ : St} {e : Env} {KL : List (PySem.Str × NameKind)} {CL : List (PySem.Str × Addr)} {x : PySem.Str} {p' : Pos} {value : Expr} {pos : Pos} {rest : List Stmt} {Q : Flow → St → Prop} (hk : Ag e L KL CL) (hx : (x, NameKind.local) ∈ KL)
  (h : V c L n (eval value e) (fun v σ' => ∃ l', Hl σ'.loc x v l' ∧ W c P L n (execs rest e) Q { σ' with loc := l' }) σ)
  (hs : swapsWith value (some (.Name x p')) pos.line e = pure false := by with_unfolding_all (intros; rfl)) : W0 c P L n (execs (.Assign [.Name x p'] value pos :: rest) e) Q σ :=
 fun _ _ _ _ hr hb hP hT ho hg => W_first hk hx h hs hr hb hP hT ho hg
noncomputable def Ka (c : Cx) (P : Addr) (n : Nat) (fn : Value) (vs : List Value) (fz : Led) (post : Value → Led → Prop) : Prop :=
 ∀ A (s : Shared) o, Rm n A → (∀ a o, c.b.get? a = some o → s.heap.get? a = some o) → c.b.get? P = none → s.heap.get? P = some o → NL o → (∀ p ∈ fz, At s.heap p.1 p.2 ∧ p.1 ≠ P) → AllBare s.gens →
  wpAny (model c.prog c.w) A (call fn vs) (fun v s' => PSW s.heap P s.os (post v) s') No s
theorem Ka.toW {c : Cx} {P : Addr} {n : Nat} {fn : Value} {vs : List Value} {fz : Led} {post : Value → Led → Prop} (h : Ka c P n fn vs fz post) : HO c P n fn vs fz post := fun A s o h1 h2 h3 h4 h5 h6 h7 _ => h A s o h1 h2 h3 h4 h5 h6 h7
section
variable {c : Cx} {n : Nat}
theorem HU {P a : Addr} {name : PySem.Str} {ps : List PySem.Str} {body : List Stmt} {scope : Scope} {vs : List Value} {fz : Led} {post : Value → Led → Prop} (hc : c.Ok) (F : D0 c a name ps body scope)
  {KL : List (PySem.Str × NameKind)} (hKL : scope.names = KL) (hk : scope.kind = .function) (hco : scope.isCoroutine = false) (hge : scope.isGenerator = false)
  (hKn : (KL.map (·.1)).Nodup) (hps : ps.Nodup) (hlen : ps.length = vs.length)
  (hpk : ∀ x ∈ ps, KL.lookup x = some .local ∨ KL.lookup x = some .cell)
  (h : ∀ L e, Ag e L KL (cellsFrom (L + 1) KL []) → (∀ o fd, c.b.get? a = some o → o.data = .func fd → e.code = fd.code ∧ e.qual = fd.qualname ++ ".<locals>.") →
   W0 c P L n (execs body e) (Ret post) ⟨Dn KL (ps.zip vs), Do (ps.zip vs) (cellsFrom (L + 1) KL []), [], fz⟩)   : Ka c P (n + 1) (.ref a) vs fz post := by
 refine Ae (fun G_ hG_ => ?_)
 obtain ⟨o, fd, ho, hd, h1, h6, h7, h8, h9, h10, h11, h12, h13⟩ := F.at'
 refine hG_ ?_
 clear hG_ G_
 intro A s oP hr hb hPb hPs hPT hf hg
 have hbn : ((ps.zip vs).map (·.1)) = ps := by rw [List.map_fst_zip]; exact Nat.le_of_eq hlen
 have hcells : ∀ x k, KL.lookup x = some .cell → ((cellsFrom k KL []).lookup x).isSome = true := fun x k hx => cellsFrom_some KL k [] (.inl hx)
 subst hKL
 refine wpAny_call (codeAny_call_cells (o := o) (fd := fd) (body := body) (binds := ps.zip vs) hr.room (hb _ _ ho) hd (hc.lim.keeps hb) (h13.keeps hb) h6 ?_ h8 ?_ (fun s₁ x => ?_) (h7 ▸ hco) (h7 ▸ hge) (h7 ▸ hk))
 ·exact h1 vs hlen.symm
 ·intro y hy
  rw [h7]
  have hm : y.1 ∈ ps := by rw [← hbn]; exact List.mem_map_of_mem hy
  exact (hpk _ hm).imp id fun q => ⟨q, hcells _ _ q⟩
 ·have hkind : (callEnvC fd s.heap.objs.size a).kindOf = fun x => scope.names.lookup x := by
   funext y
   show fd.scope.names.lookup y = _
   rw [h7]
  have hcl : (callEnvC fd s.heap.objs.size a).cells = cellsFrom (s.heap.objs.size + 1) scope.names [] := by
   show cellsFrom (s.heap.objs.size + 1) fd.scope.names [] = _
   rw [h7]
  have hlo : (callEnvC fd s.heap.objs.size a).locals = s.heap.objs.size := rfl
  generalize he : callEnvC fd s.heap.objs.size a = e at x hkind hcl hlo ⊢
  have hE : Ag e s.heap.objs.size scope.names (cellsFrom (s.heap.objs.size + 1) scope.names []) := by
   refine ⟨by rw [← he]; show fd.scope.kind = _; rw [h7]; exact hk, hlo, by rw [← he]; exact h9, by rw [← he]; exact h10, fun y k hy => by rw [hkind]; exact AU hKn hy, fun y b hy => ?_⟩
   rw [hcl]
   exact AU (Bp hKn) hy
  have hx := x
  obtain ⟨h', tk, rfl, hkeep⟩ := x.done
  obtain ⟨B, hB⟩ : ∃ B : PM, B = ⟨fun b => if b = P then none else s.heap.get? b, [], fun _ q => nomatch q⟩ := ⟨_, rfl⟩
  have hBP : B.pm P = none := by rw [hB]; exact if_pos rfl
  have hPlt : P < s.heap.objs.size := Heap.lt_size hPs
  have hpm : ∀ (o' : Obj) b ob, (B.add P o').pm b = some ob → b = P ∧ ob = o' ∨ b ≠ P ∧ s.heap.get? b = some ob := fun o' b ob q => by
   by_cases z : b = P
   ·left
    have : (B.add P o').pm b = some o' := if_pos z
    rw [this] at q; exact ⟨z, (Option.some.inj q).symm⟩
   ·right
    have e1 : (B.add P o').pm b = B.pm b := if_neg z
    rw [e1, hB] at q
    have e2 : (if b = P then none else s.heap.get? b) = some ob := q
    rw [if_neg z] at e2
    exact ⟨z, e2⟩
  have hbB : InB c B := fun b ob q => by
   rw [hB]
   show (if b = P then none else s.heap.get? b) = some ob
   rw [if_neg (fun z => by rw [z, hPb] at q; cases q)]
   exact hb b ob q
  have hO : Own (B.add P oP) s.heap.objs.size ⟨Dn scope.names (ps.zip vs), Do (ps.zip vs) (cellsFrom (s.heap.objs.size + 1) scope.names []), [], fz⟩ h' := by
   have nl : ∀ b, s.heap.objs.size ≤ b → (B.add P oP).pm b = none := fun b hb' => by
    have z : b ≠ P := fun z => by rw [z] at hb'; exact absurd hPlt (Nat.not_lt.mpr hb')
    have e1 : (B.add P oP).pm b = B.pm b := if_neg z
    rw [e1, hB]
    show (if b = P then none else s.heap.get? b) = none
    rw [if_neg z]; exact Heap.get?_none_of_le hb'
   refine ⟨fun b ob q => ?_, ?_, List.Nodup.sublist (Ch _ _) hKn, nl _ (Nat.le_refl _), fun p hp => ?_, ?_, (fun p hp => nomatch hp), fun p hp => ?_⟩
   ·rcases hpm oP b ob q with ⟨rfl, rfl⟩ | ⟨_, q2⟩
    ·exact hkeep _ _ hPs
    ·exact hkeep _ _ q2
   ·have := x.toInCall.ns
    rw [hlo, hkind] at this
    have e2 : lk (Dn scope.names (ps.zip vs)) = bindL (fun x => scope.names.lookup x) (ps.zip vs) fun _ => none := by
     funext y
     rw [Fd _ _ _ hKn, GU _ _ _ _ (by rw [hbn]; exact hps)]
     simp
    rw [e2]; exact this
   ·obtain ⟨⟨y, b⟩, hy, rfl⟩ := List.mem_map.mp hp
    have hlk := AU (Bp hKn) hy
    have hcell := x.cell y b (by rw [hcl]; exact hlk)
    have habove := x.above y b (by rw [hcl]; exact hy)
    rw [hlo] at habove
    have e3 : bindC e.kindOf (ps.zip vs) (fun _ => none) y = (ps.zip vs).lookup y := by
     rw [hkind, GV _ _ _ _ (by rw [hbn]; exact hps)]
     have := DK hKn hlk
     rw [this]; simp
    rw [e3] at hcell
    exact ⟨hcell, nl _ (Nat.le_of_lt habove), habove⟩
   ·have e4 : (Do (ps.zip vs) (cellsFrom (s.heap.objs.size + 1) scope.names [])).map (·.1) = (cellsFrom (s.heap.objs.size + 1) scope.names []).map (·.2) := by
     rw [Do, List.map_map]; rfl
    show (List.map (·.1) (Do _ _)).Nodup
    rw [e4]
    have := x.apart
    rw [hcl] at this
    exact List.pairwise_map.mpr this
   ·refine ⟨(hf p hp).1.mono fun o => hkeep _ o, Nat.ne_of_lt (hf p hp).1.lt, fun q => ?_, fun q => ?_⟩
    ·refine Ae (fun G_ hG_ => ?_)
     obtain ⟨r, hr, e⟩ := List.mem_map.mp q
     obtain ⟨⟨y, b⟩, hy, rfl⟩ := List.mem_map.mp hr
     refine hG_ ?_
     clear hG_ G_
     have habove := x.above y b (by rw [hcl]; exact hy)
     have e' : b = p.1 := e
     rw [e', hlo] at habove
     exact Nat.lt_irrefl _ (Nat.lt_trans habove (hf p hp).1.lt)
    ·have hBh : B.hid = [] := by rw [hB]
     rcases List.mem_cons.mp q with z | z
     ·exact (hf p hp).2 z
     ·rw [hBh] at z; cases z
  have := h s.heap.objs.size e hE (fun o' fd' q1 q2 => by rw [ho] at q1; cases q1; rw [hd] at q2; cases q2; rw [← he]; exact ⟨rfl, rfl⟩) (A.deeper e) B { s with heap := h', toks := tk } oP hr.deeper hbB hBP hPT hO hg
  refine wpAny_mono this (fun fl s₂ hp => ?_) fun _ _ q => q.elim
  refine Ae (fun G_ hG_ => ?_)
  obtain ⟨hg₂, hos, σ', o', hT', hw, v, nz, rfl, hpost, hnz⟩ := hp
  refine hG_ ?_
  clear hG_ G_
  refine ⟨hg₂, hos, fun b ob hbP q => hw.sub b ob ?_, ⟨o', hw.at_hid.1, hT'⟩, nz, fun p hp => ?_, hpost⟩
  ·have e1 : (B.add P o').pm b = B.pm b := if_neg hbP
   rw [e1, hB]
   show (if b = P then none else s.heap.get? b) = some ob
   rw [if_neg hbP]; exact q
  ·rcases hnz p hp with q | q
   ·exact ⟨Nat.le_of_lt (hw.fz p q).2.1, (hw.fz p q).1⟩
   ·exact ⟨Nat.le_of_lt (hw.mu p q).2.2, (hw.mu p q).1⟩
theorem NR {P a : Addr} {name : PySem.Str} {ps : List PySem.Str} {body : List Stmt} {scope : Scope} {vs : List Value} {fz : Led} {post : Value → Led → Prop} (hc : c.Ok) (F : D0 c a name ps body scope)
  {KL : List (PySem.Str × NameKind)} (hKL : scope.names = KL) (hk : scope.kind = .function) (hco : scope.isCoroutine = false) (hge : scope.isGenerator = false)
  (hKn : (KL.map (·.1)).Nodup) (hps : ps.Nodup) (hlen : ps.length = vs.length)
  (hpk : ∀ x ∈ ps, KL.lookup x = some .local ∨ KL.lookup x = some .cell)
  (h : ∀ L e, Ag e L KL (cellsFrom (L + 1) KL []) → (∀ o fd, c.b.get? a = some o → o.data = .func fd → e.code = fd.code ∧ e.qual = fd.qualname ++ ".<locals>.") →
   W0 c P L n (execs body e) (Ret post) ⟨Dn KL (ps.zip vs), Do (ps.zip vs) (cellsFrom (L + 1) KL []), [], fz⟩)   : HO c P (n + 1) (.ref a) vs fz post :=
 (HU hc F hKL hk hco hge hKn hps hlen hpk h).toW
end
noncomputable def DR (xs : List (List Nat)) : Nat := (xs.map List.length).sum
theorem BO (x : List Nat) (r : List (List Nat)) : DR (x :: r) = x.length + DR r := by simp [DR]
theorem Cp (a b : List (List Nat)) : DR (a ++ b) = DR a + DR b := by simp [DR]
theorem Fk {xs : List (List Nat)} {x : List Nat} (h : x ∈ xs) : x.length ≤ DR xs := by
 induction xs with
 | nil => cases h
 | cons y r ih =>
  rw [BO]
  rcases List.mem_cons.mp h with rfl | h
  ·simp
  ·have := ih h; exact Nat.le_trans this (Nat.le_add_left _ _)
theorem EK : ∀ (fuel off : Nat) (r : List Nat), DR (Ar fuel off r).1 + (Ar fuel off r).2.length ≤ r.length ∧ (Ar fuel off r).1.length ≤ r.length
 | 0, off, r => by simp [Ar, DR]
 | fuel + 1, off, r => by
  unfold Ar
  cases hd : Gj (r.drop off) with
  | none => simp [DR]
  | some p =>
   have hlt := Jx hd
   rw [List.length_drop] at hlt
   have ih := EK fuel 2 (r.drop (off + p + 1))
   rw [List.length_drop] at ih
   simp only [BO, List.length_cons, List.length_take]
   omega
theorem NS (cs : List (List Nat)) (rest : List Nat) : DR (E1 cs rest) ≤ DR cs + rest.length + 1 := by
 unfold E1
 split
 ·rw [Cp]
  rcases List.eq_nil_or_concat cs with h | ⟨l, a, h⟩
  ·subst h; simp [DR]
  ·rw [List.concat_eq_append] at h
   subst h
   rw [List.dropLast_concat, Cp]
   simp [DR]; lia
 ·rw [Cp]; simp [DR]
theorem NT (cs : List (List Nat)) (rest : List Nat) : (E1 cs rest).length ≤ cs.length + 1 := by
 unfold E1
 split
 ·rw [List.length_append, List.length_dropLast, List.length_cons, List.length_nil]; simp
 ·simp
theorem Mg (c : List Nat) (l : List (List Nat)) : DR (Dd c l) ≤ c.length + DR l := by
 cases l with
 | nil => simp [Dd, DR]
 | cons d t =>
  simp only [Dd]
  split
  ·rw [BO, BO, List.length_append, List.length_dropLast, List.length_tail]; omega
  ·rw [BO]; exact Nat.le_refl _
theorem Mh (c : List Nat) (l : List (List Nat)) : (Dd c l).length ≤ l.length + 1 := by
 cases l with
 | nil => simp [Dd]
 | cons d t =>
  simp only [Dd]
  split <;> simp
theorem DC : ∀ cs : List (List Nat), DR (AT cs) ≤ DR cs
 | [] => Nat.le_refl _
 | c :: r => by
  have h1 := Mg c (AT r)
  have h2 := DC r
  rw [BO]
  show DR (Dd c (AT r)) ≤ _
  lia
theorem DD : ∀ cs : List (List Nat), (AT cs).length ≤ cs.length
 | [] => Nat.le_refl _
 | c :: r => by
  have h1 := Mh c (AT r)
  have h2 := DD r
  show (Dd c (AT r)).length ≤ _
  rw [List.length_cons]; lia
theorem CU.drop : ∀ {cs : List (List Nat)} (k : Nat), CU cs → k < cs.length → CU (cs.drop k)
 | cs, 0, h, _ => by rw [List.drop_zero]; exact h
 | [], k + 1, h, _ => h.elim
 | [c], k + 1, h, hk => absurd hk (by simp)
 | c :: d :: t, k + 1, h, hk => CU.drop k h.2 (by simpa using hk)
theorem Ha.drop {cs : List (List Nat)} (k : Nat) (h : Ha cs) (hk : k + 1 < cs.length) : CU (cs.drop (k + 1)) := by
 match cs, h with
 | [c], h => exact absurd hk (by simp)
 | c :: d :: t, h => exact CU.drop k h.2 (by simpa using hk)
theorem CU.ne : ∀ {cs : List (List Nat)} {c : List Nat}, CU cs → c ∈ cs → c ≠ []
 | [], c, h, _ => h.elim
 | [d], c, h, hc => by rw [List.mem_singleton.mp hc]; exact h
 | d :: e :: t, c, h, hc => by
  rcases List.mem_cons.mp hc with rfl | hc
  ·intro q; rw [q] at h; exact absurd h.1 (by simp)
  ·exact CU.ne h.2 hc
theorem Ha.ne {cs : List (List Nat)} {c : List Nat} (h : Ha cs) (hc : c ∈ cs) : c ≠ [] := by
 match cs, h with
 | [d], h => rw [List.mem_singleton.mp hc]; exact h
 | d :: e :: t, h =>
  rcases List.mem_cons.mp hc with rfl | hc
  ·exact h.1
  ·exact h.2.ne hc
theorem JD {r : List Nat} (hr : 45 ∈ r) : Ha (B6 r) := by
 unfold B6
 refine (FT (r.length + 1) (De r) r (Nat.lt_succ_self _) (by unfold De; split <;> decide) (fun _ => fun q => ?_)).2
 rw [q] at hr; cases hr
theorem GD (r : List Nat) : DR (B6 r) ≤ r.length + 1 ∧ (B6 r).length ≤ r.length + 1 := by
 unfold B6
 have h1 := EK (r.length + 1) (De r) r
 have h2 := NS (Ar (r.length + 1) (De r) r).1 (Ar (r.length + 1) (De r) r).2
 have h3 := NT (Ar (r.length + 1) (De r) r).1 (Ar (r.length + 1) (De r) r).2
 lia
theorem KY {cs : List (List Nat)} {k : Nat} (hk : k + 1 < cs.length) (h : Ha cs) : ∃ c d t, cs[k]? = some c ∧ c ≠ [] ∧ AT (cs.drop (k + 1)) = d :: t ∧ d ≠ [] ∧ AT (cs.drop k) = Dd c (d :: t) := by
 have hkl : k < cs.length := by exact Nat.le_of_lt (by assumption)
 obtain ⟨d, t, e, hd⟩ := FU (h.drop k hk)
 refine ⟨cs[k], d, t, List.getElem?_eq_getElem hkl, h.ne (List.getElem_mem hkl), e, hd, ?_⟩
 rw [List.drop_eq_getElem_cons hkl]
 show Dd cs[k] (AT (cs.drop (k + 1))) = _
 rw [e]
theorem Kb {c : Nat} {z l : List Nat} {ch : Nat} (h : ch ∈ sb c z l) : ch ∈ z ∨ ch ∈ l := by
 obtain ⟨k, hk, hc⟩ := List.mem_flatMap.mp h
 split at hc
 ·exact .inl hc
 ·rw [List.mem_singleton.mp hc]; exact .inr hk
theorem HV {sep : List Nat} {ch : Nat} : ∀ {xs : List (List Nat)}, ch ∈ CR sep xs → ch ∈ sep ∨ ∃ x ∈ xs, ch ∈ x
 | [], h => nomatch h
 | [x], h => .inr ⟨x, List.mem_cons_self, h⟩
 | x :: y :: r, h => by
  have e : CR sep (x :: y :: r) = x ++ sep ++ CR sep (y :: r) := rfl
  rw [e, List.mem_append, List.mem_append] at h
  rcases h with (h | h) | h
  ·exact .inr ⟨x, List.mem_cons_self, h⟩
  ·exact .inl h
  ·rcases HV h with q | ⟨z, hz, hc⟩
   ·exact .inl q
   ·exact .inr ⟨z, List.mem_cons_of_mem _ hz, hc⟩
theorem HW {sep : List Nat} (hs : sep.length ≤ 1) : ∀ xs : List (List Nat), (CR sep xs).length ≤ DR xs + xs.length
 | [] => Nat.zero_le _
 | [x] => by simp [CR, DR]
 | x :: y :: r => by
  have ih := HW hs (y :: r)
  have e : CR sep (x :: y :: r) = x ++ sep ++ CR sep (y :: r) := rfl
  rw [e, List.length_append, List.length_append, BO, List.length_cons]
  lia
theorem Kc : ∀ xs : List (List Nat), DR (xs.map DG) ≤ 4 * DR xs
 | [] => Nat.zero_le _
 | x :: r => by
  have h1 := K8 x
  have h2 := Kc r
  rw [List.map_cons, BO, BO]; lia
noncomputable def KZ (p : Nat → Prop) (xs : List (List Nat)) : Prop := ∀ x ∈ xs, ∀ ch ∈ x, p ch
theorem KZ.cons {p : Nat → Prop} {x : List Nat} {xs : List (List Nat)} (h1 : ∀ ch ∈ x, p ch) (h : KZ p xs) : KZ p (x :: xs) := fun y hy => by
 rcases List.mem_cons.mp hy with rfl | hy
 ·exact h1
 ·exact h y hy
theorem EL {p : Nat → Prop} : ∀ (fuel off : Nat) (r : List Nat), (∀ ch ∈ r, p ch) → KZ p (Ar fuel off r).1 ∧ ∀ ch ∈ (Ar fuel off r).2, p ch
 | 0, off, r, h => ⟨(fun _ hy => nomatch hy), h⟩
 | fuel + 1, off, r, h => by
  unfold Ar
  cases hd : Gj (r.drop off) with
  | none => exact ⟨(fun _ hy => nomatch hy), h⟩
  | some q =>
   have ih := EL fuel 2 (r.drop (off + q + 1)) fun ch hc => h ch (List.mem_of_mem_drop hc)
   exact ⟨ih.1.cons fun ch hc => h ch (List.mem_of_mem_take hc), ih.2⟩
theorem NU {p : Nat → Prop} {cs : List (List Nat)} {rest : List Nat} (h1 : KZ p cs) (h2 : ∀ ch ∈ rest, p ch) (h45 : p 45) : KZ p (E1 cs rest) := by
 unfold E1
 intro x hx ch hc
 split at hx
 ·rcases List.mem_append.mp hx with hx | hx
  ·exact h1 x (List.dropLast_subset _ hx) ch hc
  ·rw [List.mem_singleton.mp hx] at hc
   rcases List.mem_append.mp hc with hc | hc
   ·cases hl : cs.getLast? with
    | none => rw [hl] at hc; cases hc
    | some a => rw [hl] at hc; exact h1 a (List.mem_of_getLast? hl) ch hc
   ·rw [List.mem_singleton.mp hc]; exact h45
 ·rcases List.mem_append.mp hx with hx | hx
  ·exact h1 x hx ch hc
  ·rw [List.mem_singleton.mp hx] at hc; exact h2 ch hc
theorem GE {p : Nat → Prop} : ∀ {cs : List (List Nat)}, KZ p cs → KZ p (AT cs)
 | [], h => h
 | c :: r, h => by
  have ih := GE (cs := r) fun x hx => h x (List.mem_cons_of_mem _ hx)
  have hc := h c List.mem_cons_self
  show KZ p (Dd c (AT r))
  cases hm : AT r with
  | nil => exact KZ.cons hc fun _ hy => nomatch hy
  | cons d t =>
   rw [hm] at ih
   simp only [Dd]
   split
   ·refine KZ.cons (fun ch hx => ?_) fun x hx => ih x (List.mem_cons_of_mem _ hx)
    rcases List.mem_append.mp hx with hx | hx
    ·exact hc ch (List.dropLast_subset _ hx)
    ·exact ih d List.mem_cons_self ch (List.mem_of_mem_tail hx)
   ·exact KZ.cons hc ih
theorem NV {r : List Nat} (h : ∀ ch ∈ r, Sg ch) : ∀ ch ∈ Bx r, Sg ch := by
 have h45 : Sg 45 := by unfold Sg; decide
 have h92 : Sg 92 := by unfold Sg; decide
 unfold Bx
 split
 ·intro ch hc
  have hall : KZ Sg (AT (B6 r)) := GE (NU (EL _ _ r h).1 (EL _ _ r h).2 h45)
  rcases HV hc with q | ⟨x, hx, hcx⟩
  ·rw [List.mem_singleton.mp q]; exact h45
  ·obtain ⟨y, hy, rfl⟩ := List.mem_map.mp hx
   rcases Kb hcx with q | q
   ·simp only [List.mem_cons, List.not_mem_nil, or_false] at q
    rcases q with rfl | rfl
    ·exact h92
    ·exact h45
   ·rcases Kb q with q | q
    ·simp only [List.mem_cons, List.not_mem_nil, or_false] at q
     rcases q with rfl | rfl <;> exact h92
    ·exact hall y hy ch q
 ·intro ch hc
  rcases Kb hc with q | q
  ·simp only [List.mem_cons, List.not_mem_nil, or_false] at q
   rcases q with rfl | rfl <;> exact h92
  ·exact h ch q
theorem HX {r : List Nat} (hr : r.length ≤ 195) : (Bx r).length ≤ 980 := by
 unfold Bx
 split
 ·have h1 := HW (sep := [45]) (Nat.le_refl _) ((AT (B6 r)).map DG)
  have h2 := Kc (AT (B6 r))
  have h3 := DC (B6 r)
  have h4 := DD (B6 r)
  have h5 := GD r
  rw [List.length_map] at h1
  lia
 ·have := HS 92 [92, 92] (Nat.le_refl _) r; lia
theorem HY {s : List Nat} (h : s.length ≤ 980) : (Cu s).length ≤ 1000 := by
 unfold Cu
 split
 ·simp
 ·split
  ·simp
  ·simp only [List.length_append, List.length_cons, List.length_nil]
   split
   ·simp; omega
   ·split
    ·simp; lia
    ·lia
theorem sg_tame {ch : Nat} (h : Sg ch) : N5 ch := by
 unfold Sg at h; unfold N5
 simp only [List.mem_cons, List.not_mem_nil, or_false] at h ⊢
 lia
noncomputable def ifBody : Stmt → List Stmt
 | .If _ b _ _ => b
 | _ => []
noncomputable def Kd : Stmt → List Stmt
 | .If _ _ b _ => b
 | _ => []
noncomputable def whBody : Stmt → List Stmt
 | .While _ b _ _ => b
 | _ => []
noncomputable def sAt (l : List Stmt) (i : Nat) : Stmt := match l[i]? with | some s => s | none => .Pass default
noncomputable def PE : List Stmt := ifBody (sAt (Kd (sAt (Kd (sAt (whBody (sAt (Av 6) 3)) 2)) 0)) 0)
noncomputable def Mi : List Stmt := Kd (sAt PE 4)
noncomputable def trKL : List (PySem.Str × NameKind) := [((ofString "pat"), .local), ((ofString "STAR"), .local), ((ofString "QUESTION_MARK"), .local), ((ofString "res"), .local), ((ofString "add"), .local), ((ofString "i"), .local), ((ofString "n"), .local), ((ofString "c"), .local), ((ofString "j"), .local), ((ofString "stuff"), .local), ((ofString "chunks"), .local), ((ofString "k"), .local), ((ofString "chunk"), .local), ((ofString "len"), .globalImplicit), ((ofString "range"), .globalImplicit), ((ofString "_twin_re_1"), .globalImplicit), ((ofString "escape"), .globalImplicit)]
section
variable {c : Cx} {n : Nat}
theorem br_head (hc : c.Ok) {P L : Addr} {e : Env} (he : Ag e L [((ofString "pat"), .local), ((ofString "STAR"), .local), ((ofString "QUESTION_MARK"), .local), ((ofString "res"), .local), ((ofString "add"), .local), ((ofString "i"), .local), ((ofString "n"), .local), ((ofString "c"), .local), ((ofString "j"), .local), ((ofString "stuff"), .local), ((ofString "chunks"), .local), ((ofString "k"), .local), ((ofString "chunk"), .local), ((ofString "len"), .globalImplicit), ((ofString "range"), .globalImplicit), ((ofString "_twin_re_1"), .globalImplicit), ((ofString "escape"), .globalImplicit)] [])
  {x rr : List Nat} {i : Nat} (hxr : ∀ p, p < rr.length → x[i + p]? = rr[p]?) (hend : x[i + rr.length]? = some 93) (hne : rr ≠ []) (hn1 : rr ≠ [33]) (hsg : ∀ ch ∈ rr, Sg ch) (hxl : x.length ≤ 2000)
  {t u u1 u2 : Tok} {star r b : Addr} {w1 w2 w3 w4 w5 w6 : Option Value} {vs : List Value} {ff : Led} {Q : Flow → St → Prop}
  (hQ : ∀ u3, W c P L 0 (execs Mi e) (fun f σ' => match f with | .next => W c P L 0 (execs [] e) Q σ' | f => Q f σ') ⟨[((ofString "pat"), some (.str (S x) t)), ((ofString "STAR"), some (.ref star)), ((ofString "QUESTION_MARK"), some (.str (S [91, 94, 45, 93]) u)), ((ofString "res"), some (.ref r)), ((ofString "add"), some (.ref b)), ((ofString "i"), some (.int (i : Nat) u1)), ((ofString "n"), some (.int (x.length : Nat) u2)), ((ofString "c"), w1), ((ofString "j"), some (.int ((i + rr.length : Nat) : Int) u3)), ((ofString "stuff"), w3), ((ofString "chunks"), w4), ((ofString "k"), w5), ((ofString "chunk"), w6)], [(r, .list vs)], ff, []⟩) :
  W c P L 0 (execs PE e) Q ⟨[((ofString "pat"), some (.str (S x) t)), ((ofString "STAR"), some (.ref star)), ((ofString "QUESTION_MARK"), some (.str (S [91, 94, 45, 93]) u)), ((ofString "res"), some (.ref r)), ((ofString "add"), some (.ref b)), ((ofString "i"), some (.int (i : Nat) u1)), ((ofString "n"), some (.int (x.length : Nat) u2)), ((ofString "c"), w1), ((ofString "j"), w2), ((ofString "stuff"), w3), ((ofString "chunks"), w4), ((ofString "k"), w5), ((ofString "chunk"), w6)], [(r, .list vs)], ff, []⟩ := by
 have hjl : i + rr.length < x.length := (List.getElem?_eq_some_iff.mp hend).1
 have hr0 : 0 < rr.length := List.length_pos_iff.mpr hne
 refine Cj (show ∃ ch0, rr[0]? = some ch0 from ⟨rr[0], List.getElem?_eq_getElem hr0⟩) (fun ch0 hch0 => ?_)
 have hxi : x[i]? = some ch0 := by have := hxr 0 hr0; rw [Nat.add_zero] at this; rw [this, hch0]
 have hi62 : i < 2 ^ 62 := by clear hr0; exact Nat.lt_trans (Nat.lt_of_lt_of_le (Nat.lt_of_le_of_lt (Nat.le_add_right _ _) hjl) hxl) (by decide)
 refine AN ?_
 with_reducible
  refine A3 ?_
  refine AJ (by assumption) (by tb_rel) (by tb_rel) ?_
  refine A8 (by assumption) (by tb_rel) (by top_caught) ?_
 refine AN ?_
 refine An (Q := fun f σ' => f = Flow.next ∧ ∃ (o1 : Nat) (u3 : Tok), o1 < rr.length ∧ σ' = ⟨[((ofString "pat"), some (.str (S x) t)), ((ofString "STAR"), some (.ref star)), ((ofString "QUESTION_MARK"), some (.str (S [91, 94, 45, 93]) u)), ((ofString "res"), some (.ref r)), ((ofString "add"), some (.ref b)), ((ofString "i"), some (.int (i : Nat) u1)), ((ofString "n"), some (.int (x.length : Nat) u2)), ((ofString "c"), w1), ((ofString "j"), some (.int ((i + o1 : Nat) : Int) u3)), ((ofString "stuff"), w3), ((ofString "chunks"), w4), ((ofString "k"), w5), ((ofString "chunk"), w6)], [(r, .list vs)], ff, []⟩) ?_ ?_
 ·with_reducible
   refine Ci ?_; intro K_ hK_
   refine Ai ?_
   refine Aa ?_
   refine Ct (Aq (Ap (by assumption) (by tb_rel) (by tb_rel)) (Ap (by assumption) (by tb_rel) (by tb_rel)) Ee) ?_
  refine A9 (by simp; clear hr0; exact Nat.lt_of_le_of_lt (Nat.le_add_right _ _) hjl) ?_
  with_reducible
   refine Aa ?_
   refine A4 ?_
   refine DW (E_l (by assumption) (by tb_rel) (by tb_rel)) (E_l (by assumption) (by tb_rel) (by tb_rel)) ?_
   refine AX (by assumption) (by assumption) ?_; intro _
   refine AP LL ?_; intro _
   refine Cv ?_
   refine A1 ?_
  by_cases h33 : ch0 = 33
  ·subst h33
   with_reducible
    refine A9 (by decide) ?_
    refine Bd ?_
    refine hK_ _ _ ?_; clear hK_ K_
    refine A9 (by decide) ?_
    refine B7 ?_
    refine A3 ?_
    refine B1 (AF (Ap (by assumption) (by tb_rel) (by tb_rel)) Ak) ?_; intro _
    refine A8 (by assumption) (by tb_rel) (by top_caught) ?_
   refine ⟨rfl, 1, _, ?_, rfl⟩
   rcases Nat.lt_or_ge 1 rr.length with h | h
   ·exact h
   ·exfalso
    have h1 : rr.length = 1 := by lia
    obtain ⟨z, hz⟩ := List.length_eq_one_iff.mp h1
    rw [hz] at hch0
    exact hn1 (by rw [hz]; simpa using hch0)
  ·refine Ad (by simpa using h33) ?_
   with_reducible
    refine hK_ _ _ ?_; clear hK_ K_
    refine Ad (by decide) ?_
    refine Au ?_
   exact ⟨rfl, 0, _, hr0, rfl⟩
 ·intro f σ' hσ
  refine Ae (fun G_ hG_ => ?_)
  obtain ⟨rfl, o1, u3, ho1, rfl⟩ := hσ
  refine hG_ ?_
  clear hG_ G_
  dsimp only
  refine Cj (show ∃ ch, rr[o1]? = some ch from ⟨rr[o1], List.getElem?_eq_getElem ho1⟩) (fun ch1 hch1 => ?_)
  have hx1 : x[i + o1]? = some ch1 := by rw [hxr o1 ho1, hch1]
  have hne1 : ¬ ch1 = 93 := fun q => by have := hsg ch1 (List.mem_of_getElem? hch1); rw [q] at this; exact absurd this (by unfold Sg; decide)
  have h162 : i + o1 < 2 ^ 62 := by lia
  refine AN ?_
  with_reducible
   refine Ci ?_; intro K_ hK_
   refine Ai ?_
   refine Aa ?_
   refine Ct (Aq (Ap (by assumption) (by tb_rel) (by tb_rel)) (Ap (by assumption) (by tb_rel) (by tb_rel)) Ee) ?_
  refine A9 (by simp; lia) ?_
  with_reducible
   refine Aa ?_
   refine A4 ?_
   refine DW (E_l (by assumption) (by tb_rel) (by tb_rel)) (E_l (by assumption) (by tb_rel) (by tb_rel)) ?_
   refine AX (by assumption) (by lia) ?_; intro _
   refine AP Nh ?_; intro _
   refine Cv ?_
   refine A1 ?_
  refine Ad (by simpa using hne1) ?_
  with_reducible
   refine hK_ _ _ ?_; clear hK_ K_
   refine Ad (by decide) ?_
   refine Au ?_
  refine AN ?_
  refine An (Q := fun f σ' => f = Flow.next ∧ ∃ (u3 : Tok), σ' = ⟨[((ofString "pat"), some (.str (S x) t)), ((ofString "STAR"), some (.ref star)), ((ofString "QUESTION_MARK"), some (.str (S [91, 94, 45, 93]) u)), ((ofString "res"), some (.ref r)), ((ofString "add"), some (.ref b)), ((ofString "i"), some (.int (i : Nat) u1)), ((ofString "n"), some (.int (x.length : Nat) u2)), ((ofString "c"), w1), ((ofString "j"), some (.int ((i + rr.length : Nat) : Int) u3)), ((ofString "stuff"), w3), ((ofString "chunks"), w4), ((ofString "k"), w5), ((ofString "chunk"), w6)], [(r, .list vs)], ff, []⟩) ?_ ?_
  ·refine Cz (fun fuel σ => ∃ (o : Nat) (u3 : Tok), σ = ⟨[((ofString "pat"), some (.str (S x) t)), ((ofString "STAR"), some (.ref star)), ((ofString "QUESTION_MARK"), some (.str (S [91, 94, 45, 93]) u)), ((ofString "res"), some (.ref r)), ((ofString "add"), some (.ref b)), ((ofString "i"), some (.int (i : Nat) u1)), ((ofString "n"), some (.int (x.length : Nat) u2)), ((ofString "c"), w1), ((ofString "j"), some (.int ((i + o : Nat) : Int) u3)), ((ofString "stuff"), w3), ((ofString "chunks"), w4), ((ofString "k"), w5), ((ofString "chunk"), w6)], [(r, .list vs)], ff, []⟩ ∧ o ≤ rr.length ∧ fuel + o = rr.length)
    (rr.length - o1) ⟨o1, _, rfl, by exact Nat.le_of_lt (by assumption), by lia⟩ (fun fuel σ hI K_ hK_ => ?_)
   clear hx1 hxi
   refine Ae (fun G_ hG_ => ?_)
   obtain ⟨o, u4, rfl, ho, hfu⟩ := hI
   refine hG_ ?_
   clear hG_ G_
   have ho62 : i + o < 2 ^ 62 := by lia
   with_reducible
    refine Ai ?_
    refine Aa ?_
    refine Ct (Aq (Ap (by assumption) (by tb_rel) (by tb_rel)) (Ap (by assumption) (by tb_rel) (by tb_rel)) Ee) ?_
   refine A9 (by simp; lia) ?_
   by_cases hlt : o < rr.length
   ·refine Cj (show ∃ ch, rr[o]? = some ch from ⟨rr[o], List.getElem?_eq_getElem hlt⟩) (fun ch hch => ?_)
    have hxo : x[i + o]? = some ch := by rw [hxr o hlt, hch]
    have hnec : ¬ ch = 93 := fun q => by have := hsg ch (List.mem_of_getElem? hch); rw [q] at this; exact absurd this (by unfold Sg; decide)
    with_reducible
     refine Aa ?_
     refine A4 ?_
     refine DW (E_l (by assumption) (by tb_rel) (by tb_rel)) (E_l (by assumption) (by tb_rel) (by tb_rel)) ?_
     refine AX (by assumption) (by lia) ?_; intro _
     refine AP Nh ?_; intro _
     refine Fc ?_
     refine A1 ?_
    refine A9 (by simpa using hnec) ?_
    with_reducible
     refine Bd ?_
     refine A9 (by decide) ?_
     refine B7 ?_
     refine A3 ?_
     refine B1 (AF (Ap (by assumption) (by tb_rel) (by tb_rel)) Ak) ?_; intro _
     refine A8 (by assumption) (by tb_rel) (by top_caught) ?_
     refine hK_ _ _ ?_; clear hK_ K_
    exact ⟨fuel - 1, by clear ho; lia, o + 1, _, rfl, by assumption, by clear hend hQ hjl hr0 ho1 ho; lia⟩
   ·have hoe : o = rr.length := by exact Nat.le_antisymm ho (Nat.le_of_not_lt hlt)
    subst hoe
    have hxo := hend
    with_reducible
     refine Aa ?_
     refine A4 ?_
     refine DW (E_l (by assumption) (by tb_rel) (by tb_rel)) (E_l (by assumption) (by tb_rel) (by tb_rel)) ?_
     refine AX (by assumption) (by assumption) ?_; intro _
     refine AP Nh ?_; intro _
     refine Fc ?_
     refine A1 ?_
     refine Ad (by decide) ?_
     refine Ad (by decide) ?_
     refine Au ?_
    exact ⟨rfl, _, rfl⟩
  ·intro f σ' hσ
   obtain ⟨rfl, u4, rfl⟩ := hσ
   dsimp only
   refine Du ?_
   refine Qi ?_
   with_reducible
    refine Ct (Aq (Ap (by assumption) (by tb_rel) (by tb_rel)) (Ap (by assumption) (by tb_rel) (by tb_rel)) cm_ge) ?_
   refine Ad (by simp; lia) ?_
   exact hQ _
end
theorem AA.last {α β : Type} {R : α → β → Prop} {as : List α} {bs : List β} (h : AA R as bs) (hne : bs ≠ []) : ∃ a b, as.getLast? = some a ∧ bs[bs.length - 1]? = some b ∧ R a b := by
 have hl := h.length
 have h0 : 0 < bs.length := List.length_pos_iff.mpr hne
 obtain ⟨a, ha, hr⟩ := h.get (List.getElem?_eq_getElem (show bs.length - 1 < bs.length by clear hl; omega))
 exact ⟨a, _, by rw [List.getLast?_eq_getElem?, hl]; exact ha, List.getElem?_eq_getElem (show bs.length - 1 < bs.length by lia), hr⟩
theorem AA.dropLast {α β : Type} {R : α → β → Prop} {as : List α} {bs : List β} (h : AA R as bs) : AA R as.dropLast bs.dropLast := by
 induction h with
 | nil => exact .nil
 | @cons a b as bs h1 t ih =>
  cases t with
  | nil => exact .nil
  | cons h2 t2 => exact .cons h1 ih
theorem JE {fuel off : Nat} {r : List Nat} (h : (Ar (fuel + 1) off r).1 = []) : (Ar (fuel + 1) off r).2 = r := by
 unfold Ar at h ⊢
 cases hd : Gj (r.drop off) with
 | none => rfl
 | some p => rw [hd] at h; cases h
theorem L0 {cs : List (List Nat)} (h : 0 < cs.length) : cs.take (cs.length - 1) ++ AT (cs.drop (cs.length - 1)) = cs := by
 have hk : cs.length - 1 < cs.length := by omega
 have e : cs.drop (cs.length - 1) = [cs[cs.length - 1]] := by
  rw [List.drop_eq_getElem_cons hk, List.drop_of_length_le (by lia)]
 have e2 : AT (cs.drop (cs.length - 1)) = cs.drop (cs.length - 1) := by rw [e]; rfl
 rw [e2, List.take_append_drop]
theorem Mj {l : List Nat} (h : l ≠ []) : (seqIndex? (-1) l.length).bind (l[·]?) = some (l.getLastD 0) := by
 have h0 : 0 < l.length := List.length_pos_iff.mpr h
 rw [seqIndex_neg (by decide) (by lia)]
 show l[(-1 + (l.length : Int)).toNat]? = _
 rw [show (-1 + (l.length : Int)).toNat = l.length - 1 from by lia, ← List.getLast?_eq_getElem?]
 rw [List.getLastD_eq_getLast?]
 cases hq : l.getLast? with
 | none => exact absurd (List.getLast?_eq_none_iff.mp hq) h
 | some a => rfl
theorem PF {a b : Nat} : ([a] : List Nat) < [b] ↔ a < b := by
 rw [List.cons_lt_cons_iff]
 simp
theorem NW (l : List Nat) : cut l none (some (-1)) = l.dropLast := by
 show (l.take (Eu (-((0 + 1 : Nat) : Int)) l.length)).drop 0 = _
 rw [GR, List.dropLast_eq_take, List.drop_zero]
theorem Ke (l : List Nat) : cut l (some 1) none = l.tail := by
 show (l.take l.length).drop (Eu ((1 : Nat) : Int) l.length) = _
 rw [Bb, List.take_length]
 cases l with
 | nil => rfl
 | cons a r => rw [Nat.min_eq_left (show 1 ≤ (a :: r).length from Nat.succ_le_succ (Nat.zero_le _))]; rfl
theorem HZ {l : List Nat} (h : l ≠ []) : (seqIndex? 0 l.length).bind (l[·]?) = some (l.headD 0) := by
 cases l with
 | nil => exact absurd rfl h
 | cons a r =>
  rw [seqIndex_of (by decide) (by simp)]
  rfl
theorem AA.set {α β : Type} {R : α → β → Prop} {as : List α} {bs : List β} (h : AA R as bs) : ∀ (k : Nat) {a : α} {b : β}, R a b → AA R (as.set k a) (bs.set k b) := by
 induction h with
 | nil => intro k a b _; exact .nil
 | @cons a0 b0 as bs h1 t ih =>
  intro k a b hab
  cases k with
  | zero => exact .cons hab t
  | succ k => exact .cons h1 (ih k hab)
theorem AA.eraseIdx {α β : Type} {R : α → β → Prop} {as : List α} {bs : List β} (h : AA R as bs) : ∀ (k : Nat), AA R (as.eraseIdx k) (bs.eraseIdx k) := by
 induction h with
 | nil => intro k; exact .nil
 | @cons a0 b0 as bs h1 t ih =>
  intro k
  cases k with
  | zero => exact t
  | succ k => exact .cons h1 (ih k)
theorem Kf {c : Cx} {P L : Addr} {n : Nat} {α : Type} {t : Sem α} {Q : α → St → Prop} (a : Addr) {o : D} {l' : Led} {l : Loc} {m f q : Led} (hm : Rem m a o l') (h : W c P L n t Q ⟨l, l', (a, o) :: f, q⟩) : W c P L n t Q ⟨l, m, f, q⟩ :=
 fun A B s ob hr hb hP hT ho hg ht => h A B s ob hr hb hP hT (ho.freeze hm) hg ht
noncomputable def chBody : List Stmt := Kd (sAt Mi 1)
section
variable {c : Cx} {n : Nat}
theorem ch_walk (hc : c.Ok) {P cc L : Addr} {e : Env} (he : Ag e L [((ofString "pat"), .local), ((ofString "STAR"), .local), ((ofString "QUESTION_MARK"), .local), ((ofString "res"), .local), ((ofString "add"), .local), ((ofString "i"), .local), ((ofString "n"), .local), ((ofString "c"), .local), ((ofString "j"), .local), ((ofString "stuff"), .local), ((ofString "chunks"), .local), ((ofString "k"), .local), ((ofString "chunk"), .local), ((ofString "len"), .globalImplicit), ((ofString "range"), .globalImplicit), ((ofString "_twin_re_1"), .globalImplicit), ((ofString "escape"), .globalImplicit)] [])
  (hcode : e.code = .ref cc) (C : CodeHd c.b cc P) (hPb : c.b.get? P = none) (hbi : c.b.BuiltinsAt c.mg P)
  (hlen : c.mg (ofString "len") = none) (hlen' : c.mb (ofString "len") = some (.builtin "len")) (hran : c.mg (ofString "range") = none) (hran' : c.mb (ofString "range") = some (.type "range"))
  {x rr : List Nat} {i : Nat} (hxr : (x.take (i + rr.length)).drop i = rr) (hjl : i + rr.length < x.length) (h45 : 45 ∈ rr) (hrl : rr.length ≤ 195) (hxl : x.length ≤ 900)
  {t u u1 u2 u3 u4 : Tok} {star r b : Addr} {w1 w4 w5 w6 : Option Value} {vs : List Value} {ff : Led} {Q : Flow → St → Prop} (hb : (b, Bu r) ∈ ff)
  (hQ : ∀ t' v1 v5 v6 v4 ff', (b, Bu r) ∈ ff' → Q .next ⟨[((ofString "pat"), some (.str (S x) t)), ((ofString "STAR"), some (.ref star)), ((ofString "QUESTION_MARK"), some (.str (S [91, 94, 45, 93]) u)), ((ofString "res"), some (.ref r)), ((ofString "add"), some (.ref b)), ((ofString "i"), v1), ((ofString "n"), some (.int (x.length : Nat) u2)), ((ofString "c"), w1), ((ofString "j"), some (.int ((i + rr.length : Nat) : Int) u3)), ((ofString "stuff"), some (.str (S (CR [45] ((AT (B6 rr)).map DG))) t')), ((ofString "chunks"), v4), ((ofString "k"), v5), ((ofString "chunk"), v6)], [(r, .list vs)], ff', []⟩) :
  W c P L 0 (execs chBody e) Q ⟨[((ofString "pat"), some (.str (S x) t)), ((ofString "STAR"), some (.ref star)), ((ofString "QUESTION_MARK"), some (.str (S [91, 94, 45, 93]) u)), ((ofString "res"), some (.ref r)), ((ofString "add"), some (.ref b)), ((ofString "i"), some (.int (i : Nat) u1)), ((ofString "n"), some (.int (x.length : Nat) u2)), ((ofString "c"), w1), ((ofString "j"), some (.int ((i + rr.length : Nat) : Int) u3)), ((ofString "stuff"), some (.str (S rr) u4)), ((ofString "chunks"), w4), ((ofString "k"), w5), ((ofString "chunk"), w6)], [(r, .list vs)], ff, []⟩ := by
 have hr0 : 0 < rr.length := List.length_pos_iff.mpr fun q => by rw [q] at h45; cases h45
 have hget : ∀ p, p < rr.length → x[i + p]? = rr[p]? := fun p hp => by
  rw [← hxr, List.getElem?_drop, List.getElem?_take, if_pos (by lia)]
 refine Cj (show ∃ ch0, rr[0]? = some ch0 from ⟨rr[0], List.getElem?_eq_getElem hr0⟩) (fun ch0 hch0 => ?_)
 have hxi : x[i]? = some ch0 := by have := hget 0 hr0; rw [Nat.add_zero] at this; rw [this, hch0]
 have hhd : rr.headD 0 = ch0 := by cases rr with | nil => cases hr0 | cons a l => simpa using hch0
 have hi62 : i < 2 ^ 62 := by clear hr0; exact Nat.lt_trans (Nat.lt_of_lt_of_le (Nat.lt_of_le_of_lt (Nat.le_add_right _ _) hjl) hxl) (by decide)
 have hxs : x.length ≤ sizeLine := by rw [sizeLine_eq]; exact Nat.le_trans (by assumption) (by decide)
 refine gen (i + rr.length) (fun j hj => ?_)
 rw [← hj] at hxr hQ hjl ⊢
 refine gen (Ar (rr.length + 1) (De rr) rr) (fun R hR => ?_)
 have hsum := EK (rr.length + 1) (De rr) rr
 rw [← hR] at hsum
 refine AN ?_
 with_reducible
  refine A3 ?_
  refine Bo ?_
  refine A2 ?_
  refine Ao (by with_unfolding_all exact Nat.le_of_ble_eq_true rfl) ?_; intro _
  refine A8 (by assumption) (by tb_rel) (by top_caught) ?_
 refine AN ?_
 refine An (Q := fun f σ' => f = Flow.next ∧ ∃ (u5 : Tok) (ca : Addr), σ' = ⟨[((ofString "pat"), some (.str (S x) t)), ((ofString "STAR"), some (.ref star)), ((ofString "QUESTION_MARK"), some (.str (S [91, 94, 45, 93]) u)), ((ofString "res"), some (.ref r)), ((ofString "add"), some (.ref b)), ((ofString "i"), some (.int (i : Nat) u1)), ((ofString "n"), some (.int (x.length : Nat) u2)), ((ofString "c"), w1), ((ofString "j"), some (.int (j : Nat) u3)), ((ofString "stuff"), some (.str (S rr) u4)), ((ofString "chunks"), some (.ref ca)), ((ofString "k"), some (.int ((i + De rr : Nat) : Int) u5)), ((ofString "chunk"), w6)], [(ca, .list []), (r, .list vs)], ff, []⟩) ?_ ?_
 ·with_reducible
   refine A3 ?_
   refine BS ?_
   refine A4 ?_
   refine DW (E_l (by assumption) (by tb_rel) (by tb_rel)) (E_l (by assumption) (by tb_rel) (by tb_rel)) ?_
   refine AX (by assumption) (by assumption) ?_; intro _
   refine AP LL ?_; intro _
   refine Cv ?_
   refine A1 ?_
  by_cases h33 : ch0 = 33
  ·have ho : De rr = 2 := by unfold De; rw [hhd, if_pos h33]
   refine A9 (by simpa using h33) ?_
   with_reducible
    refine B1 (AF (Ap (by assumption) (by tb_rel) (by tb_rel)) Ak) ?_; intro _
    refine A8 (by assumption) (by tb_rel) (by top_caught) ?_
   rw [ho]
   exact ⟨rfl, _, _, rfl⟩
  ·have ho : De rr = 1 := by unfold De; rw [hhd, if_neg h33]
   refine Ad (by simpa using h33) ?_
   with_reducible
    refine B1 (AF (Ap (by assumption) (by tb_rel) (by tb_rel)) Ak) ?_; intro _
    refine A8 (by assumption) (by tb_rel) (by top_caught) ?_
   rw [ho]
   exact ⟨rfl, _, _, rfl⟩
 ·intro f σ' hσ
  obtain ⟨rfl, u5, ca, rfl⟩ := hσ
  dsimp only
  refine AN ?_
  refine An (Q := fun f σ' => f = Flow.next ∧ Ex6 fun (ii : Nat) (cvs : List Value) (v5 : Option Value) (u6 : Tok) (ca : Addr) (ff2 : Led) => And5 (σ' = ⟨[((ofString "pat"), some (.str (S x) t)), ((ofString "STAR"), some (.ref star)), ((ofString "QUESTION_MARK"), some (.str (S [91, 94, 45, 93]) u)), ((ofString "res"), some (.ref r)), ((ofString "add"), some (.ref b)), ((ofString "i"), some (.int (ii : Nat) u6)), ((ofString "n"), some (.int (x.length : Nat) u2)), ((ofString "c"), w1), ((ofString "j"), some (.int (j : Nat) u3)), ((ofString "stuff"), some (.str (S rr) u4)), ((ofString "chunks"), some (.ref ca)), ((ofString "k"), v5), ((ofString "chunk"), w6)], [(ca, .list cvs), (r, .list vs)], ff2, []⟩) ((b, Bu r) ∈ ff2) (Bk R.1 cvs) ((x.take j).drop ii = R.2) (ii ≤ j)) ?_ ?_
  ·refine Cz (fun fuel σ => Ex8 fun (ii off : Nat) (cs : List (List Nat)) (cvs : List Value) (u5 u6 : Tok) (ca : Addr) (ff2 : Led) => And8 (σ = ⟨[((ofString "pat"), some (.str (S x) t)), ((ofString "STAR"), some (.ref star)), ((ofString "QUESTION_MARK"), some (.str (S [91, 94, 45, 93]) u)), ((ofString "res"), some (.ref r)), ((ofString "add"), some (.ref b)), ((ofString "i"), some (.int (ii : Nat) u6)), ((ofString "n"), some (.int (x.length : Nat) u2)), ((ofString "c"), w1), ((ofString "j"), some (.int (j : Nat) u3)), ((ofString "stuff"), some (.str (S rr) u4)), ((ofString "chunks"), some (.ref ca)), ((ofString "k"), some (.int ((ii + off : Nat) : Int) u5)), ((ofString "chunk"), w6)], [(ca, .list cvs), (r, .list vs)], ff2, []⟩) ((b, Bu r) ∈ ff2) (Bk cs cvs) (cs ++ (Ar fuel off ((x.take j).drop ii)).1 = R.1) ((Ar fuel off ((x.take j).drop ii)).2 = R.2) (ii ≤ j) (j < fuel + ii) (cs.length ≤ ii))
    (rr.length + 1) ⟨i, De rr, [], [], _, _, _, _, rfl, hb, .nil, by rw [hxr, hR]; rfl, by rw [hxr, hR], by clear hr0 hR; exact Nat.le_trans (Nat.le_add_right _ _) (Nat.le_of_eq hj.symm), by lia, Nat.zero_le _⟩ (fun fuel σ hI K_ hK_ => ?_)
   clear hxi
   refine Ae (fun G_ hG_ => ?_)
   obtain ⟨ii, off, cs, cvs, u5, u6, ca, ff2, rfl, hb, hcs, h1, h2, hii, hfu, hcl⟩ := hI
   refine hG_ ?_
   clear hG_ G_
   have hcvl := hcs.length
   obtain ⟨fu, rfl⟩ : ∃ k, fuel = k + 1 := ⟨fuel - 1, by clear hj; lia⟩
   have hrl2 : ((x.take j).drop ii).length = j - ii := by rw [List.length_drop, List.length_take]; clear hj; lia
   with_reducible
    refine BT ?_
    refine LF ?_
    refine A1 ?_
    refine A9 (by decide) ?_
    refine A7 ?_; intro K_ hK_
    refine A3 ?_
    refine Ba ?_
    refine AJ (by assumption) (by tb_rel) (by tb_rel) ?_
    refine M_find Ty.str ?_
    refine Ah ?_
    refine A0 ?_
    refine AP KA ?_; intro _
    refine HD (E_l (by assumption) (by tb_rel) (by tb_rel)) (E_l (by assumption) (by tb_rel) (by tb_rel)) ?_
   refine V_find4 (by exact Nat.le_of_lt (by assumption)) (fun t7 => ?_)
   rw [show (x.take j).drop (ii + off) = ((x.take j).drop ii).drop off from by rw [List.drop_drop]]
   rw [Ar] at h1 h2
   cases hd : Gj (((x.take j).drop ii).drop off) with
   | none =>
    rw [hd] at h1 h2
    dsimp only at h1 h2 ⊢
    with_reducible
     refine A8 (by assumption) (by tb_rel) (by top_caught) ?_
     refine hK_ _ _ ?_; clear hK_ K_
     refine A7 ?_; intro K_ hK_
     refine D6 (Aq (Ap (by assumption) (by tb_rel) (by tb_rel)) Ak Ee) (by decide) ?_
     refine A7 ?_; intro K_ hK_
     refine LE ?_
     refine hK_ _ _ ?_; clear hK_ K_
     refine hK_ _ _ ?_; clear hK_ K_
     refine hK_ _ _ ?_; clear hK_ K_
    exact ⟨rfl, ii, cvs, _, _, _, _, rfl, hb, by rw [← h1]; simpa using hcs, h2, hii⟩
   | some p =>
    rw [hd] at h1 h2
    have hpl := Jx hd
    rw [List.length_drop, hrl2] at hpl
    dsimp only at h1 h2 ⊢
    with_reducible
     refine A8 (by assumption) (by tb_rel) (by top_caught) ?_
     refine hK_ _ _ ?_; clear hK_ K_
     refine A7 ?_; intro K_ hK_
     refine Ci ?_; intro K_ hK_
     refine Ct (Aq (Ap (by assumption) (by tb_rel) (by tb_rel)) Ak Ee) ?_
     refine hK_ _ _ ?_; clear hK_ K_
    refine Ad (by simp; lia) ?_
    with_reducible
     refine Au ?_
     refine hK_ _ _ ?_; clear hK_ K_
     refine A7 ?_; intro K_ hK_
     refine BF ?_ (by assumption)
     refine Ba ?_
     refine AJ (by assumption) (by tb_rel) (by tb_rel) ?_
     refine Cy (Ty.list (by top_args)) ?_
     refine Ah ?_
     refine A0 ?_
     refine F3 (BL (Bs (by assumption) (by tb_rel) (by tb_rel)) (Ax (Ap (by assumption) (by tb_rel) (by tb_rel))) (Ax (Ap (by assumption) (by tb_rel) (by tb_rel))) (by assumption)) ?_; intro _
     refine A2 ?_
    rw [Jy]
    refine Cw (by top_caught) (by rw [sizeLine_eq]; clear hj; exact Nat.le_of_lt (Nat.lt_trans (Nat.lt_of_lt_of_le (Nat.lt_of_le_of_lt (Nat.le_trans (Nat.le_trans (Nat.le_of_eq hcvl.symm) hcl) hii) hjl) hxl) (by decide))) ?_
    with_reducible
     refine hK_ _ _ ?_; clear hK_ K_
     refine A7 ?_; intro K_ hK_
     refine A3 ?_
     refine B1 (AF (Ap (by assumption) (by tb_rel) (by tb_rel)) Ak) ?_; intro _
     refine A8 (by assumption) (by tb_rel) (by top_caught) ?_
     refine hK_ _ _ ?_; clear hK_ K_
     refine B7 ?_
     refine A3 ?_
     refine B1 (AF (Ap (by assumption) (by tb_rel) (by tb_rel)) Ak) ?_; intro _
     refine A8 (by assumption) (by tb_rel) (by top_caught) ?_
     refine hK_ _ _ ?_; clear hK_ K_
    have e1 : (x.take (ii + off + p)).drop ii = ((x.take j).drop ii).take (off + p) := by
     rw [List.take_drop, List.take_take, Nat.min_eq_left (by clear hrl hxl hr0 hhd hi62 hxs hjl hj hsum hii hcl hcvl hfu hrl2; omega), Nat.add_assoc]
    have e2 : (x.take j).drop (ii + off + p + 1) = ((x.take j).drop ii).drop (off + p + 1) := by
     rw [List.drop_drop]; congr 1; lia
    have e3 : (((ii + off + p : Nat) : Int) + 3) = ((ii + off + p + 1 + 2 : Nat) : Int) := by rfl
    rw [e1, e3]
    refine ⟨fu, Nat.lt_succ_self _, ii + off + p + 1, 2, cs ++ [((x.take j).drop ii).take (off + p)], _, _, _, _, _, rfl, hb, hcs.append (.cons ⟨_, rfl⟩ .nil), ?_, ?_, by clear hrl hxl hr0 hhd hi62 hxs hjl hj hsum hii hcl hcvl hfu hrl2; omega, by clear hj; lia, by simp; exact Nat.le_trans (Nat.le_trans hcl (Nat.le_add_right _ _)) (Nat.le_add_right _ _)⟩
    ·rw [e2, List.append_assoc]; exact h1
    ·rw [e2]; exact h2
  ·intro f σ' hσ
   refine Ae (fun G_ hG_ => ?_)
   obtain ⟨rfl, ii, cvs, v5, u6, ca, ff2, rfl, hb, hcvs, hrest, hii⟩ := hσ
   refine hG_ ?_
   clear hG_ G_
   dsimp only
   have hcvl := hcvs.length
   have hR1l : R.1.length ≤ 195 := by exact Nat.le_trans hsum.2 hrl
   have hR2l : R.2.length ≤ 195 := by exact Nat.le_trans (Nat.le_trans (Nat.le_add_left _ _) hsum.1) hrl
   have hCS : E1 R.1 R.2 = B6 rr := by rw [hR]; rfl
   have hgood := JD h45
   have hcsum := GD rr
   refine AN ?_
   with_reducible
    refine A3 ?_
    refine F3 (BL (Bs (by assumption) (by tb_rel) (by tb_rel)) (Ax (Ap (by assumption) (by tb_rel) (by tb_rel))) (Ax (Ap (by assumption) (by tb_rel) (by tb_rel))) (by assumption)) ?_; intro _
    refine A8 (by assumption) (by tb_rel) (by top_caught) ?_
   rw [Jy, hrest]
   refine AN ?_
   refine An (Q := fun f σ' => f = Flow.next ∧ Ex5 fun (cvs : List Value) (v6 : Option Value) (ca : Addr) (u6 : Tok) (ff2 : Led) => Q3 (σ' = ⟨[((ofString "pat"), some (.str (S x) t)), ((ofString "STAR"), some (.ref star)), ((ofString "QUESTION_MARK"), some (.str (S [91, 94, 45, 93]) u)), ((ofString "res"), some (.ref r)), ((ofString "add"), some (.ref b)), ((ofString "i"), some (.int (ii : Nat) u6)), ((ofString "n"), some (.int (x.length : Nat) u2)), ((ofString "c"), w1), ((ofString "j"), some (.int (j : Nat) u3)), ((ofString "stuff"), some (.str (S rr) u4)), ((ofString "chunks"), some (.ref ca)), ((ofString "k"), v5), ((ofString "chunk"), v6)], [(ca, .list cvs), (r, .list vs)], ff2, []⟩) ((b, Bu r) ∈ ff2) (Bk (B6 rr) cvs)) ?_ ?_
   ·with_reducible
     refine Ci ?_; intro K_ hK_
     refine BT ?_
     refine AJ (by assumption) (by tb_rel) (by tb_rel) ?_
    refine ER (by exact Nat.lt_of_le_of_lt (by assumption) (by decide)) ?_
    refine hK_ _ _ ?_
    clear hK_ K_
    by_cases hR2 : R.2 = []
    ·refine Ad (by simpa using hR2) ?_
     have hR1 : R.1 ≠ [] := fun q => by
      have := JE (fuel := rr.length) (off := De rr) (r := rr) (by rw [← hR]; exact q)
      rw [← hR, hR2] at this
      rw [← this] at hr0; exact absurd hr0 (Nat.lt_irrefl _)
     have hcne : cvs ≠ [] := fun q => hR1 (List.length_eq_zero_iff.mp (by rw [hcvl, q]; rfl))
     have hcp : 0 < cvs.length := List.length_pos_iff.mpr hcne
     refine Ae (fun G_ hG_ => ?_)
     obtain ⟨cl, y, hcl, hy, ty, rfl⟩ := hcvs.last hcne
     refine hG_ ?_
     clear hG_ G_
     have hcll : cl.length ≤ 195 := by
      have h1 := Fk (List.mem_of_getLast? hcl)
      exact Nat.le_trans (Nat.le_trans (Nat.le_trans h1 (Nat.le_add_right _ _)) hsum.1) hrl
     with_reducible
      refine B7 ?_
      refine Hm ?_
      refine AJ (by assumption) (by tb_rel) (by tb_rel) ?_
      refine B1 (EV Ak) ?_; intro _
     refine Ec (by top_args) (by decide) (by clear hcvl; lia) (by decide) (show cvs[(-1 + (cvs.length : Int)).toNat]? = some _ from by rw [show (-1 + (cvs.length : Int)).toNat = cvs.length - 1 from by clear hcvl; lia]; exact hy) ?_
     with_reducible
      refine AP KA ?_; intro _
     refine Ez (by rw [sizeLine_eq]; simp only [List.length_cons, List.length_nil]; exact Nat.lt_of_le_of_lt (by assumption) (by decide)) (fun t8 => ?_)
     refine DQ (by top_caught) hcne (by exact Nat.le_of_lt (Nat.lt_of_le_of_lt (Nat.le_trans (Nat.le_of_eq hcvl.symm) hR1l) (by decide))) ?_
     with_reducible
     refine ⟨rfl, _, _, _, _, _, rfl, hb, ?_⟩
     rw [← hCS, E1, if_pos hR2, hcl]
     exact hcvs.dropLast.append (.cons ⟨_, rfl⟩ .nil)
    ·refine A9 (by simpa using hR2) ?_
     with_reducible
      refine B7 ?_
      refine BF ?_ (by assumption)
      refine Ba ?_
      refine AJ (by assumption) (by tb_rel) (by tb_rel) ?_
      refine Cy (Ty.list (by top_args)) ?_
      refine Ah ?_
      refine DV (E_l (by assumption) (by tb_rel) (by tb_rel)) ?_
     refine Cw (by top_caught) (by rw [sizeLine_eq]; exact Nat.le_of_lt (Nat.lt_of_le_of_lt (Nat.le_trans (Nat.le_of_eq hcvl.symm) hR1l) (by decide))) ?_
     with_reducible
     refine ⟨rfl, _, _, _, _, _, rfl, hb, ?_⟩
     rw [← hCS, E1, if_neg hR2]
     exact hcvs.append (.cons ⟨_, rfl⟩ .nil)
   ·intro f σ' hσ
    clear hcvs hcvl
    refine Ae (fun G_ hG_ => ?_)
    obtain ⟨rfl, cvs, v6, ca, u6, ff2, rfl, hb, hcvs⟩ := hσ
    refine hG_ ?_
    clear hG_ G_
    have hcvl := hcvs.length
    dsimp only
    refine gen (B6 rr) (fun CS hCSe => ?_)
    rw [← hCSe] at hcvs hcvl hgood hcsum hCS hQ
    have hCS0 : 0 < CS.length := by cases CS with | nil => exact hgood.elim | cons a l => simp
    have hcv62 : cvs.length < 2 ^ 62 := by lia
    refine AN ?_
    refine An (Q := fun f σ' => f = Flow.next ∧ Ex4 fun (cvs : List Value) (v5 : Option Value) (ca : Addr) (ff2 : Led) => Q3 (σ' = ⟨[((ofString "pat"), some (.str (S x) t)), ((ofString "STAR"), some (.ref star)), ((ofString "QUESTION_MARK"), some (.str (S [91, 94, 45, 93]) u)), ((ofString "res"), some (.ref r)), ((ofString "add"), some (.ref b)), ((ofString "i"), some (.int (ii : Nat) u6)), ((ofString "n"), some (.int (x.length : Nat) u2)), ((ofString "c"), w1), ((ofString "j"), some (.int (j : Nat) u3)), ((ofString "stuff"), some (.str (S rr) u4)), ((ofString "chunks"), some (.ref ca)), ((ofString "k"), v5), ((ofString "chunk"), v6)], [(ca, .list cvs), (r, .list vs)], ff2, []⟩) ((b, Bu r) ∈ ff2) (Bk (AT CS) cvs)) ?_ ?_
    ·refine Ed ?_
     with_reducible
      refine HE (by assumption) (by assumption) (by tb_rel) (by assumption) (by assumption) ?_
      refine AI ?_
      refine A0 ?_
      refine B1 (Gx (CI (by assumption) (by assumption) (by tb_rel) (by assumption) (by assumption) (Nv (by assumption) (by tb_rel) (by tb_rel)) (by top_args) (by assumption)) Ak) ?_; intro _
      refine A0 ?_
      refine AC ?_; intro _
      refine A0 ?_
      refine B1 (EV Ak) ?_; intro _
      refine A2 ?_
      refine K3 (by decide) (PyProof.noPylong_small (by decide)) ?_; intro _
     refine ⟨cvs.length - 1, _, [], BP.down (a := (cvs.length : Int) - 1) (b := 0) (k := cvs.length - 1) (by lia) (by simp) (by lia) (.inr (.inl List.mem_cons_self)), (fun _ h => nomatch h),
      fun tt σ => Ex3 fun (cvs' : List Value) (v5 : Option Value) (ff2 : Led) => Q3 (σ = ⟨[((ofString "pat"), some (.str (S x) t)), ((ofString "STAR"), some (.ref star)), ((ofString "QUESTION_MARK"), some (.str (S [91, 94, 45, 93]) u)), ((ofString "res"), some (.ref r)), ((ofString "add"), some (.ref b)), ((ofString "i"), some (.int (ii : Nat) u6)), ((ofString "n"), some (.int (x.length : Nat) u2)), ((ofString "c"), w1), ((ofString "j"), some (.int (j : Nat) u3)), ((ofString "stuff"), some (.str (S rr) u4)), ((ofString "chunks"), some (.ref ca)), ((ofString "k"), v5), ((ofString "chunk"), v6)], [(ca, .list cvs'), (r, .list vs)], ff2, []⟩) ((b, Bu r) ∈ ff2) (Bk (CS.take (CS.length - 1 - tt) ++ AT (CS.drop (CS.length - 1 - tt))) cvs'), ?_, ?_, ?_⟩
     ·refine ⟨cvs, _, _, rfl, by tb_rel, ?_⟩
      rw [Nat.sub_zero, L0 hCS0]; exact hcvs
     ·intro tt v σ₂ htt hP hI K_ hK_
      clear hcvs
      refine Ae (fun G_ hG_ => ?_)
      obtain ⟨cvs', v5', ff3, rfl, hb, hcvs⟩ := hI
      obtain ⟨tk, rfl⟩ := hP
      refine hG_ ?_
      clear hG_ G_
      refine gen (CS.length - 2 - tt) (fun k0 hk0 => ?_)
      have hk1 : CS.length - 1 - tt = k0 + 1 := by clear hcvs; lia
      rw [hk1] at hcvs
      rw [show ((cvs.length : Int) - 1 - (tt : Nat)) = ((k0 + 1 : Nat) : Int) from by clear hrl hxl hr0 hhd hxs hjl hj hsum hii hR1l hR2l hcsum hk0; omega]
      refine Ae (fun G_ hG_ => ?_)
      obtain ⟨cc0, dd, tl, hc0, hc0n, hmd, hdn, hmk⟩ := KY (cs := CS) (k := k0) (by clear hrl hxl hr0 hhd hi62 hxs hjl hj hsum hii hR1l hR2l hcsum hcvl hcv62 htt hk0; omega) hgood
      refine hG_ ?_
      clear hG_ G_
      rw [hmd] at hcvs
      have htk0 : CS.take (k0 + 1) = CS.take k0 ++ [cc0] := by rw [List.take_add_one, hc0]; rfl
      have htkl : (CS.take k0).length = k0 := by rw [List.length_take]; clear htt hk1; lia
      have hLc : (CS.take (k0 + 1) ++ dd :: tl)[k0]? = some cc0 := by rw [htk0, List.append_assoc, List.getElem?_append_right (by clear hk0 hk1; exact Nat.le_of_eq htkl), htkl, Nat.sub_self]; rfl
      have hLd : (CS.take (k0 + 1) ++ dd :: tl)[k0 + 1]? = some dd := by rw [List.getElem?_append_right (by rw [List.length_take]; clear hk0 hk1; exact Nat.min_le_left _ _), List.length_take, show k0 + 1 - min (k0 + 1) CS.length = 0 from by clear hrl hxl hr0 hhd hi62 hxs hjl hj hsum hii hR1l hR2l hcsum hcvl hcv62 htt hk0 htkl; omega]; rfl
      refine Ae (fun G_ hG_ => ?_)
      obtain ⟨yc, hyc, tc, rfl⟩ := hcvs.get' hLc
      obtain ⟨yd, hyd, td, rfl⟩ := hcvs.get' hLd
      refine hG_ ?_
      clear hG_ G_
      have hsumL : DR (CS.take (k0 + 1) ++ dd :: tl) ≤ 200 := by
       have h1 := DC (CS.drop (k0 + 1))
       have h2 : DR (CS.take (k0 + 1)) + DR (CS.drop (k0 + 1)) = DR CS := by rw [← Cp, List.take_append_drop]
       rw [Cp, ← hmd]; lia
      have hccl : cc0.length ≤ 200 := Nat.le_trans (Fk (List.mem_of_getElem? hLc)) hsumL
      have hddl : dd.length ≤ 200 := Nat.le_trans (Fk (List.mem_of_getElem? hLd)) hsumL
      have hcvl' : cvs'.length ≤ 400 := by
       have h1 := hcvs.length
       have h2 := DD (CS.drop (k0 + 1))
       rw [hmd, List.length_drop] at h2
       rw [List.length_append, List.length_take] at h1; clear hxl hr0 hhd hi62 hxs hjl hj hsum hii hR1l hR2l hcvl htt hk0 hk1 htkl hsumL; omega
      have hkl' : k0 + 1 < cvs'.length := (List.getElem?_eq_some_iff.mp hyd).1
      have hk62 : k0 < 2 ^ 62 := by clear hk0 hk1; exact Nat.lt_trans (Nat.lt_of_lt_of_le (Nat.lt_trans (Nat.lt_succ_self _) hkl') hcvl') (by decide)
      have hk162 : k0 + 1 < 2 ^ 62 := by clear hk0 hk1 hk62; exact Nat.lt_trans (Nat.lt_of_lt_of_le hkl' hcvl') (by decide)
      have hclast : (seqIndex? (-1) cc0.length).bind (cc0[·]?) = some (cc0.getLastD 0) := Mj hc0n
      have hdhead : (seqIndex? 0 dd.length).bind (dd[·]?) = some (dd.headD 0) := HZ hdn
      have hcs : cc0.length ≤ sizeLine := by rw [sizeLine_eq]; exact Nat.le_trans (by assumption) (by decide)
      have hds : dd.length ≤ sizeLine := by rw [sizeLine_eq]; exact Nat.le_of_lt (Nat.lt_of_le_of_lt hddl (by decide))
      have hnext : CS.length - 1 - (tt + 1) = k0 := by lia
      with_reducible
       refine C0 (by assumption) (by tb_rel) (by top_caught) ?_
       refine A7 ?_; intro K_ hK_
       refine Ci ?_; intro K_ hK_
       refine A4 ?_
       refine BY ?_
       refine LW (E_l (by assumption) (by tb_rel) (by tb_rel)) (Gx (Ap (by assumption) (by tb_rel) (by tb_rel)) Ak) ?_; intro _
      rw [show (((k0 + 1 : Nat) : Int) - 1) = ((k0 : Nat) : Int) from by simp]
      with_reducible
       refine Ac (by top_args) (by assumption) (by assumption) ?_
       refine B1 (EV Ak) ?_; intro _
      refine CP (by decide) (by decide) hclast (fun t9 => ?_)
      with_reducible
       refine BY ?_
       refine DW (E_l (by assumption) (by tb_rel) (by tb_rel)) (E_l (by assumption) (by tb_rel) (by tb_rel)) ?_
       refine Ac (by top_args) (by assumption) (by assumption) ?_
       refine AC ?_; intro _
      refine CP (by decide) (by decide) hdhead (fun t9 => ?_)
      with_reducible
       refine JY ?_
       refine A1 ?_
       refine hK_ _ _ ?_; clear hK_ K_
      by_cases hlt : dd.headD 0 < cc0.getLastD 0
      ·refine A9 (decide_eq_true (PF.mpr hlt)) ?_
       with_reducible
        refine A7 ?_; intro K_ hK_
        refine EQ ?_
        refine Az ?_
        refine BY ?_
        refine LW (E_l (by assumption) (by tb_rel) (by tb_rel)) (Gx (Ap (by assumption) (by tb_rel) (by tb_rel)) Ak) ?_; intro _
       rw [show (((k0 + 1 : Nat) : Int) - 1) = ((k0 : Nat) : Int) from by lia]
       with_reducible
        refine Ac (by top_args) (by assumption) (by exact hk62) ?_
        refine Ex ?_
        refine Cf ?_
        refine BE ?_
        refine B1 (EV Ak) ?_; intro _
        intro _
        refine Ea .none (.int _ _) (by assumption) ?_; intro _
        refine BY ?_
        refine DW (E_l (by assumption) (by tb_rel) (by tb_rel)) (E_l (by assumption) (by tb_rel) (by tb_rel)) ?_
        refine Ac (by top_args) (by assumption) (by exact hk162) ?_
        refine Ex ?_
        refine BE ?_
        refine AC ?_; intro _
        refine Cf ?_
        intro _
        refine Ea (.int _ _) .none (by assumption) ?_; intro _
       rw [NW, Ke]
       have hnl : (cc0.dropLast ++ dd.tail).length ≤ 400 := by rw [List.length_append, List.length_dropLast, List.length_tail]; clear hxl hhd hi62 hxs hjl hj hsum hii hR1l hR2l hcsum hcvl hCS0 hcv62 htt hk0 hk1 htkl hsumL hnext hlt; omega
       refine BX (by rw [sizeLine_eq, List.length_dropLast, List.length_tail]; clear hxl hhd hi62 hxs hjl hj hsum hii hR1l hR2l hcsum hcvl hCS0 hcv62 htt hk0 hk1 htkl hsumL hnext hlt hnl; omega) (fun t10 => ?_)
       with_reducible
        refine AJ (by assumption) (by tb_rel) (by tb_rel) ?_
        refine B1 (Gx (Ap (by assumption) (by tb_rel) (by tb_rel)) Ak) ?_; intro _
       rw [show (((k0 + 1 : Nat) : Int) - 1) = ((k0 : Nat) : Int) from by lia]
       refine Hb (by top_caught) (by exact Nat.le_of_lt (by assumption)) (by exact Nat.le_trans (by assumption) (by decide)) ?_
       with_reducible
        refine hK_ _ _ ?_; clear hK_ K_
        refine B7 ?_
        refine N8 ?_
        refine Et ?_
        refine Hn ?_
        refine AJ (by assumption) (by tb_rel) (by tb_rel) ?_
        refine AJ (by assumption) (by tb_rel) (by tb_rel) ?_
       refine Mf (by top_caught) (by rw [List.length_set]; exact hkl') (by rw [List.length_set]; exact Nat.le_of_lt (Nat.lt_of_le_of_lt hcvl' (by decide))) ?_
       with_reducible
        refine F0 ?_
        refine hK_ _ _ ?_; clear hK_ K_
        refine Au ?_
        refine hK_ _ _ ?_; clear hK_ K_
       refine ⟨_, _, _, rfl, hb, ?_⟩
       rw [hnext, hmk, Dd, if_pos hlt]
       have hset := (hcvs.set k0 (a := cc0.dropLast ++ dd.tail) ⟨t10, rfl⟩).eraseIdx (k0 + 1)
       have hl2 : ((CS.take (k0 + 1) ++ dd :: tl).set k0 (cc0.dropLast ++ dd.tail)).eraseIdx (k0 + 1) = CS.take k0 ++ (cc0.dropLast ++ dd.tail) :: tl := by
        rw [htk0, List.append_assoc, List.set_append_right _ _ (by exact Nat.le_of_eq htkl), htkl, Nat.sub_self]
        rw [List.eraseIdx_append_of_length_le (by clear hk0 hk1; exact Nat.le_trans (Nat.le_of_eq htkl) (Nat.le_add_right _ _)), htkl, show k0 + 1 - k0 = 1 from by simp]
        rfl
       rw [hl2] at hset
       exact hset
      ·refine Ad (by rw [decide_eq_true_eq, PF]; exact hlt) ?_
       with_reducible
        refine Au ?_
        refine hK_ _ _ ?_; clear hK_ K_
        refine Au ?_
        refine hK_ _ _ ?_; clear hK_ K_
       refine ⟨cvs', _, _, rfl, hb, ?_⟩
       rw [hnext, hmk, Dd, if_neg hlt]
       rw [htk0] at hcvs; simpa using hcvs
     ·intro σ₂ hI
      clear hcvs
      refine Ae (fun G_ hG_ => ?_)
      obtain ⟨cvs', v5', ff3, rfl, hb, hcvs⟩ := hI
      refine hG_ ?_
      clear hG_ G_
      with_reducible
       refine Au ?_
      refine ⟨rfl, cvs', _, _, _, rfl, hb, ?_⟩
      rw [show CS.length - 1 - (cvs.length - 1) = 0 from by clear hrl hxl hr0 hhd hi62 hxs hjl hj hsum hii hR1l hR2l hcsum hcv62; omega] at hcvs
      simpa using hcvs
    ·intro f σ' hσ
     refine Ae (fun G_ hG_ => ?_)
     obtain ⟨rfl, cvs, v5, ca, ff2, rfl, hb, hcvs⟩ := hσ
     refine hG_ ?_
     clear hG_ G_
     dsimp only
     refine Kf ca (by top_caught) ?_
     refine Du ?_
     refine C7 ?_
     have hml := DD CS
     have hms := DC CS
     refine Me hc he hcode C hPb hbi KA (by decide) rfl (by with_unfolding_all rfl) (by decide) (by with_unfolding_all rfl) (by with_unfolding_all rfl) rfl (by decide) ?_ (by with_unfolding_all (intro _; rfl))
     with_reducible
      refine AJ (by assumption) (by tb_rel) (by tb_rel) ?_
     refine ⟨ca, cvs, AT CS, rfl, by top_args, hcvs, fun y hy => ?_, by lia, ?_, fun t' => ?_⟩
     ·have := Fk hy; lia
     ·show DR (AT CS) ≤ 65536; lia
     ·with_reducible
       refine A8 (by assumption) (by tb_rel) (by top_caught) ?_
      refine Js ?_
      exact hQ _ _ _ _ _ _ (List.mem_cons_of_mem _ hb)
end
noncomputable def isS (z : PySem.Str) : Value → Bool
 | .str y _ => y == z
 | _ => false
section
variable {c : Cx} {n : Nat}
theorem br_walk (hc : c.Ok) {P cc ra L : Addr} {e : Env} (he : Ag e L [((ofString "pat"), .local), ((ofString "STAR"), .local), ((ofString "QUESTION_MARK"), .local), ((ofString "res"), .local), ((ofString "add"), .local), ((ofString "i"), .local), ((ofString "n"), .local), ((ofString "c"), .local), ((ofString "j"), .local), ((ofString "stuff"), .local), ((ofString "chunks"), .local), ((ofString "k"), .local), ((ofString "chunk"), .local), ((ofString "len"), .globalImplicit), ((ofString "range"), .globalImplicit), ((ofString "_twin_re_1"), .globalImplicit), ((ofString "escape"), .globalImplicit)] [])
  (hcode : e.code = .ref cc) (C : CodeHd c.b cc P) (hPb : c.b.get? P = none) (hbi : c.b.BuiltinsAt c.mg P) (hra : F5 c.b ra) (hre : c.mg (ofString "_twin_re_1") = some (.ref ra))
  (hlen : c.mg (ofString "len") = none) (hlen' : c.mb (ofString "len") = some (.builtin "len")) (hran : c.mg (ofString "range") = none) (hran' : c.mb (ofString "range") = some (.type "range"))
  {x rr : List Nat} {i : Nat} (hxr : (x.take (i + rr.length)).drop i = rr) (hjl : i + rr.length < x.length) (hne : rr ≠ []) (hsg : ∀ ch ∈ rr, Sg ch) (hrl : rr.length ≤ 195) (hxl : x.length ≤ 900)
  {t u u1 u2 u3 : Tok} {star r b : Addr} {w1 w3 w4 w5 w6 : Option Value} {vs : List Value} {ff : Led} {Q : Flow → St → Prop} (hb : (b, Bu r) ∈ ff) (hvs : vs.length ≤ 900)
  (hQ : ∀ t' v1 v3 v4 v5 v6 v7 ff', (b, Bu r) ∈ ff' → Q .next ⟨[((ofString "pat"), some (.str (S x) t)), ((ofString "STAR"), some (.ref star)), ((ofString "QUESTION_MARK"), some (.str (S [91, 94, 45, 93]) u)), ((ofString "res"), some (.ref r)), ((ofString "add"), some (.ref b)), ((ofString "i"), some (.int ((i + rr.length + 1 : Nat) : Int) v1)), ((ofString "n"), some (.int (x.length : Nat) u2)), ((ofString "c"), w1), ((ofString "j"), v3), ((ofString "stuff"), v4), ((ofString "chunks"), v5), ((ofString "k"), v6), ((ofString "chunk"), v7)], [(r, .list (vs ++ [.str (S (Cu (Bx rr))) t']))], ff', []⟩) :
  W c P L 0 (execs Mi e) Q ⟨[((ofString "pat"), some (.str (S x) t)), ((ofString "STAR"), some (.ref star)), ((ofString "QUESTION_MARK"), some (.str (S [91, 94, 45, 93]) u)), ((ofString "res"), some (.ref r)), ((ofString "add"), some (.ref b)), ((ofString "i"), some (.int (i : Nat) u1)), ((ofString "n"), some (.int (x.length : Nat) u2)), ((ofString "c"), w1), ((ofString "j"), some (.int ((i + rr.length : Nat) : Int) u3)), ((ofString "stuff"), w3), ((ofString "chunks"), w4), ((ofString "k"), w5), ((ofString "chunk"), w6)], [(r, .list vs)], ff, []⟩ := by
 have hxs : x.length ≤ sizeLine := by rw [sizeLine_eq]; exact Nat.le_trans (by assumption) (by decide)
 have hvss : vs.length ≤ sizeLine := by rw [sizeLine_eq]; exact Nat.le_trans (by assumption) (by decide)
 refine AN ?_
 with_reducible
  refine A3 ?_
  refine F3 (BL (Bs (by assumption) (by tb_rel) (by tb_rel)) (Ax (Ap (by assumption) (by tb_rel) (by tb_rel))) (Ax (Ap (by assumption) (by tb_rel) (by tb_rel))) (by assumption)) ?_; intro _
  refine A8 (by assumption) (by tb_rel) (by top_caught) ?_
 rw [Jy, hxr]
 refine Du ?_
 refine PD (Q := fun f σ' => f = Flow.next ∧ Ex6 fun (t4 : Tok) (v1 v5 v6 v7 : Option Value) (ff2 : Led) => σ' = ⟨[((ofString "pat"), some (.str (S x) t)), ((ofString "STAR"), some (.ref star)), ((ofString "QUESTION_MARK"), some (.str (S [91, 94, 45, 93]) u)), ((ofString "res"), some (.ref r)), ((ofString "add"), some (.ref b)), ((ofString "i"), v1), ((ofString "n"), some (.int (x.length : Nat) u2)), ((ofString "c"), w1), ((ofString "j"), some (.int ((i + rr.length : Nat) : Int) u3)), ((ofString "stuff"), some (.str (S (Bx rr)) t4)), ((ofString "chunks"), v5), ((ofString "k"), v6), ((ofString "chunk"), v7)], [(r, .list vs)], ff2, []⟩ ∧ (b, Bu r) ∈ ff2) ?_ ?_
 ·refine Qi ?_
  with_reducible
   refine A4 ?_
   refine AP KA ?_; intro _
   refine AJ (by assumption) (by tb_rel) (by tb_rel) ?_
  refine Ht ?_
  with_reducible
   refine A1 ?_
  by_cases h45 : 45 ∈ rr
  ·refine Ad (by simpa using h45) ?_
   refine ch_walk hc he hcode C hPb hbi hlen hlen' hran hran' hxr hjl h45 hrl hxl hb (fun t' v1 v5 v6 v4 ff' hb' => ?_)
   exact ⟨rfl, t', v1, v4, v5, v6, ff', by rw [Bx, if_pos h45], hb'⟩
  ·refine A9 (by simpa using h45) ?_
   refine Du ?_
   refine C7 ?_
   refine KX Qe lit8 (by decide) (by decide) ?_
   with_reducible
    refine AJ (by assumption) (by tb_rel) (by tb_rel) ?_
   refine ⟨rr, _, rfl, by exact Nat.le_trans (by assumption) (by decide), fun t' => ?_⟩
   with_reducible
    refine A8 (by assumption) (by tb_rel) (by top_caught) ?_
   refine Js ?_
   exact ⟨rfl, t', _, _, _, _, _, by rw [Bx, if_neg h45], hb⟩
 ·intro f σ' hσ
  refine Ae (fun G_ hG_ => ?_)
  obtain ⟨rfl, t4, v1, v5, v6, v7, ff2, rfl, hb⟩ := hσ
  refine hG_ ?_
  clear hG_ G_
  have hsl := HX hrl
  have hst := NV hsg
  have hdl := HY hsl
  refine gen (Bx rr) (fun s hs => ?_)
  rw [← hs] at hsl hst hdl hQ ⊢
  have hss : s.length ≤ sizeLine := by rw [sizeLine_eq]; exact Nat.le_trans (by assumption) (by decide)
  dsimp only
  refine Du ?_
  refine C7 ?_
  refine W_sub hc he hcode C hPb hbi hra (BW (JX hc he (by tb_rel) hre ⟨rfl, rfl⟩)) (fun fa => ?_)
  with_reducible
   refine AJ (by assumption) (by tb_rel) (by tb_rel) ?_
  refine ⟨s, _, rfl, fun ch hch => sg_tame (hst ch hch), by exact Nat.le_of_lt (Nat.lt_of_le_of_lt hsl (by decide)), by top_args, fun t' => ?_⟩
  with_reducible
   refine A8 (by assumption) (by tb_rel) (by top_caught) ?_
  refine Dt ?_
  refine AB ?_
  with_reducible
   refine A3 ?_
   refine B1 (AF (Ap (by assumption) (by tb_rel) (by tb_rel)) Ak) ?_; intro _
   refine A8 (by assumption) (by tb_rel) (by top_caught) ?_
   refine A7 ?_; intro K_ hK_
   refine Ci ?_; intro K_ hK_
   refine DA ?_
   refine BT ?_
   refine AJ (by assumption) (by tb_rel) (by tb_rel) ?_
  rw [show (((i + rr.length : Nat) : Int) + 1) = ((i + rr.length + 1 : Nat) : Int) from rfl]
  refine ER (by exact Nat.lt_of_le_of_lt (by assumption) (by decide)) ?_
  refine hK_ _ _ ?_
  clear hK_ K_
  by_cases hs0 : s = []
  ·refine A9 (by simpa using hs0) ?_
   with_reducible
    refine B7 ?_
    refine BF ?_ (by assumption)
    refine Cd ?_
    refine AJ (by assumption) (by tb_rel) (by tb_rel) ?_
    refine AL (by top_args) ?_
    refine FE lit9 ?_; intro _
    ((show Has _ _ _ ∧ V _ _ _ _ _ _); refine And.intro (by top_args) ?_)
    refine AM (by top_args) (by top_caught) (by first | assumption | (simp only [List.length_append, List.length_cons, List.length_nil, sizeLine_eq]; lia)) ?_
    refine hK_ _ _ ?_; clear hK_ K_
    refine Au ?_
   have hd : Cu s = [40, 63, 33, 41] := by rw [Cu, if_pos hs0]
   rw [hd] at hQ
   exact hQ _ _ _ _ _ _ _ _ (by tb_rel)
  ·refine Ad (by simpa using hs0) ?_
   with_reducible
    refine A7 ?_; intro K_ hK_
    refine Ci ?_; intro K_ hK_
    refine Ct (Aq (Bs (by assumption) (by tb_rel) (by tb_rel)) (AY LL) B9) ?_
    refine hK_ _ _ ?_; clear hK_ K_
   by_cases hs1 : s = [33]
   ·refine A9 (by simpa using hs1) ?_
    with_reducible
     refine B7 ?_
     refine BF ?_ (by assumption)
     refine Cd ?_
     refine AJ (by assumption) (by tb_rel) (by tb_rel) ?_
     refine AL (by top_args) ?_
     refine FE lit10 ?_; intro _
     ((show Has _ _ _ ∧ V _ _ _ _ _ _); refine And.intro (by top_args) ?_)
     refine AM (by top_args) (by top_caught) (by first | assumption | (simp only [List.length_append, List.length_cons, List.length_nil, sizeLine_eq]; lia)) ?_
     refine hK_ _ _ ?_; clear hK_ K_
     refine Au ?_
     refine hK_ _ _ ?_; clear hK_ K_
     refine Au ?_
    have hd : Cu s = [46] := by rw [Cu, if_neg hs0, if_pos hs1]
    rw [hd] at hQ
    exact hQ _ _ _ _ _ _ _ _ (by tb_rel)
   ·refine Ad (by simpa using hs1) ?_
    have hd : Cu s = [91] ++ (if s.headD 0 = 33 then 94 :: s.tail else if s.headD 0 = 94 ∨ s.headD 0 = 91 then 92 :: s else s) ++ [93] := by rw [Cu, if_neg hs0, if_neg hs1]
    refine gen ((if s.headD 0 = 33 then 94 :: s.tail else if s.headD 0 = 94 ∨ s.headD 0 = 91 then 92 :: s else s)) (fun y hy => ?_)
    rw [← hy] at hd
    rw [hd] at hQ
    have hyl : y.length ≤ 990 := by
     rw [hy]
     split
     ·simp; exact Nat.le_of_lt (Nat.lt_of_le_of_lt hsl (by decide))
     ·split
      ·simp; exact Nat.le_of_lt (Nat.lt_of_le_of_lt hsl (by decide))
      ·lia
    have hhead := HZ hs0
    refine AB ?_
    refine An (Q := fun f σ' => f = Flow.next ∧ Ex3 fun (t4 t5 : Tok) (ff2 : Led) => σ' = ⟨[((ofString "pat"), some (.str (S x) t)), ((ofString "STAR"), some (.ref star)), ((ofString "QUESTION_MARK"), some (.str (S [91, 94, 45, 93]) u)), ((ofString "res"), some (.ref r)), ((ofString "add"), some (.ref b)), ((ofString "i"), some (.int ((i + rr.length + 1 : Nat) : Int) t5)), ((ofString "n"), some (.int (x.length : Nat) u2)), ((ofString "c"), w1), ((ofString "j"), some (.int ((i + rr.length : Nat) : Int) u3)), ((ofString "stuff"), some (.str (S y) t4)), ((ofString "chunks"), v5), ((ofString "k"), v6), ((ofString "chunk"), v7)], [(r, .list vs)], ff2, []⟩ ∧ (b, Bu r) ∈ ff2) ?_ ?_
    ·with_reducible
      refine Ci ?_; intro K_ hK_
      refine A4 ?_
      refine BY ?_
      refine AJ (by assumption) (by tb_rel) (by tb_rel) ?_
      refine AC ?_; intro _
     refine CP (by decide) (by decide) hhead (fun t9 => ?_)
     with_reducible
      refine AP LL ?_; intro _
      refine Cv ?_
      refine A1 ?_
      refine hK_ _ _ ?_; clear hK_ K_
     by_cases h33 : s.headD 0 = 33
     ·refine A9 (by simpa using h33) ?_
      with_reducible
       refine B7 ?_
       refine A3 ?_
       refine Az ?_
       refine AP Ni ?_; intro _
       refine F3 (BL (Bs (by assumption) (by tb_rel) (by tb_rel)) (Ax Ak) FB (by assumption)) ?_; intro _
      rw [Ke]
      refine BX (by rw [sizeLine_eq, List.length_tail]; simp; clear hjl hrl hxl hvs hxs hvss; omega) (fun t10 => ?_)
      with_reducible
       refine A8 (by assumption) (by tb_rel) (by top_caught) ?_
      rw [hy, if_pos h33]
      exact ⟨rfl, _, _, _, rfl, by tb_rel⟩
     ·refine Ad (by simpa using h33) ?_
      with_reducible
       refine A7 ?_; intro K_ hK_
       refine Ci ?_; intro K_ hK_
       refine A4 ?_
       refine BY ?_
       refine AJ (by assumption) (by tb_rel) (by tb_rel) ?_
       refine AC ?_; intro _
      refine CP (by decide) (by decide) hhead (fun t9 => ?_)
      with_reducible
       refine Aw ?_
       refine H6 Ni PQ ?_; intro _ _
       refine A6 (by with_unfolding_all exact Nat.le_of_ble_eq_true rfl) ?_; intro _
      refine Ff (vs := [.str (S [94]) _, .str (S [91]) _]) (isS (S [s.headD 0])) (by top_args) (fun v hv => ?_) ?_
      ·simp only [List.mem_cons, List.not_mem_nil, or_false] at hv
       rcases hv with rfl | rfl
       ·show EqV _ _ _ (S [94] == S [s.headD 0])
        rw [Ga]; exact EqV.strs
       ·show EqV _ _ _ (S [91] == S [s.headD 0])
        rw [Ga]; exact EqV.strs
      ·with_reducible
        refine A1 ?_
        refine hK_ _ _ ?_; clear hK_ K_
       have hany : ∀ ta tb, (List.any [Value.str (S [94]) ta, Value.str (S [91]) tb] (isS (S [s.headD 0]))) = decide (s.headD 0 = 94 ∨ s.headD 0 = 91) := by
        intro ta tb
        show ((S [94] == S [s.headD 0]) || ((S [91] == S [s.headD 0]) || false)) = _
        rw [Ga, Ga, Bool.or_false, ← Bool.decide_or]
        refine decide_eq_decide.mpr ?_
        simp only [List.cons.injEq, and_true]
        constructor
        ·rintro (h | h)
         ·exact .inl h.symm
         ·exact .inr h.symm
        ·rintro (h | h)
         ·exact .inl h.symm
         ·exact .inr h.symm
       rw [hany]
       by_cases h94 : s.headD 0 = 94 ∨ s.headD 0 = 91
       ·refine A9 (decide_eq_true h94) ?_
        with_reducible
         refine B7 ?_
         refine A3 ?_
         refine Az ?_
         refine AP Qe ?_; intro _
         refine AJ (by assumption) (by tb_rel) (by tb_rel) ?_
        refine BX (by rw [sizeLine_eq]; simp; lia) (fun t10 => ?_)
        with_reducible
         refine A8 (by assumption) (by tb_rel) (by top_caught) ?_
         refine hK_ _ _ ?_; clear hK_ K_
         refine Au ?_
        rw [hy, if_neg h33, if_pos h94]
        exact ⟨rfl, _, _, _, rfl, by tb_rel⟩
       ·refine Ad (by rw [decide_eq_true_eq]; exact h94) ?_
        with_reducible
         refine Au ?_
         refine hK_ _ _ ?_; clear hK_ K_
         refine Au ?_
        rw [hy, if_neg h33, if_neg h94]
        exact ⟨rfl, _, _, _, rfl, by tb_rel⟩
    ·intro f σ' hσ
     refine Ae (fun G_ hG_ => ?_)
     obtain ⟨rfl, t4, t5, ff2, rfl, hb⟩ := hσ
     refine hG_ ?_
     clear hG_ G_
     with_reducible
      refine B7 ?_
      refine BF ?_ (by assumption)
      refine Cd ?_
      refine AJ (by assumption) (by tb_rel) (by tb_rel) ?_
      refine AL (by top_args) ?_
      refine A0 ?_
      refine Jt (by first | exact Nj | exact PS | exact PQ) (by first | exact Nk | exact Nl | exact Nh) (by rw [sizeLine_eq]; decide) ?_
      refine AJ (by assumption) (by tb_rel) (by tb_rel) ?_
     refine ⟨y, _, rfl, by rw [sizeLine_eq]; simp only [List.length_cons, List.length_nil]; lia, fun t' => ?_⟩
     with_reducible
      refine A2 ?_
      ((show Has _ _ _ ∧ V _ _ _ _ _ _); refine And.intro (by top_args) ?_)
      refine AM (by top_args) (by top_caught) (by first | assumption | (simp only [List.length_append, List.length_cons, List.length_nil, sizeLine_eq]; lia)) ?_
      refine hK_ _ _ ?_; clear hK_ K_
      refine Au ?_
      refine hK_ _ _ ?_; clear hK_ K_
      refine Au ?_
     exact hQ _ _ _ _ _ _ _ _ hb
end
theorem NX : (Al 6).names = [((ofString "pat"), .local), ((ofString "STAR"), .local), ((ofString "QUESTION_MARK"), .local), ((ofString "res"), .local), ((ofString "add"), .local), ((ofString "i"), .local), ((ofString "n"), .local), ((ofString "c"), .local), ((ofString "j"), .local), ((ofString "stuff"), .local), ((ofString "chunks"), .local), ((ofString "k"), .local), ((ofString "chunk"), .local), ((ofString "len"), .globalImplicit), ((ofString "range"), .globalImplicit), ((ofString "_twin_re_1"), .globalImplicit), ((ofString "escape"), .globalImplicit)] := by rfl
theorem NY (acc : List BA) (t : Tk) : (Fi acc t).length ≤ acc.length + 1 := by
 cases t with
 | star =>
  simp only [Fi]
  split
  ·simp
  ·simp
 | quest => simp [Fi]
 | br r => simp [Fi]
theorem J0 : ∀ (ts : List Tk) (acc : List BA), (ts.foldl Fi acc).length ≤ acc.length + ts.length
 | [], acc => Nat.le_refl _
 | t :: r, acc => by
  have h1 := NY acc t
  have h2 := J0 r (Fi acc t)
  simp only [List.foldl_cons, List.length_cons]; lia
theorem Mk (ts : List Tk) : (As ts).length ≤ ts.length := by
 have := J0 ts []
 simpa [As] using this
theorem Ml (ts : List Tk) : ts.length ≤ (ts.map Tk.text).flatten.length := by
 induction ts with
 | nil => exact Nat.le_refl _
 | cons t r ih =>
  have : 1 ≤ t.text.length := by cases t <;> simp [Tk.text]
  simp only [List.map_cons, List.flatten_cons, List.length_append, List.length_cons]; lia
theorem CV (ts : List Tk) (t : Tk) : As (ts ++ [t]) = Fi (As ts) t := by simp [As]
inductive TrE (x : List Nat) (t : Tok) (star : Addr) (u : Tok) (ts : List Tk) (σ : St) : Prop
 | mk (vs : List Value) (u1 u2 : Tok) (r b : Addr) (w1 w2 w3 w4 w5 w6 : Option Value) (ff : Led) (h0 : σ = ⟨[((ofString "pat"), some (.str (S x) t)), ((ofString "STAR"), some (.ref star)), ((ofString "QUESTION_MARK"), some (.str (S [91, 94, 45, 93]) u)), ((ofString "res"), some (.ref r)), ((ofString "add"), some (.ref b)), ((ofString "i"), some (.int (x.length : Nat) u1)), ((ofString "n"), some (.int (x.length : Nat) u2)), ((ofString "c"), w1), ((ofString "j"), w2), ((ofString "stuff"), w3), ((ofString "chunks"), w4), ((ofString "k"), w5), ((ofString "chunk"), w6)], [(r, .list vs)], ff, []⟩) (h1 : AA (K7 star) (As ts) vs)
inductive TrI (x : List Nat) (t : Tok) (star : Addr) (u : Tok) (ts : List Tk) (fuel : Nat) (σ : St) : Prop
 | mk (dn td : List Tk) (i : Nat) (vs : List Value) (u1 u2 : Tok) (r b : Addr) (w1 w2 w3 w4 w5 w6 : Option Value) (ff : Led) (h0 : σ = ⟨[((ofString "pat"), some (.str (S x) t)), ((ofString "STAR"), some (.ref star)), ((ofString "QUESTION_MARK"), some (.str (S [91, 94, 45, 93]) u)), ((ofString "res"), some (.ref r)), ((ofString "add"), some (.ref b)), ((ofString "i"), some (.int (i : Nat) u1)), ((ofString "n"), some (.int (x.length : Nat) u2)), ((ofString "c"), w1), ((ofString "j"), w2), ((ofString "stuff"), w3), ((ofString "chunks"), w4), ((ofString "k"), w5), ((ofString "chunk"), w6)], [(r, .list vs)], ff, []⟩) (h1 : (b, Bu r) ∈ ff) (h2 : ts = dn ++ td) (h3 : i = (dn.map Tk.text).flatten.length) (h4 : AA (K7 star) (As dn) vs) (h5 : fuel = td.length)
section
variable {c : Cx} {n : Nat}
theorem L1 (hc : c.Ok) {P cc ra a : Addr} (F : D0 c a (ofString "_translate") [(ofString "pat"), (ofString "STAR"), (ofString "QUESTION_MARK")] (Av 6) (Al 6)) (hcc : ∃ o fd, c.b.get? a = some o ∧ o.data = .func fd ∧ fd.code = .ref cc)
  (C : CodeHd c.b cc P) (hPb : c.b.get? P = none) (hbi : c.b.BuiltinsAt c.mg P) (hra : F5 c.b ra) (hre : c.mg (ofString "_twin_re_1") = some (.ref ra))
  (hlen : c.mg (ofString "len") = none) (hlen' : c.mb (ofString "len") = some (.builtin "len")) (hran : c.mg (ofString "range") = none) (hran' : c.mb (ofString "range") = some (.type "range"))
  {star : Addr} {ts : List Tk} {x : List Nat} {t u : Tok} (hx : x = (ts.map Tk.text).flatten) (hts : ∀ tk ∈ ts, tk.ok) (hrl : ∀ rr, Tk.br rr ∈ ts → rr.length ≤ 195) (hxl : x.length ≤ 900) :
  HO c P 1 (.ref a) [.str (S x) t, .ref star, .str (S [91, 94, 45, 93]) u] [] (fun v nz => ∃ r vs, v = .ref r ∧ nz = [(r, .list vs)] ∧ AA (K7 star) (As ts) vs) := by
 refine NR hc F NX rfl rfl rfl (by decide) (by decide) rfl (by decide) fun L e he0 hcd => ?_
 have he : Ag e L [((ofString "pat"), .local), ((ofString "STAR"), .local), ((ofString "QUESTION_MARK"), .local), ((ofString "res"), .local), ((ofString "add"), .local), ((ofString "i"), .local), ((ofString "n"), .local), ((ofString "c"), .local), ((ofString "j"), .local), ((ofString "stuff"), .local), ((ofString "chunks"), .local), ((ofString "k"), .local), ((ofString "chunk"), .local), ((ofString "len"), .globalImplicit), ((ofString "range"), .globalImplicit), ((ofString "_twin_re_1"), .globalImplicit), ((ofString "escape"), .globalImplicit)] [] := he0
 have hcode : e.code = .ref cc := by obtain ⟨o, fd, q1, q2, q3⟩ := hcc; rw [(hcd o fd q1 q2).1, q3]
 clear he0 hcd
 have hx62 : x.length < 2 ^ 62 := by exact Nat.lt_of_le_of_lt (by assumption) (by decide)
 show W0 c P L 0 (execs (Av 6) e) _ ⟨[((ofString "pat"), some (.str (S x) t)), ((ofString "STAR"), some (.ref star)), ((ofString "QUESTION_MARK"), some (.str (S [91, 94, 45, 93]) u)), ((ofString "res"), none), ((ofString "add"), none), ((ofString "i"), none), ((ofString "n"), none), ((ofString "c"), none), ((ofString "j"), none), ((ofString "stuff"), none), ((ofString "chunks"), none), ((ofString "k"), none), ((ofString "chunk"), none)], [], [], []⟩
 refine K9 he (by tb_rel) ?_
 with_reducible
  refine Bo ?_
  refine A2 ?_
  refine Ao (by with_unfolding_all exact Nat.le_of_ble_eq_true rfl) ?_; intro _
 refine ⟨_, by top_caught, ?_⟩
 refine AN ?_
 with_reducible
  refine A3 ?_
  refine PC ?_
  refine AJ (by assumption) (by tb_rel) (by tb_rel) ?_
  refine Di (by top_args) ?_; intro _
  refine A8 (by assumption) (by tb_rel) (by top_caught) ?_
 refine AN ?_
 with_reducible
  refine BV ?_ (by with_unfolding_all first | rfl | exact sw2 (by assumption) (by tb_rel) (by tb_rel) rfl | exact sw3 (by assumption) (by tb_rel) (by tb_rel) (by tb_rel) rfl)
  refine Aw ?_
  refine A0 ?_
  refine AC ?_; intro _
  refine A0 ?_
  refine B1 (EA (by assumption) (by assumption) (by tb_rel) (by assumption) (by assumption) (Bs (by assumption) (by tb_rel) (by tb_rel)) (by assumption)) ?_; intro _
  refine A2 ?_
  refine A6 (by with_unfolding_all exact Nat.le_of_ble_eq_true rfl) ?_; intro _
  ((show ∃ _ _ _, _ = _ ∧ Has _ _ _ ∧ V _ _ _ _ _ _); refine ⟨_, _, _, rfl, (by top_args), ?_⟩)
  refine A8 (by assumption) (by tb_rel) (by top_caught) ?_
  refine A8 (by assumption) (by tb_rel) (by top_caught) ?_
 refine Du ?_
 refine PD (Q := fun f σ' => f = Flow.next ∧ TrE x t star u ts σ') ?_ ?_
 ·refine W_while (TrI x t star u ts)
   ts.length ⟨[], ts, 0, _, _, _, _, _, _, _, _, _, _, _, _, rfl, by tb_rel, rfl, rfl, .nil, rfl⟩ (fun fuel σ hI => ?_)
  refine Ae (fun G_ hG_ => ?_)
  obtain ⟨dn, td, i, vs, u1, u2, r, b, w1, w2, w3, w4, w5, w6, ff, rfl, hb, htd, hi, hacc, hfu⟩ := hI
  refine hG_ ?_
  clear hG_ G_
  with_reducible
   refine Ct (Aq (Ap (by assumption) (by tb_rel) (by tb_rel)) (Ap (by assumption) (by tb_rel) (by tb_rel)) Ee) ?_
  have hvsl := hacc.length
  have htl := Mk dn
  have htt := Ml dn
  cases td with
  | nil =>
   have hix : i = x.length := by rw [hi, hx, htd, List.append_nil]
   refine Ad (by simp; clear htt; exact Nat.le_of_eq hix.symm) ?_
   refine Js ?_
   rw [List.append_nil] at htd
   rw [hix]
   exact ⟨rfl, _, _, _, _, _, _, _, _, _, _, _, _, rfl, htd ▸ hacc⟩
  | cons tk td =>
   have hxs : x = (dn.map Tk.text).flatten ++ (tk.text ++ (td.map Tk.text).flatten) := by rw [hx, htd]; simp
   have htk : 1 ≤ tk.text.length := by cases tk <;> simp [Tk.text]
   have hxlen : x.length = i + (tk.text.length + (td.map Tk.text).flatten.length) := by rw [hxs, List.length_append, List.length_append, hi]
   have hat : ∀ p, x[i + p]? = (tk.text ++ (td.map Tk.text).flatten)[p]? := fun p => by rw [hxs, hi, List.getElem?_append_right (Nat.le_add_right _ _), Nat.add_sub_cancel_left]
   have hin : i + 0 < x.length := by clear htt; lia
   have hvs62 : vs.length < 2 ^ 62 := by exact Nat.lt_trans (Nat.lt_of_le_of_lt (Nat.le_trans (Nat.le_trans (Nat.le_trans (Nat.le_trans (Nat.le_of_eq hvsl.symm) htl) htt) (Nat.le_of_eq hi.symm)) (Nat.le_add_right _ _)) hin) hx62
   have hvss : vs.length ≤ sizeLine := by rw [sizeLine_eq]; exact Nat.le_of_lt (Nat.lt_trans (Nat.lt_of_lt_of_le (Nat.lt_of_le_of_lt (Nat.le_trans (Nat.le_trans (Nat.le_trans (Nat.le_trans (Nat.le_of_eq hvsl.symm) htl) htt) (Nat.le_of_eq hi.symm)) (Nat.le_add_right _ _)) hin) hxl) (by decide))
   refine A9 (by simp; assumption) ?_
   have hi62 : i < 2 ^ 62 := by clear htt hxlen; exact Nat.lt_trans (Nat.lt_of_le_of_lt (Nat.le_add_right _ _) hin) hx62
   have hch : x[i]? = (tk.text)[0]? := by have := hat 0; rw [Nat.add_zero] at this; rw [this, List.getElem?_append_left (by assumption)]
   have hdn1 : ts = (dn ++ [tk]) ++ td := by rw [htd]; simp
   have hlen1 : ((dn ++ [tk]).map Tk.text).flatten.length = i + tk.text.length := by rw [List.map_append, List.flatten_append, List.length_append, ← hi]; simp
   cases tk with
   | star =>
    have hch : x[i]? = some 42 := hch
    refine AN ?_
    with_reducible
     refine A3 ?_
     refine DW (E_l (by assumption) (by tb_rel) (by tb_rel)) (E_l (by assumption) (by tb_rel) (by tb_rel)) ?_
     refine AX (by assumption) (by exact hi62) ?_; intro _
     refine A8 (by assumption) (by tb_rel) (by top_caught) ?_
    refine AN ?_
    with_reducible
     refine A3 ?_
     refine B1 (AF (Ap (by assumption) (by tb_rel) (by tb_rel)) Ak) ?_; intro _
     refine A8 (by assumption) (by tb_rel) (by top_caught) ?_
    refine Dt ?_
    refine AB ?_
    with_reducible
     refine D6 (Aq (Bs (by assumption) (by tb_rel) (by tb_rel)) (AY lit0) B9) (by decide) ?_
     refine B7 ?_
     refine Ci ?_; intro K_ hK_
     refine Ai ?_
     refine Be ?_
     refine DA ?_
     refine BT ?_
     refine AJ (by assumption) (by tb_rel) (by tb_rel) ?_
    refine H1 (by top_args) hvs62 ?_
    have hT1 : ((dn ++ [Tk.star]).map Tk.text).flatten.length = i + 1 := hlen1
    by_cases hve : vs = []
    ·refine A9 (by rw [hve]; rfl) ?_
     with_reducible
      refine hK_ _ _ ?_; clear hK_ K_
      refine A9 (by decide) ?_
      refine B7 ?_
      refine BF ?_ (by assumption)
      refine Cd ?_
      refine AJ (by assumption) (by tb_rel) (by tb_rel) ?_
      refine AL (by top_args) ?_
      refine DV (E_l (by assumption) (by tb_rel) (by tb_rel)) ?_
      ((show Has _ _ _ ∧ V _ _ _ _ _ _); refine And.intro (by top_args) ?_)
      refine AM (by top_args) (by top_caught) (by first | assumption | (simp only [List.length_append, List.length_cons, List.length_nil, sizeLine_eq]; lia)) ?_
      refine Au ?_
     have hT0 : As dn = [] := List.length_eq_zero_iff.mp (by rw [hvsl, hve]; rfl)
     refine ⟨td.length, by rw [hfu]; simp, dn ++ [Tk.star], td, i + 1, _, _, _, _, _, _, _, _, _, _, _, _, rfl, by tb_rel, hdn1, hT1.symm, ?_, rfl⟩
     rw [CV, hT0, hve]
     exact .cons rfl .nil
    ·refine Ad (by simpa using hve) ?_
     with_reducible
      refine Be ?_
      refine A4 ?_
      refine LW (E_l (by assumption) (by tb_rel) (by tb_rel)) (EV Ak) ?_; intro _
     have hvp : 0 < vs.length := List.length_pos_iff.mpr hve
     refine Ae (fun G_ hG_ => ?_)
     obtain ⟨pl, y, hpl, hy, hpy⟩ := hacc.last hve
     refine hG_ ?_
     clear hG_ G_
     refine Dm (by top_args) (by decide) (by clear htl; lia) (by decide) (show vs[(-1 + (vs.length : Int)).toNat]? = some y from by rw [show (-1 + (vs.length : Int)).toNat = vs.length - 1 from by clear hcc htl; lia]; exact hy) ?_
     cases pl with
     | none =>
      cases hpy
      with_reducible
       refine AJ (by assumption) (by tb_rel) (by tb_rel) ?_
       refine Dr ?_
       refine A1 ?_
       refine Ad (by decide) ?_
       refine E6 ?_
       refine hK_ _ _ ?_; clear hK_ K_
       refine Ad (by decide) ?_
       refine Au ?_
       refine Au ?_
      refine ⟨td.length, by rw [hfu]; simp, dn ++ [Tk.star], td, i + 1, _, _, _, _, _, _, _, _, _, _, _, _, rfl, by tb_rel, hdn1, hT1.symm, ?_, rfl⟩
      rw [CV]
      show AA _ (if (As dn).getLast? = some none then As dn else As dn ++ [none]) vs
      rw [if_pos hpl]; exact hacc
     | some xl =>
      obtain ⟨tl, rfl⟩ := hpy
      with_reducible
       refine AJ (by assumption) (by tb_rel) (by tb_rel) ?_
       refine D9 ?_
       refine A1 ?_
       refine A9 (by decide) ?_
       refine hK_ _ _ ?_; clear hK_ K_
       refine A9 (by decide) ?_
       refine B7 ?_
       refine BF ?_ (by assumption)
       refine Cd ?_
       refine AJ (by assumption) (by tb_rel) (by tb_rel) ?_
       refine AL (by top_args) ?_
       refine DV (E_l (by assumption) (by tb_rel) (by tb_rel)) ?_
       ((show Has _ _ _ ∧ V _ _ _ _ _ _); refine And.intro (by top_args) ?_)
       refine AM (by top_args) (by top_caught) (by first | assumption | (simp only [List.length_append, List.length_cons, List.length_nil, sizeLine_eq]; lia)) ?_
       refine Au ?_
      refine ⟨td.length, by rw [hfu]; simp, dn ++ [Tk.star], td, i + 1, _, _, _, _, _, _, _, _, _, _, _, _, rfl, by tb_rel, hdn1, hT1.symm, ?_, rfl⟩
      rw [CV]
      show AA _ (if (As dn).getLast? = some none then As dn else As dn ++ [none]) _
      rw [if_neg (by rw [hpl]; intro q; cases q)]
      exact hacc.append (.cons rfl .nil)
   | quest =>
    have hch : x[i]? = some 63 := hch
    refine AN ?_
    with_reducible
     refine A3 ?_
     refine DW (E_l (by assumption) (by tb_rel) (by tb_rel)) (E_l (by assumption) (by tb_rel) (by tb_rel)) ?_
     refine AX (by assumption) (by lia) ?_; intro _
     refine A8 (by assumption) (by tb_rel) (by top_caught) ?_
    refine AN ?_
    with_reducible
     refine A3 ?_
     refine B1 (AF (Ap (by assumption) (by tb_rel) (by tb_rel)) Ak) ?_; intro _
     refine A8 (by assumption) (by tb_rel) (by top_caught) ?_
    refine Dt ?_
    refine AB ?_
    with_reducible
     refine DX (Aq (Bs (by assumption) (by tb_rel) (by tb_rel)) (AY lit0) B9) (by decide) ?_
     refine B7 ?_
     refine D6 (Aq (Bs (by assumption) (by tb_rel) (by tb_rel)) (AY lit1) B9) (by decide) ?_
     refine B7 ?_
     refine BF ?_ (by assumption)
     refine Cd ?_
     refine AJ (by assumption) (by tb_rel) (by tb_rel) ?_
     refine AL (by top_args) ?_
     refine DV (E_l (by assumption) (by tb_rel) (by tb_rel)) ?_
     ((show Has _ _ _ ∧ V _ _ _ _ _ _); refine And.intro (by top_args) ?_)
     refine AM (by top_args) (by top_caught) (by first | assumption | (simp only [List.length_append, List.length_cons, List.length_nil, sizeLine_eq]; lia)) ?_
     refine Au ?_
    have hT1 : ((dn ++ [Tk.quest]).map Tk.text).flatten.length = i + 1 := hlen1
    refine ⟨td.length, by rw [hfu]; simp, dn ++ [Tk.quest], td, i + 1, _, _, _, _, _, _, _, _, _, _, _, _, rfl, by tb_rel, hdn1, hT1.symm, ?_, rfl⟩
    rw [CV]
    exact hacc.append (.cons ⟨_, rfl⟩ .nil)
   | br rr =>
    have hch : x[i]? = some 91 := hch
    refine AN ?_
    with_reducible
     refine A3 ?_
     refine DW (E_l (by assumption) (by tb_rel) (by tb_rel)) (E_l (by assumption) (by tb_rel) (by tb_rel)) ?_
     refine AX (by assumption) (by lia) ?_; intro _
     refine A8 (by assumption) (by tb_rel) (by top_caught) ?_
    refine AN ?_
    with_reducible
     refine A3 ?_
     refine B1 (AF (Ap (by assumption) (by tb_rel) (by tb_rel)) Ak) ?_; intro _
     refine A8 (by assumption) (by tb_rel) (by top_caught) ?_
    refine Du ?_
    refine Qi ?_
    with_reducible
     refine Ct (Aq (Bs (by assumption) (by tb_rel) (by tb_rel)) (AY lit0) B9) ?_
     refine Ad (by decide) ?_
    refine Du ?_
    refine Qi ?_
    with_reducible
     refine Ct (Aq (Bs (by assumption) (by tb_rel) (by tb_rel)) (AY lit1) B9) ?_
     refine Ad (by decide) ?_
    refine Du ?_
    refine Qi ?_
    with_reducible
     refine Ct (Aq (Bs (by assumption) (by tb_rel) (by tb_rel)) (AY PQ) B9) ?_
     refine A9 (by decide) ?_
    obtain ⟨hne, hn1, hsg⟩ := hts (.br rr) (by rw [htd]; simp)
    have hrr := hrl rr (by rw [htd]; simp)
    have hlx : x.length = i + (rr.length + 2 + (td.map Tk.text).flatten.length) := by simp only [Tk.text, List.length_append, List.length_cons, List.length_nil] at hxlen; lia
    have hat' : ∀ p, x[i + 1 + p]? = (rr ++ ([93] ++ (td.map Tk.text).flatten))[p]? := fun p => by
     have := hat (1 + p)
     rw [← Nat.add_assoc] at this
     rw [this]
     simp only [Tk.text, List.append_assoc, List.cons_append, List.nil_append]
     rw [Nat.add_comm 1 p, List.getElem?_cons_succ]
    have hxrr : ∀ p, p < rr.length → x[i + 1 + p]? = rr[p]? := fun p hp => by rw [hat', List.getElem?_append_left hp]
    have hend : x[i + 1 + rr.length]? = some 93 := by rw [hat', List.getElem?_append_right (Nat.le_refl _), Nat.sub_self]; rfl
    have hcut : (x.take (i + 1 + rr.length)).drop (i + 1) = rr := by
     apply List.ext_getElem?
     intro p
     rw [List.getElem?_drop, List.getElem?_take]
     by_cases hp : p < rr.length
     ·rw [if_pos (by clear hlx hend; lia), hxrr p hp]
     ·rw [if_neg (by clear hlx hend; lia), List.getElem?_eq_none (by clear hlx; exact Nat.le_of_not_lt hp)]
    refine br_head hc he hxrr hend hne hn1 hsg (by exact Nat.le_trans (by assumption) (by decide)) (fun u3 => ?_)
    refine br_walk hc he hcode C hPb hbi hra hre hlen hlen' hran hran' hcut (by clear htt hxlen hend hcut; lia) hne hsg hrr hxl hb (by exact Nat.le_trans (Nat.le_trans (Nat.le_trans (Nat.le_trans (Nat.le_trans (Nat.le_trans (Nat.le_of_eq hvsl.symm) htl) htt) (Nat.le_of_eq hi.symm)) (Nat.le_add_right _ _)) (Nat.le_of_eq hlx.symm)) hxl) (fun t' v1 v3 v4 v5 v6 v7 ff' hb' => ?_)
    refine Js ?_
    refine Js ?_
    refine Js ?_
    refine Js ?_
    have hT1 : ((dn ++ [Tk.br rr]).map Tk.text).flatten.length = i + 1 + rr.length + 1 := by rw [hlen1]; simp only [Tk.text, List.length_append, List.length_cons, List.length_nil]; clear hend hcut; lia
    refine ⟨td.length, by rw [hfu]; simp, dn ++ [Tk.br rr], td, i + 1 + rr.length + 1, _, _, _, _, _, _, _, _, _, _, _, _, rfl, hb', hdn1, hT1.symm, ?_, rfl⟩
    rw [CV]
    exact hacc.append (.cons ⟨_, rfl⟩ .nil)
 ·intro f σ' hσ
  refine Ae (fun G_ hG_ => ?_)
  obtain ⟨rfl, vs, u1, u2, r, b, w1, w2, w3, w4, w5, w6, ff, rfl, hvs⟩ := hσ
  refine hG_ ?_
  clear hG_ G_
  refine Dt ?_
  refine AB ?_
  with_reducible
   refine Fb ?_
   refine Ct (Aq (Ap (by assumption) (by tb_rel) (by tb_rel)) (Ap (by assumption) (by tb_rel) (by tb_rel)) Hy) ?_
  refine ⟨by rw [beq_iff_eq], ?_⟩
  with_reducible
   refine A7 ?_; intro K_ hK_
   refine BC ?_
   refine AJ (by assumption) (by tb_rel) (by tb_rel) ?_
   refine hK_ _ _ ?_; clear hK_ K_
  exact ⟨_, _, rfl, ⟨_, _, rfl, rfl, hvs⟩, fun p hp => .inr (by rw [List.mem_singleton.mp hp]; exact List.mem_cons_self)⟩
end
theorem PG : mroOf (.type "object") = pure [.type "object"] := by rw [mroOf_type]; kernel_rfl
theorem ob_new : typeLookup (.type "object") "__new__" = pure (some (.builtin "object.__new__")) := by rw [typeLookup_type, builtinLookup_eq_fast]; kernel_rfl
theorem Mm : Bind.madeBy (.type "object") = pure (some "object.__new__") := madeBy_type PG ob_new (by decide +kernel)
theorem Mn : TypeCalled "object" "object.__new__" "object.__init__" :=
 ⟨by decide +kernel, by decide +kernel, ⟨_, _, PG⟩, Mm, by decide +kernel, by rw [isSubtype_type]; kernel_rfl, F.slot_object_init⟩
theorem ob_call : checkTypeCall "object" ⟨[], []⟩ = pure () := by kernel_rfl
theorem NZ : checkBuiltinCall "object.__new__" ⟨[.type "object"], []⟩ = pure () := by kernel_rfl
theorem ob_here : Bind.madeHere "object.__new__" (.type "object") = pure () := by
 unfold Bind.madeHere
 rw [show Bind.staticBase (.type "object") = pure (.type "object") from by kernel_rfl, pure_bind, Mm, pure_bind]
 kernel_rfl
noncomputable abbrev objO : Obj := { cls := .type "object", data := .plain }
theorem Mo : Meets (Builtin.«object.__new__» ⟨[.type "object"], []⟩) (fun _ R s => R (.ok (.ret (.ref s.heap.objs.size))) { s with heap := s.heap.push objO }) :=
 .of_wp fun prog w A R s h => by
  have h1 := ob_here
  unfold Builtin.«object.__new__»
  repeat (any_goals (first | assumption | wp_step))
  exact ⟨_, rfl, h⟩
theorem L2 (a : Value) : Meets (Builtin.«object.__init__» ⟨[a], []⟩) (fun _ R s => R (.ok (.ret .none)) s) :=
 .of_wp fun prog w A R s h => wpAny_pure ⟨_, rfl, h⟩
theorem JF {prog : Program} {w : World} {A : Around} {E : Value → Shared → Prop} {s : Shared} {Q : Value → Shared → Prop} (h : Q (.ref s.heap.objs.size) { s with heap := s.heap.push objO }) :
  wpAny (model prog w) A (call (.type "object") []) Q E s :=
 callType_meets (Q₁ := fun obj s₁ => obj = .ref s.heap.objs.size ∧ s₁ = { s with heap := s.heap.push objO }) Mn ob_call NZ F.entry_object_new F.entry_object_init Mo ⟨rfl, rfl⟩
  fun obj s₁ hq => by
   obtain ⟨rfl, rfl⟩ := hq
   exact ⟨⟨_, Heap.get?_push_size _ rfl, rfl⟩, F.args_object_init_1 _, _, L2 _, rfl, h⟩
noncomputable def objD : D := .prop fun o => o = objO
theorem J1 (ch k : Nat) (hk : k = 1 ∨ k = 2 ∨ k = 3) : Txt.mul (S [ch]) (k : Int) = S (List.replicate k ch) := by
 rcases hk with rfl | rfl | rfl <;> simp [Txt.mul, PySem.Str.length, List.replicate, S]
section
variable {c : Cx} {L : Addr} {n : Nat} {σ : St} {e : Env} {l l' : Loc} {m m' f q : Led} {KL : List (PySem.Str × NameKind)} {CL : List (PySem.Str × Addr)}
theorem P0 {Q : Value → St → Prop} (h : ∀ a, Q (.ref a) ⟨l, m, (a, objD) :: f, q⟩) : V c L n (call (.type "object") []) Q ⟨l, m, f, q⟩ :=
 fun A B s hr hb ho hg => JF ⟨hg, rfl, _, ho.newFz (o := objD) (Ext.push _ _) (Nat.le_refl _) ⟨_, Heap.get?_push_size _ rfl, rfl⟩, h _⟩
theorem GF {a b : Addr} {vs ws : List Value} {Q : Value → St → Prop} (ha : Has ⟨l, m, f, q⟩ a (.list vs)) (hb' : Has ⟨l, m, f, q⟩ b (.list ws)) (hsz : vs.length + ws.length ≤ sizeLine)
  (h : ∀ r, Q (.ref r) ⟨l, (r, .list (vs ++ ws)) :: m, f, q⟩) : V c L n (binaryOp .Add (.ref a) (.ref b)) Q ⟨l, m, f, q⟩ := fun A B s hr hb ho hg => by
 refine Ae (fun G_ hG_ => ?_)
 obtain ⟨_, e1, n1, rfl⟩ := ho.has ha
 obtain ⟨_, e2, n2, rfl⟩ := ho.has hb'
 refine hG_ ?_
 clear hG_ G_
 have e : vs.toArray ++ ws.toArray = (vs ++ ws).toArray := by simp
 refine concat_meets ⟨_, e1, rfl⟩ ⟨_, e2, rfl⟩ noFill_list_add seq_list_add F.slot_list_add F.entry_list_add (F.args_list_add_2 _ _) (list_addW a b vs.toArray ws.toArray n1 n2 none none #[] #[] (by simpa using hsz)) ⟨e1, e2, ?_⟩
 rw [e]
 exact ⟨hg, rfl, _, ho.newMut (o := .list (vs ++ ws)) (Ext.push _ _) (Nat.le_refl _) ⟨_, Heap.get?_push_size _ rfl, 0, rfl⟩, h _⟩
theorem L3 {ch k : Nat} {t u : Tok} {Q : Value → St → Prop} (hk : k = 1 ∨ k = 2 ∨ k = 3) (h : ∀ t, Q (.str (S (List.replicate k ch)) t) σ) : V c L n (binaryOp .Mult (.str (S [ch]) t) (.int (k : Nat) u)) Q σ :=
 Go (fun v => ∃ t, v = .str (S (List.replicate k ch)) t) (fun _ _ _ _ h => SB.mul (mulOk_of 1 3 (by rw [Bv]; exact Nat.le_refl _) (by lia) (by simp) (by decide) (by decide)) fun t' k' => by
  rw [J1 ch k hk]; exact h _ _ ⟨_, rfl⟩) fun _ ⟨t, ht⟩ => ht ▸ h t
theorem L4 {a b : Int} {t u : Tok} {Q : Value → St → Prop} (h : ∀ k, Q (.int (max a b) k) σ) : V c L n (call (.builtin "max") [.int a t, .int b u]) Q σ :=
 fun A B s hr hb ho hg => max_two_ints hr.1 fun h' tk hk => by
  refine ⟨hg, rfl, σ, ho.ext hk, ?_⟩
  split
  ·rw [← show max a b = b from by lia]; exact h _
  ·rw [← show max a b = a from by lia]; exact h _
theorem Hc {a : Addr} {Q : Value → St → Prop} (h : Q (.bool false) σ) : V c L n (compareOp .Is (.ref a) .none) Q σ := AE _ (fun _ _ _ _ h => PyProof.Rows.is_ref_none h) h
theorem N6 {Q : Value → St → Prop} (h : Q (.bool true) σ) : V c L n (compareOp .Is .none .none) Q σ := AE _ (fun _ _ _ _ h => PyProof.Rows.is_none_none h) h
theorem Gk {nm s1 s2 : PySem.Str} {y z : List Nat} {k k1 k2 : Nat} {p1 p2 p3 p4 ap q1 q2 pos : Pos} {a : Addr} {vs : List Value} {x : List Nat} {t : Tok} {Q : Value → St → Prop} (hk : Ag e L KL CL) (hx : (nm, NameKind.local) ∈ KL) (hv : (nm, some (.ref a)) ∈ l)
  (ha : Has ⟨l, m, f, q⟩ a (.list vs)) (hne : vs ≠ []) (hlen : vs.length ≤ 1000) (hlast : vs[vs.length - 1]? = some (.str (S x) t)) (hxl : x.length ≤ 1048576) (h1 : s1 = S y) (h2 : s2 = S z) (hyz : y ≠ z) (hz : z.length ≤ 14)
  (h : ∀ t', Q (.str (Txt.replace (S x) (S y) (S z)) t') ⟨l, m, f, q⟩) (hd : (nm == ("__debug__" : PySem.Str)) = false := by decide) (hline : (ap.endLine == pos.line) = true := by with_unfolding_all rfl) :
  V c L n (eval (.Call (.Attribute (.Subscript (.Name nm p1) (.UnaryOp .USub (.Constant (.int 1) k p2) p3) p4) "replace" ap) [.Constant (.str s1) k1 q1, .Constant (.str s2) k2 q2] [] pos) e) Q ⟨l, m, f, q⟩ :=
 fun A B s hr hb ho hg => by
  refine wpAny_Call_method_lateS rfl rfl hline ?_
  rw [eval_Subscript]
  refine wpAny_bind (wpAny_Name (wpAny_loadName_local hk.kind (hk.nm _ _ hx) (hk.loc ▸ ho.ns) (Ps ho.ln hv) (wpAny_bind (wpAny_holding ?_))) hd)
  rw [arm_eval_UnaryOp]
  refine wpAny_bind (wpAny_Constant_int (wpAny_bind (wpAny_standAt (wpAny_holding (PyProof.Rows.neg_int (wpAny_bind (wpAny_standAt ?_)))))))
  have hvl : 0 < vs.length := List.length_pos_iff.mpr hne
  have hit := Dm (c := c) (L := L) (n := n) (σ := ⟨l, m, f, q⟩) (value := .Name nm p1) (slice := .UnaryOp .USub (.Constant (.int 1) k p2) p3) (u := s.toks + 1) (k := -1) (Q := fun v σ' => v = .str (S x) t ∧ σ' = ⟨l, m, f, q⟩) ha (by decide) (by lia) (by decide)
   (show vs[(-1 + (vs.length : Int)).toNat]? = some _ from by rw [show (-1 + (vs.length : Int)).toNat = vs.length - 1 from by lia]; exact hlast) ⟨rfl, rfl⟩
  refine wpAny_mono (wpAny_toks_of (n := 1) ?_ (hit A B { s with toks := s.toks + 1 + 1 } hr hb ho hg)) (fun v s' hp => ?_) fun _ _ x => x.2
  ·show 1 ≤ s.toks + 1 + 1; exact Nat.succ_pos _
  refine Ae (fun G_ hG_ => ?_)
  obtain ⟨ht', hg', hos, σ', hw, rfl, rfl⟩ := hp
  refine hG_ ?_
  clear hG_ G_
  refine ⟨"str", "str.replace", F.plainAttrs_str, F.slot_str_replace, F.type_str_replace, typeIs_str _ _ _, (fun _ e => nomatch e), ?_⟩
  refine callWith_builtin rfl (AG rfl ?_)
  refine args_cons (wpAny_Constant_str (args_cons (wpAny_Constant_str (wpAny_pure ?_)) rfl)) rfl
  subst h1 h2
  show wpAny _ _ (call (.builtin "str.replace") [.str (S x) t, .str (S y) s'.toks, .str (S z) (s'.toks + 1)]) _ _ _
  have e1 : (s'.toks : Nat) ≠ 0 := by exact Nat.ne_of_gt (by assumption)
  refine SC.replaceW e1 (Nat.succ_ne_zero _) (Nat.ne_of_lt (Nat.lt_succ_self _)) (by rw [Ga]; exact decide_eq_false hyz) (by rw [Bv]; exact hxl) (by rw [Bv]; exact hz) fun t' k => ?_
  exact ⟨hg', hos, _, hw, h t'⟩
end
noncomputable def Dj (x : Int) : Nat := (Int.fmod x 10).toNat
noncomputable def Mp : List (List Nat) := [[], [97], [98], [45], [33], [94], [98, 45, 97], [92], [45], []]
noncomputable def rplc (x : List Nat) : List Nat := (Txt.replace (S x) (S [98, 45, 97]) (S [])).cps.toList
theorem rplc_eq (x : List Nat) : Txt.replace (S x) (S [98, 45, 97]) (S []) = S (rplc x) := by unfold rplc; simp [S]
noncomputable def Dw (last sign : List Nat) : List Nat := if sign = [33] ∧ rplc last ≠ [] then [45] else sign
noncomputable def Gl (p : List (List Nat) × List Bool) (x : Int) : List (List Nat) × List Bool :=
 if (Dj x = 0 ∨ Dj x = 9) ∧ p.1.length < 4 then (p.1 ++ [[]], p.2 ++ [decide (Dj x = 0)])
 else (p.1.dropLast ++ [p.1.getLast?.getD [] ++ Dw (p.1.getLast?.getD []) (Mp[Dj x]?.getD [])], p.2)
noncomputable def FV (b : Bool) (xs : List Int) : List (List Nat) × List Bool := xs.foldl Gl ([[]], [b])
theorem Kg (x : Int) : Dj x < 10 := by
 unfold Dj
 rw [Int.fmod_eq_emod_of_nonneg _ (by decide)]
 have := Int.emod_lt_of_pos x (show (0 : Int) < 10 by decide)
 have := Int.emod_nonneg x (show (10 : Int) ≠ 0 by decide)
 lia
theorem L5 (x : Int) : ((Dj x : Nat) : Int) = Int.fmod x 10 := by
 unfold Dj
 rw [Int.fmod_eq_emod_of_nonneg _ (by decide)]
 exact Int.toNat_of_nonneg (Int.emod_nonneg x (by decide))
theorem GG (x : Int) : ∃ y, Mp[Dj x]? = some y := ⟨_, List.getElem?_eq_getElem (Kg x)⟩
theorem J2 : ∀ y ∈ Mp, y.length ≤ 3 ∧ ∀ ch ∈ y, ch ∈ [33, 45, 92, 94, 97, 98] := by decide
structure L7 (k : Nat) (p : List (List Nat) × List Bool) : Prop where
 len : p.2.length = p.1.length
 pos : 1 ≤ p.1.length
 four : p.1.length ≤ 4
 size : p.1.flatten.length ≤ 3 * k
 sg : ∀ one ∈ p.1, ∀ ch ∈ one, Sg ch
theorem P1 {k : Nat} {p : List (List Nat) × List Bool} (h : L7 k p) (x : Int) : L7 (k + 1) (Gl p x) := by
 obtain ⟨h1, h2, h3, h4, h5⟩ := h
 unfold Gl
 split
 ·rename_i hc
  refine ⟨by simp [h1], by simp, by simp; clear h3; lia, by simp; simp at h4; lia, fun one ho ch hch => ?_⟩
  rcases List.mem_append.mp ho with ho | ho
  ·exact h5 one ho ch hch
  ·rw [List.mem_singleton.mp ho] at hch; cases hch
 ·obtain ⟨y, hy⟩ := GG x
  rw [hy]
  obtain ⟨hl, hs⟩ := J2 y (List.mem_of_getElem? hy)
  have hne : p.1 ≠ [] := fun q => by rw [q] at h2; cases h2
  obtain ⟨z, hz⟩ : ∃ z, p.1.getLast? = some z := ⟨_, List.getLast?_eq_some_getLast hne⟩
  have hp : p.1 = p.1.dropLast ++ [z] := by
   have := List.dropLast_concat_getLast hne
   rw [List.getLast?_eq_some_getLast hne] at hz
   rw [← Option.some.inj hz]; exact this.symm
  have hsl : (Dw z y).length ≤ 3 ∧ ∀ ch ∈ Dw z y, Sg ch := by
   unfold Dw
   split
   ·exact ⟨by decide, by unfold Sg; decide⟩
   ·exact ⟨hl, hs⟩
  rw [hz]
  simp only [Option.getD_some]
  have hf := congrArg (fun l => (List.flatten l).length) hp
  simp only [List.flatten_append, List.length_append, List.flatten_cons, List.flatten_nil, List.append_nil] at hf
  refine ⟨by simp; clear h3; lia, by simp, by simp; assumption, ?_, fun one ho ch hch => ?_⟩
  ·simp only [List.flatten_append, List.length_append, List.flatten_cons, List.flatten_nil, List.append_nil]
   have := hsl.1
   lia
  ·rcases List.mem_append.mp ho with ho | ho
   ·exact h5 one (by rw [hp]; exact List.mem_append_left _ ho) ch hch
   ·rw [List.mem_singleton.mp ho] at hch
    rcases List.mem_append.mp hch with hch | hch
    ·exact h5 z (by rw [hp]; exact List.mem_append_right _ List.mem_cons_self) ch hch
    ·exact hsl.2 ch hch
theorem Kh (b : Bool) (xs : List Int) : L7 xs.length (FV b xs) := by
 unfold FV
 have : ∀ (xs : List Int) (k : Nat) (p : List (List Nat) × List Bool), L7 k p → L7 (k + xs.length) (xs.foldl Gl p) := by
  intro xs
  induction xs with
  | nil => exact fun k p h => h
  | cons x r ih =>
   intro k p h
   have := ih (k + 1) _ (P1 h x)
   rw [List.foldl_cons, List.length_cons, show k + (r.length + 1) = k + 1 + r.length from by clear this; lia]; exact this
 have := this xs 0 ([[]], [b]) ⟨rfl, Nat.le_refl _, by show 1 ≤ 4; decide, Nat.le_refl _, fun one ho ch hch => by rw [List.mem_singleton.mp ho] at hch; cases hch⟩
 rwa [Nat.zero_add] at this
noncomputable def B2 (one : List Nat) : List Nat := if one = [] then [63] else if one = [33] then [91, 33, 98, 45, 97, 93] else [91] ++ one ++ [93]
noncomputable def DH (one : List Nat) : Tk := if one = [] then .quest else if one = [33] then .br [33, 98, 45, 97] else .br one
theorem L8 (one : List Nat) : (DH one).text = B2 one := by
 unfold DH B2
 split
 ·rfl
 ·split <;> rfl
theorem P2 {one : List Nat} (h : ∀ ch ∈ one, Sg ch) : (DH one).ok := by
 unfold DH
 split
 ·trivial
 ·split
  ·exact ⟨by decide, by decide, by unfold Sg; decide⟩
  ·exact ⟨‹_›, ‹_›, h⟩
noncomputable def Gm (ins : List (List Nat)) (stars : List Bool) (k : Nat) : List Tk := (if stars[k]?.getD false = true then List.replicate (1 + k % 3) Tk.star else []) ++ (match ins[k]? with | some one => [DH one] | none => [])
noncomputable def Cq (ins : List (List Nat)) (stars : List Bool) : List Tk := ((List.range stars.length).map (Gm ins stars)).flatten
theorem P3 (j : Nat) : ((List.replicate j Tk.star).map Tk.text).flatten = List.replicate j 42 := by
 induction j with
 | zero => rfl
 | succ j ih => rw [List.replicate_succ, List.replicate_succ, List.map_cons, List.flatten_cons, ih]; rfl
theorem L9 (ins : List (List Nat)) (stars : List Bool) (k : Nat) : ((Gm ins stars k).map Tk.text).flatten = (if stars[k]?.getD false = true then List.replicate (1 + k % 3) 42 else []) ++ ((ins.map B2 ++ [[]])[k]?.getD []) := by
 unfold Gm
 rw [List.map_append, List.flatten_append]
 congr 1
 ·split
  ·exact P3 _
  ·rfl
 ·rcases Nat.lt_trichotomy k ins.length with h | h | h
  ·rw [List.getElem?_append_left (by simpa using h), List.getElem?_map, List.getElem?_eq_getElem h]
   simp [L8]
  ·subst h
   rw [List.getElem?_eq_none (Nat.le_refl _)]
   rw [List.getElem?_append_right (by simp)]
   simp
  ·rw [List.getElem?_eq_none (by exact Nat.le_of_lt (by assumption)), List.getElem?_eq_none (by simp; assumption)]
   rfl
noncomputable def La (ins : List (List Nat)) (stars : List Bool) : List Nat := ((Cq ins stars).map Tk.text).flatten
theorem He (ins : List (List Nat)) (stars : List Bool) : La ins stars = ((List.range stars.length).map fun k => (if stars[k]?.getD false = true then List.replicate (1 + k % 3) 42 else []) ++ ((ins.map B2 ++ [[]])[k]?.getD [])).flatten := by
 unfold La Cq
 have : ∀ ks : List Nat, (((ks.map (Gm ins stars)).flatten).map Tk.text).flatten = (ks.map fun k => (if stars[k]?.getD false = true then List.replicate (1 + k % 3) 42 else []) ++ ((ins.map B2 ++ [[]])[k]?.getD [])).flatten := by
  intro ks
  induction ks with
  | nil => rfl
  | cons k r ih => simp only [List.map_cons, List.flatten_cons, List.map_append, List.flatten_append]; rw [ih, L9]
 exact this _
theorem PH {ins : List (List Nat)} {n : Nat} (h : ins.flatten.length ≤ n) : ∀ one ∈ ins, one.length ≤ n := by
 induction ins with
 | nil => exact fun _ h => nomatch h
 | cons a r ih =>
  rw [List.flatten_cons, List.length_append] at h
  intro one ho
  rcases List.mem_cons.mp ho with rfl | ho
  ·exact Nat.le_trans (Nat.le_add_right _ _) h
  ·exact ih (by exact Nat.le_trans (Nat.le_add_left _ _) h) one ho
theorem Df (one : List Nat) : (B2 one).length ≤ one.length + 6 := by
 unfold B2
 split
 ·simp
 ·split
  ·simp
  ·simp
theorem Mq {ins : List (List Nat)} {stars : List Bool} (h : ∀ one ∈ ins, ∀ ch ∈ one, Sg ch) : ∀ tk ∈ Cq ins stars, tk.ok := by
 intro tk htk
 obtain ⟨l, hl, ht⟩ := List.mem_flatten.mp htk
 obtain ⟨k, _, rfl⟩ := List.mem_map.mp hl
 rcases List.mem_append.mp ht with ht | ht
 ·split at ht
  ·rw [List.eq_of_mem_replicate ht]; trivial
  ·cases ht
 ·split at ht
  ·rename_i one ho
   rw [List.mem_singleton.mp ht]
   exact P2 (h one (List.mem_of_getElem? ho))
  ·cases ht
theorem Mr {ins : List (List Nat)} {stars : List Bool} {n : Nat} (hn : 4 ≤ n) (h : ∀ one ∈ ins, one.length ≤ n) : ∀ rr, Tk.br rr ∈ Cq ins stars → rr.length ≤ n := by
 intro rr htk
 obtain ⟨l, hl, ht⟩ := List.mem_flatten.mp htk
 obtain ⟨k, _, rfl⟩ := List.mem_map.mp hl
 rcases List.mem_append.mp ht with ht | ht
 ·split at ht
  ·have := List.eq_of_mem_replicate ht; cases this
  ·cases ht
 ·split at ht
  ·rename_i one ho
   have he := List.mem_singleton.mp ht
   unfold DH at he
   split at he
   ·cases he
   ·split at he
    ·cases he; exact hn
    ·cases he; exact h _ (List.mem_of_getElem? ho)
  ·cases ht
theorem Ms (ins : List (List Nat)) (stars : List Bool) (k : Nat) : (Gm ins stars k).length ≤ 4 := by
 unfold Gm
 rw [List.length_append]
 have h1 : (if stars[k]?.getD false = true then List.replicate (1 + k % 3) Tk.star else []).length ≤ 3 := by split <;> simp; lia
 have h2 : (match ins[k]? with | some one => [DH one] | none => ([] : List Tk)).length ≤ 1 := by split <;> simp
 lia
theorem Lb {ins : List (List Nat)} {stars : List Bool} (h : stars.length ≤ 5) : (Cq ins stars).length ≤ 20 := by
 unfold Cq
 have : ∀ ks : List Nat, ((ks.map (Gm ins stars)).flatten).length ≤ 4 * ks.length := by
  intro ks
  induction ks with
  | nil => exact Nat.le_refl _
  | cons k r ih =>
   rw [List.map_cons, List.flatten_cons, List.length_append, List.length_cons]
   have := Ms ins stars k
   lia
 have := this (List.range stars.length)
 rw [List.length_range] at this
 lia
theorem patOf_len {ins : List (List Nat)} {stars : List Bool} {n : Nat} (h : stars.length ≤ 5) (hn : ∀ one ∈ ins, one.length ≤ n) : (La ins stars).length ≤ 5 * (n + 9) := by
 rw [He]
 have : ∀ ks : List Nat, ((ks.map fun k => (if stars[k]?.getD false = true then List.replicate (1 + k % 3) 42 else []) ++ ((ins.map B2 ++ [[]])[k]?.getD [])).flatten).length ≤ (n + 9) * ks.length := by
  intro ks
  induction ks with
  | nil => exact Nat.zero_le _
  | cons k r ih =>
   rw [List.map_cons, List.flatten_cons, List.length_append, List.length_cons, List.length_append]
   have h1 : (if stars[k]?.getD false = true then List.replicate (1 + k % 3) 42 else []).length ≤ 3 := by split <;> simp; lia
   have h2 : ((ins.map B2 ++ [[]])[k]?.getD []).length ≤ n + 6 := by
    cases hk : (ins.map B2 ++ [[]])[k]? with
    | none => simp
    | some z =>
     rw [Option.getD_some]
     rcases List.mem_append.mp (List.mem_of_getElem? hk) with hm | hm
     ·obtain ⟨one, ho, rfl⟩ := List.mem_map.mp hm
      have := Df one
      have := hn one ho
      lia
     ·rw [List.mem_singleton.mp hm]; simp
   rw [Nat.mul_add, Nat.mul_one]
   omega
 have := this (List.range stars.length)
 rw [List.length_range] at this
 refine Nat.le_trans this ?_
 rw [Nat.mul_comm]
 exact Nat.mul_le_mul_right _ h
noncomputable def CW (one : List Nat) : List Nat := if one = [] then [33, 97, 98] else BM one
noncomputable def AR : Nat → List (List Nat)
 | 0 => [[]]
 | n + 1 => (AR n).flatMap fun w => AV.map fun s => w ++ [s]
noncomputable def El (w : List Nat) (pin s : Nat) : Bool := decide (at1 w pin = []) || decide (at1 w pin = [s])
structure Ki (ins : List (List Nat)) (stars : List Bool) (st : List Stp) : Prop where
 room : ∀ n, n < 5 → ∀ w ∈ AR n, ∀ k, (DO w (st.take k) [(0, 0)]).length ≤ 1000
 due : ∀ n, n < 5 → ∀ pin, pin < max n 1 → ∀ s ∈ AV,
  (((AR n).filter fun w => (Nx st w).contains n).filter fun w => El w pin s).length = EC (ins.map CW) stars ((List.range n).map fun k => if k = pin then [s] else AV)
theorem BI : ∀ n, ∀ w ∈ AR n, w.length = n
 | 0, w, h => by rw [List.mem_singleton.mp h]; rfl
 | n + 1, w, h => by
  obtain ⟨w', hw', h⟩ := List.mem_flatMap.mp h
  obtain ⟨s, _, rfl⟩ := List.mem_map.mp h
  rw [List.length_append, BI n w' hw']; rfl
theorem CA : ∀ n, (AR n).length = 4 ^ n
 | 0 => rfl
 | n + 1 => by
  show ((AR n).flatMap _).length = _
  rw [List.length_flatMap, Nat.pow_succ, ← CA n]
  have : ((AR n).map fun w => (AV.map fun s => w ++ [s]).length) = (AR n).map fun _ => 4 := List.map_congr_left fun _ _ => by simp [AV]
  rw [this]
  generalize AR n = l
  induction l with
  | nil => rfl
  | cons a r ih => rw [List.map_cons, List.sum_cons, List.length_cons, ih]; lia
noncomputable def items : List Nat → List (Nat × Option Nat)
 | a :: b :: h :: t => if b = 45 then (a, some h) :: items t else (a, none) :: items (b :: h :: t)
 | [a, b] => [(a, none), (b, none)]
 | [a] => [(a, none)]
 | [] => []
noncomputable def esc (c : Nat) : List Nat := if c = 92 then [92, 92] else if c = 45 then [92, 45] else [c]
noncomputable def C8 : Nat × Option Nat → List Nat
 | (a, none) => esc a
 | (a, some h) => esc a ++ [45] ++ esc h
noncomputable def Bm : Nat × Option Nat → Bool
 | (_, none) => true
 | (a, some h) => decide (a ≤ h)
noncomputable def IT (s : List Nat) : List Nat := ((items s).filter Bm).flatMap C8
theorem CX (a : Nat) (r : List Nat) : DG (a :: r) = esc a ++ DG r := by
 unfold DG
 rw [show sb 92 [92, 92] (a :: r) = (if a = 92 then [92, 92] else [a]) ++ sb 92 [92, 92] r from rfl, FP]
 congr 1
 unfold esc
 by_cases h : a = 92
 ·rw [if_pos h, if_pos h]; rfl
 ·rw [if_neg h, if_neg h]
  by_cases h2 : a = 45
  ·rw [h2]; rfl
  ·rw [if_neg h2]; simp [sb, h2]
theorem P4 : DG [] = [] := rfl
theorem Fo : ∀ (a b : List Nat), DG (a ++ b) = DG a ++ DG b
 | [], b => rfl
 | x :: a, b => by rw [List.cons_append, CX, CX, Fo a b, List.append_assoc]
theorem Dg {a b : Nat} {r : List Nat} (h : b ≠ 45) : items (a :: b :: r) = (a, none) :: items (b :: r) := by
 cases r with
 | nil => rfl
 | cons x r => rw [items, if_neg h]
theorem FW : ∀ (s : List Nat), (∀ q, 1 ≤ q → q + 1 < s.length → s[q]? ≠ some 45) → items s = s.map fun a => (a, none)
 | [], _ => rfl
 | [a], _ => rfl
 | [a, b], _ => rfl
 | a :: b :: h :: t, hs => by
  have h1 : b ≠ 45 := fun q => hs 1 (Nat.le_refl _) (by simp) (by rw [q]; rfl)
  rw [Dg h1, FW (b :: h :: t) fun q h1 h2 => by
   have := hs (q + 1) (by exact Nat.succ_pos _) (by simp at h2 ⊢; assumption)
   simpa using this]
  rfl
theorem FX : ∀ (a : List Nat) {lo h : Nat} {s1 : List Nat}, (∀ q, 1 ≤ q → q ≤ a.length → (a ++ lo :: 45 :: h :: s1)[q]? ≠ some 45) → items (a ++ lo :: 45 :: h :: s1) = (a.map fun x => (x, none)) ++ (lo, some h) :: items s1
 | [], lo, h, s1, _ => by show items (lo :: 45 :: h :: s1) = _; rw [items, if_pos rfl]; rfl
 | x :: a, lo, h, s1, hs => by
  obtain ⟨b, r, e⟩ : ∃ b r, a ++ lo :: 45 :: h :: s1 = b :: r := by cases a with
   | nil => exact ⟨_, _, rfl⟩
   | cons y a => exact ⟨_, _, rfl⟩
  have hb : b ≠ 45 := fun q => hs 1 (Nat.le_refl _) (by simp) (by rw [List.cons_append, e, q]; rfl)
  have ih := FX a (lo := lo) (h := h) (s1 := s1) fun q h1 h2 => by
   have := hs (q + 1) (by exact Nat.le_add_left _ _) (by simp; assumption)
   simpa using this
  rw [List.cons_append, e, Dg hb, ← e, ih]
  rfl
theorem Hf {s : List Nat} (h : ∀ q, 1 ≤ q → q + 1 < s.length → s[q]? ≠ some 45) : IT s = DG s := by
 unfold IT
 rw [FW s h]
 clear h
 induction s with
 | nil => rfl
 | cons a r ih => rw [List.map_cons, List.filter_cons, if_pos (show Bm (a, none) = true from rfl), List.flatMap_cons, CX, ih]; rfl
theorem Lc (a : List Nat) : ((a.map fun x => ((x, none) : Nat × Option Nat)).filter Bm).flatMap C8 = DG a := by
 induction a with
 | nil => rfl
 | cons a r ih => rw [List.map_cons, List.filter_cons, if_pos (show Bm (a, none) = true from rfl), List.flatMap_cons, CX, ih]; rfl
theorem P5 {a : List Nat} {lo h : Nat} {s1 : List Nat} (hs : ∀ q, 1 ≤ q → q ≤ a.length → (a ++ lo :: 45 :: h :: s1)[q]? ≠ some 45) :
  IT (a ++ lo :: 45 :: h :: s1) = DG a ++ ((if lo ≤ h then esc lo ++ [45] ++ esc h else []) ++ IT s1) := by
 unfold IT
 rw [FX a hs, List.filter_append, List.flatMap_append, Lc]
 congr 1
 rw [List.filter_cons]
 by_cases q : lo ≤ h
 ·rw [if_pos (show Bm (lo, some h) = true from by simp [Bm, q]), if_pos q, List.flatMap_cons]; rfl
 ·rw [if_neg (show ¬ Bm (lo, some h) = true from by simp [Bm, q]), if_neg q]; rfl
noncomputable def JC (cs : List (List Nat)) : List Nat := CR [45] (cs.map DG)
theorem Kj (d : List Nat) : JC [d] = DG d := rfl
theorem Mt (c d : List Nat) (t : List (List Nat)) : JC (c :: d :: t) = DG c ++ [45] ++ JC (d :: t) := rfl
theorem Mu (a d : List Nat) (t : List (List Nat)) : JC ((a ++ d) :: t) = DG a ++ JC (d :: t) := by
 cases t with
 | nil => rw [Kj, Kj, Fo]
 | cons x t => rw [Mt, Mt, Fo]; simp only [List.append_assoc]
theorem Mv : ∀ (fuel off : Nat) (r : List Nat), r ≠ [] → (Ar fuel off r).1 ≠ [] ∨ (Ar fuel off r).2 ≠ []
 | 0, _, r, h => .inr h
 | fuel + 1, off, r, h => by
  unfold Ar
  split
  ·exact .inr h
  ·exact .inl (by simp)
theorem Ld : ∀ (fuel off : Nat), Ar fuel off [] = ([], [])
 | 0, _ => rfl
 | fuel + 1, off => by unfold Ar; rw [List.drop_nil]; rfl
theorem Mw {c : List Nat} {cs : List (List Nat)} {rest : List Nat} (h : cs ≠ [] ∨ rest ≠ []) : E1 (c :: cs) rest = c :: E1 cs rest := by
 unfold E1
 by_cases q : rest = []
 ·rw [if_pos q, if_pos q]
  cases cs with
  | nil => exact absurd q (h.resolve_left (fun z => z rfl))
  | cons d t => simp
 ·rw [if_neg q, if_neg q]; rfl
theorem E2 : ∀ (fuel : Nat) (pre s : List Nat), pre.length + s.length < fuel → (pre = [] → s ≠ []) →
  ∃ d t, AT (E1 (Ar fuel (1 + pre.length) (pre ++ s)).1 (Ar fuel (1 + pre.length) (pre ++ s)).2) = (pre ++ d) :: t ∧ JC (d :: t) = IT s
 | 0, pre, s, h, _ => absurd h (Nat.not_lt_zero _)
 | fuel + 1, pre, s, hl, hne => by
  have hps : pre ++ s ≠ [] := fun q => by
   obtain ⟨h1, h2⟩ := List.append_eq_nil_iff.mp q
   exact hne h1 h2
  have hdrop : ∀ k, (pre ++ s).drop (1 + pre.length + k) = s.drop (1 + k) := fun k => by
   rw [List.drop_append, List.drop_of_length_le (by exact Nat.le_trans (Nat.le_add_left _ _) (Nat.le_add_right _ _)), List.nil_append]; congr 1; lia
  have hd0 := hdrop 0
  rw [Nat.add_zero, Nat.add_zero] at hd0
  unfold Ar
  rw [hd0]
  cases hd : Gj (s.drop 1) with
  | none =>
   refine ⟨s, [], ?_, ?_⟩
   ·simp only [E1, if_neg hps, List.nil_append]; rfl
   ·rw [Kj]
    refine (Hf fun q h1 h2 he => ?_).symm
    refine FS.mp hd ?_
    have : (s.drop 1)[q - 1]? = some 45 := by rw [List.getElem?_drop, show 1 + (q - 1) = q from by lia]; exact he
    exact List.mem_of_getElem? this
  | some p =>
   simp only []
   obtain ⟨hp, hmin⟩ := Dv.mp hd
   rw [List.getElem?_drop] at hp
   have hplen : 1 + p < s.length := (List.getElem?_eq_some_iff.mp hp).1
   have hs1 : s = s.take p ++ s[p] :: 45 :: s.drop (p + 2) := by
    conv => lhs; rw [← List.take_append_drop p s]
    rw [List.drop_eq_getElem_cons (by omega), List.drop_eq_getElem_cons (by clear hp; lia)]
    have := (List.getElem?_eq_some_iff.mp hp).2
    simp only [show 1 + p = p + 1 from by clear hp this; lia] at this
    rw [this]
   obtain ⟨a, ha⟩ : ∃ a, a = s.take p := ⟨_, rfl⟩
   obtain ⟨lo, hlo⟩ : ∃ lo, lo = s[p] := ⟨_, rfl⟩
   have hal : a.length = p := by rw [ha, List.length_take]; clear hp; lia
   have htake : (pre ++ s).take (1 + pre.length + p) = pre ++ (a ++ [lo]) := by
    rw [List.take_append, List.take_of_length_le (by lia)]
    congr 1
    rw [show 1 + pre.length + p - pre.length = p + 1 from by clear hd0 hs1; lia, List.take_add_one, ← ha, List.getElem?_eq_getElem (by exact Nat.lt_of_le_of_lt (Nat.le_add_left _ _) hplen), ← hlo]; rfl
   rw [htake, show 1 + pre.length + p + 1 = 1 + pre.length + (p + 1) from by rfl, hdrop (p + 1), show 1 + (p + 1) = p + 2 from by lia]
   have hq : ∀ q, 1 ≤ q → q ≤ p → s[q]? ≠ some 45 := fun q h1 h2 => by
    have := hmin (q - 1) (by clear hl hplen hs1 hlo hal; omega)
    rw [List.getElem?_drop, show 1 + (q - 1) = q from by lia] at this
    exact this
   rw [← ha, ← hlo] at hs1
   cases hr : s.drop (p + 2) with
   | nil =>
    rw [hr] at hs1
    rw [Ld]
    refine ⟨s, [], ?_, ?_⟩
    ·show AT (E1 [pre ++ (a ++ [lo])] []) = _
     have : E1 [pre ++ (a ++ [lo])] [] = [pre ++ s] := by
      rw [hs1]; simp [E1]
     rw [this]; rfl
    ·rw [Kj]
     refine (Hf fun q h1 h2 => ?_).symm
     refine hq q h1 ?_
     have := congrArg List.length hs1
     simp only [List.length_append, List.length_cons, List.length_nil] at this
     lia
   | cons h s1 =>
    rw [hr] at hs1
    have hlen := congrArg List.length hs1
    simp only [List.length_append, List.length_cons, List.length_nil] at hlen
    obtain ⟨d1, t1, e1, e2⟩ := E2 fuel [h] s1 (by simp; clear hal; lia) (fun q => by cases q)
    have e1' : AT (E1 (Ar fuel 2 (h :: s1)).1 (Ar fuel 2 (h :: s1)).2) = (h :: d1) :: t1 := e1
    rw [Mw (Mv fuel 2 (h :: s1) (by simp))]
    show ∃ d t, Dd (pre ++ (a ++ [lo])) (AT (E1 (Ar fuel 2 (h :: s1)).1 (Ar fuel 2 (h :: s1)).2)) = _ ∧ _
    rw [e1']
    have hlast : (pre ++ (a ++ [lo])).getLastD 0 = lo := by rw [← List.append_assoc]; simp
    have hdl : (pre ++ (a ++ [lo])).dropLast = pre ++ a := by rw [← List.append_assoc]; simp
    have hIT : IT s = DG a ++ ((if lo ≤ h then esc lo ++ [45] ++ esc h else []) ++ IT s1) := by
     conv => lhs; rw [hs1]
     refine P5 fun q h1 h2 => ?_
     rw [← hs1]; exact hq q h1 (by exact Nat.le_trans h2 (Nat.le_of_eq hal))
    simp only [Dd]
    rw [hlast, hdl, hIT]
    by_cases hlt : h < lo
    ·rw [if_pos (show (h :: d1).headD 0 < lo from hlt), if_neg (by exact Nat.not_le.mpr hlt)]
     exact ⟨a ++ d1, t1, by simp, by rw [Mu, e2]; rfl⟩
    ·rw [if_neg (show ¬ (h :: d1).headD 0 < lo from hlt), if_pos (by exact Nat.le_of_not_lt hlt)]
     refine ⟨a ++ [lo], (h :: d1) :: t1, rfl, ?_⟩
     rw [Mt, show h :: d1 = [h] ++ d1 from rfl, Mu, e2, Fo]
     simp only [CX, P4, List.append_nil, List.append_assoc]
theorem FY {s : List Nat} (h : 45 ∉ s) : sb 92 [92, 92] s = DG s := by
 unfold DG
 rw [H8 45 _ _ fun q => ?_]
 rcases Kb q with q | q
 ·simp at q
 ·exact h q
theorem JG {r : List Nat} (hr : r ≠ []) : Bx r = if r.headD 0 = 33 then 33 :: IT r.tail else IT r := by
 unfold Bx
 by_cases h45 : 45 ∈ r
 ·rw [if_pos h45]
  unfold B6 De
  show JC (AT _) = _
  by_cases h33 : r.headD 0 = 33
  ·rw [if_pos h33, if_pos h33]
   cases r with
   | nil => exact absurd rfl hr
   | cons x s =>
    have hx : x = 33 := h33
    subst hx
    obtain ⟨d, t, e1, e2⟩ := E2 ((33 :: s).length + 1) [33] s (by simp; lia) (fun q => by cases q)
    have e1' : AT (E1 (Ar ((33 :: s).length + 1) 2 (33 :: s)).1 (Ar ((33 :: s).length + 1) 2 (33 :: s)).2) = ([33] ++ d) :: t := e1
    rw [e1', Mu, e2]; rfl
  ·rw [if_neg h33, if_neg h33]
   obtain ⟨d, t, e1, e2⟩ := E2 (r.length + 1) [] r (by simp) (fun _ => hr)
   have e1' : AT (E1 (Ar (r.length + 1) 1 r).1 (Ar (r.length + 1) 1 r).2) = d :: t := e1
   rw [e1', e2]
 ·rw [if_neg h45]
  have pl : ∀ s : List Nat, 45 ∉ s → IT s = DG s := fun s h => Hf fun q _ _ he => h (List.mem_of_getElem? he)
  split
  ·rename_i h33
   cases r with
   | nil => exact absurd rfl hr
   | cons x s =>
    have hx : x = 33 := h33
    subst hx
    have hs : 45 ∉ s := fun q => h45 (List.mem_cons_of_mem _ q)
    rw [List.tail_cons, pl s hs, FY h45, CX]; rfl
  ·rw [pl r h45, FY h45]
noncomputable def Un (U : List Nat) (c : Nat) : Prop := (U = [c] ∧ c ≠ 92 ∧ c ≠ 93) ∨ (U = [92, c] ∧ c ∉ KF)
theorem Bt {x : List Nat} {k : Nat} {c : Nat} {r : List Nat} (h : x.drop k = c :: r) : at1 x k = [c] := by
 unfold at1
 have : x[k]? = some c := by
  have h1 : (x.drop k)[0]? = some c := by rw [h]; rfl
  rwa [List.getElem?_drop, Nat.add_zero] at h1
 rw [this]
theorem Dx {x : List Nat} {k : Nat} {a r : List Nat} (h : x.drop k = a ++ r) : x.drop (k + a.length) = r := by
 rw [← List.drop_drop, h, List.drop_append, List.drop_of_length_le (Nat.le_refl _), Nat.sub_self]; simp
theorem Cb {x : List Nat} {k : Nat} {a : Nat} {r : List Nat} (h : x.drop k = a :: r) : x.drop (k + 1) = r := Dx (a := [a]) h
theorem P6 (c : Nat) (l : List Nat) : Nn [c] l = decide (c ∈ l) := rfl
theorem Mx {x U R : List Nat} {k c : Nat} (hu : Un U c) (h : x.drop k = U ++ R) : one x k = ([c], k + U.length) := by
 unfold one
 rcases hu with ⟨rfl, h1, _⟩ | ⟨rfl, h1⟩
 ·rw [Bt h, if_neg (fun q => h1 (by simpa using q))]; rfl
 ·rw [Bt h, if_pos rfl, Bt (Cb h), if_neg (by rw [P6]; simpa using h1)]; rfl
theorem Un.head {U : List Nat} {c : Nat} (h : Un U c) : ∃ d r, U = d :: r ∧ d ≠ 93 := by
 rcases h with ⟨rfl, _, h⟩ | ⟨rfl, _⟩
 ·exact ⟨_, _, rfl, h⟩
 ·exact ⟨_, _, rfl, by decide⟩
inductive Rd : List Nat → List (Nat × Nat) → Prop
 | nil : Rd [] []
 | one {U W : List Nat} {c : Nat} {ps : List (Nat × Nat)} : Un U c → W.head? ≠ some 45 → Rd W ps → Rd (U ++ W) ((c, c) :: ps)
 | two {U V W : List Nat} {c d : Nat} {ps : List (Nat × Nat)} : Un U c → Un V d → c ≤ d → Rd W ps → Rd (U ++ 45 :: (V ++ W)) ((c, d) :: ps)
noncomputable def EM (ps : List (Nat × Nat)) : List Nat := ps.flatMap fun p => AV.filter (betw [p.1] [p.2])
theorem My {x : List Nat} {front : Nat} {B : List Nat} {W : List Nat} {ps : List (Nat × Nat)} (h : Rd W ps) : ∀ (fuel k : Nat) (found : List Nat), x.drop k = W ++ 93 :: B → ps.length < fuel → front ≤ k → (W = [] → k ≠ front) →
  BU x front fuel k found = (some (found ++ EM ps), k + W.length) := by
 induction h with
 | nil =>
  intro fuel k found hx hf _ hk
  cases fuel with
  | zero => cases hf
  | succ f => rw [BU, if_pos ⟨Bt hx, hk rfl⟩]; simp [EM]
 | @one U W c ps hu hw _ ih =>
  intro fuel k found hx hf hfr hk
  cases fuel with
  | zero => cases hf
  | succ f =>
   obtain ⟨d, r, hU, hd⟩ := hu.head
   rw [List.append_assoc] at hx
   have hat : at1 x k = [d] := Bt (r := r ++ (W ++ 93 :: B)) (by rw [hx, hU]; rfl)
   have h1 := Mx hu hx
   have hx2 := Dx hx
   have h2 : Ck x (one x k) = one x k := by
    unfold Ck
    rw [if_neg (fun q => ?_)]
    rw [h1] at q
    obtain ⟨y, z, e⟩ : ∃ y z, W ++ 93 :: B = y :: z := by cases W with
     | nil => exact ⟨_, _, rfl⟩
     | cons y z => exact ⟨_, _, rfl⟩
    have h3 := Bt (hx2.trans e)
    have h4 : y = 45 := by have := q.1; rw [h3] at this; simpa using this
    cases W with
    | nil => have := (List.cons.inj e).1; lia
    | cons w W => have := (List.cons.inj e).1; exact hw (by rw [this, h4]; rfl)
   have hUl : 1 ≤ U.length := by rw [hU]; simp
   rw [BU, if_neg (fun q => hd (by rw [hat] at q; simpa using q.1)), h2, h1]
   rw [if_neg (by simp)]
   rw [ih f (k + U.length) _ hx2 (by simp at hf; assumption) (by clear hUl; exact Nat.le_trans hfr (Nat.le_add_right _ _)) (fun _ => by lia)]
   simp [EM, Nat.add_assoc]
 | @two U V W c d ps hu hv hcd _ ih =>
  intro fuel k found hx hf hfr hk
  cases fuel with
  | zero => cases hf
  | succ f =>
   obtain ⟨d1, r1, hU, hd1⟩ := hu.head
   obtain ⟨d2, r2, hV, hd2⟩ := hv.head
   have hx0 : x.drop k = U ++ (45 :: (V ++ (W ++ 93 :: B))) := by rw [hx]; simp
   have hat : at1 x k = [d1] := Bt (r := r1 ++ (45 :: (V ++ (W ++ 93 :: B)))) (by rw [hx0, hU]; rfl)
   have h1 := Mx hu hx0
   have hx2 := Dx hx0
   have hx3 := Cb hx2
   have h4 := Mx hv hx3
   have hx4 := Dx hx3
   have h2 : Ck x (one x k) = ([d], k + U.length + 1 + V.length) := by
    unfold Ck
    rw [h1]
    simp only []
    rw [Bt hx2, Bt (c := d2) (r := r2 ++ (W ++ 93 :: B)) (by rw [hx3, hV]; rfl), if_pos ⟨rfl, fun q => hd2 (by simpa using q)⟩, h4]
   have hnl : ¬ (([d] : List Nat) < [c]) := by
    intro q
    rcases List.cons_lt_cons_iff.mp q with q | q
    ·lia
    ·exact absurd q.2 (by simp)
   rw [BU, if_neg (fun q => hd1 (by rw [hat] at q; simpa using q.1)), h2, h1]
   simp only []
   rw [if_neg (by rintro (q | q); exact absurd q (by simp); exact hnl q)]
   rw [ih f _ _ hx4 (by simp at hf; exact hf) (by clear h4 hx4 h2; exact Nat.le_trans (Nat.le_trans (Nat.le_trans hfr (Nat.le_add_right _ _)) (Nat.le_add_right _ _)) (Nat.le_add_right _ _)) (fun _ => by exact Nat.ne_of_gt (Nat.lt_of_lt_of_le (Nat.lt_of_le_of_lt (Nat.le_trans hfr (Nat.le_add_right _ _)) (Nat.lt_succ_self _)) (Nat.le_add_right _ _)))]
   simp only [EM, List.flatMap_cons, List.append_assoc, List.length_append, List.length_cons]
   congr 1
   clear h4 hx4 h2; lia
theorem J3 {ps : List (Nat × Nat)} {s : Nat} (hs : s ∈ AV) : decide (s ∈ EM ps) = ps.any (Ef s) := by
 rw [Bool.eq_iff_iff, decide_eq_true_eq, List.any_eq_true]
 unfold EM
 rw [List.mem_flatMap]
 constructor
 ·rintro ⟨p, hp, h⟩; exact ⟨p, hp, (List.mem_filter.mp h).2⟩
 ·rintro ⟨p, hp, h⟩; exact ⟨p, hp, List.mem_filter.mpr ⟨hs, h⟩⟩
theorem PI {W : List Nat} {ps : List (Nat × Nat)} (h : Rd W ps) : ps.length ≤ W.length := by
 induction h with
 | nil => exact Nat.le_refl _
 | one hu _ _ ih => obtain ⟨d, r, e, _⟩ := hu.head; subst e; simp; exact Nat.le_trans ih (Nat.le_add_left _ _)
 | two hu hv _ _ ih => simp; exact Nat.lt_of_lt_of_le (Nat.lt_of_le_of_lt (Nat.le_trans ih (Nat.le_add_left _ _)) (Nat.lt_succ_self _)) (Nat.le_add_left _ _)
theorem P7 {x W B : List Nat} {ps : List (Nat × Nat)} {k : Nat} (h : Rd W ps) (hx : x.drop k = W ++ 93 :: B) (hne : W ≠ []) (h94 : W.head? ≠ some 94) : BQ x k = (some (CJ false ps), k + W.length + 1) := by
 obtain ⟨y, z, rfl⟩ := List.exists_cons_of_ne_nil hne
 have hy : y ≠ 94 := fun q => h94 (by rw [q]; rfl)
 have hlx := congrArg List.length hx
 rw [List.length_drop, List.length_append] at hlx
 have hl := PI h
 unfold BQ
 simp only []
 rw [Bt (show x.drop k = y :: (z ++ 93 :: B) from hx), decide_eq_false (show ¬ ([y] : List Nat) = [94] from fun q => hy (by simpa using q)), if_neg (by decide),
  My h _ k [] hx (by exact Nat.lt_succ_of_le (Nat.le_trans (Nat.le_trans (Nat.le_trans hl (Nat.le_add_right _ _)) (Nat.le_of_eq hlx.symm)) (Nat.sub_le _ _))) (Nat.le_refl _) (fun q => by cases q)]
 simp only [List.nil_append]
 congr 2
 unfold CJ
 exact List.filter_congr fun s hs => by rw [J3 hs]
theorem rd_bar {x W B : List Nat} {ps : List (Nat × Nat)} {k : Nat} (h : Rd W ps) (hx : x.drop k = 94 :: (W ++ 93 :: B)) (hne : W ≠ []) : BQ x k = (some (CJ true ps), k + W.length + 2) := by
 have hlx := congrArg List.length hx
 rw [List.length_drop, List.length_cons, List.length_append] at hlx
 have hl := PI h
 have hx1 := Cb hx
 unfold BQ
 simp only []
 rw [Bt hx, decide_eq_true rfl, if_pos rfl, My h _ (k + 1) [] hx1 (by exact Nat.lt_succ_of_le (Nat.le_trans (Nat.le_trans (Nat.le_trans (Nat.le_trans hl (Nat.le_add_right _ _)) (Nat.le_add_right _ _)) (Nat.le_of_eq hlx.symm)) (Nat.sub_le _ _))) (Nat.le_refl _) (fun q => absurd q hne)]
 simp only [List.nil_append]
 congr 1
 ·congr 1
  unfold CJ
  exact List.filter_congr fun s hs => by rw [J3 hs]
 ·lia
noncomputable def Hg (p : Nat × Option Nat) : Nat × Nat := (p.1, p.2.getD p.1)
theorem Le {c : Nat} (h : Sg c) : Un (esc c) c := by
 unfold Sg at h
 simp only [List.mem_cons, List.not_mem_nil, or_false] at h
 unfold esc
 rcases h with rfl | rfl | rfl | rfl | rfl | rfl
 ·exact .inl ⟨rfl, by decide, by decide⟩
 ·exact .inr ⟨rfl, by decide⟩
 ·exact .inr ⟨rfl, by decide⟩
 ·exact .inl ⟨rfl, by decide, by decide⟩
 ·exact .inl ⟨rfl, by decide, by decide⟩
 ·exact .inl ⟨rfl, by decide, by decide⟩
noncomputable def SgI (p : Nat × Option Nat) : Prop := Sg p.1 ∧ ∀ h, p.2 = some h → Sg h
theorem Kk (c : Nat) : ∃ d r, esc c = d :: r ∧ d ≠ 45 := by
 unfold esc
 split
 ·exact ⟨_, _, rfl, by decide⟩
 ·split
  ·exact ⟨_, _, rfl, by decide⟩
  ·exact ⟨_, _, rfl, ‹_›⟩
theorem GH (p : Nat × Option Nat) : ∃ d r, C8 p = d :: r ∧ d ≠ 45 := by
 obtain ⟨d, r, e, h⟩ := Kk p.1
 obtain ⟨a, o⟩ := p
 cases o with
 | none => exact ⟨d, r, e, h⟩
 | some b => exact ⟨d, _, by show esc a ++ [45] ++ esc b = _; rw [show esc a = d :: r from e]; rfl, h⟩
theorem FZ (its : List (Nat × Option Nat)) : (its.flatMap C8).head? ≠ some 45 := by
 cases its with
 | nil => simp
 | cons p r =>
  obtain ⟨d, t, e, h⟩ := GH p
  rw [List.flatMap_cons, e]
  simpa using h
theorem Dh : ∀ its : List (Nat × Option Nat), (∀ p ∈ its, Bm p = true ∧ SgI p) → Rd (its.flatMap C8) (its.map Hg)
 | [], _ => .nil
 | (a, none) :: r, h => by
  have hr := Dh r fun p hp => h p (List.mem_cons_of_mem _ hp)
  have h1 := (h _ List.mem_cons_self).2.1
  exact Rd.one (Le h1) (FZ r) hr
 | (a, some b) :: r, h => by
  have hr := Dh r fun p hp => h p (List.mem_cons_of_mem _ hp)
  obtain ⟨h0, h1, h2⟩ := h _ List.mem_cons_self
  have : C8 (a, some b) ++ r.flatMap C8 = esc a ++ 45 :: (esc b ++ r.flatMap C8) := by simp [C8]
  rw [List.flatMap_cons, this]
  exact Rd.two (Le h1) (Le (h2 b rfl)) (by simpa [Bm] using h0) hr
theorem BB : ∀ (s : List Nat) (p : Nat × Option Nat), p ∈ items s → p.1 ∈ s ∧ ∀ h, p.2 = some h → h ∈ s
 | [], p, h => nomatch h
 | [a], p, h => by rw [List.mem_singleton.mp h]; exact ⟨List.mem_cons_self, fun h q => by cases q⟩
 | [a, b], p, h => by
  rcases List.mem_cons.mp h with rfl | h
  ·exact ⟨List.mem_cons_self, fun h q => by cases q⟩
  ·rw [List.mem_singleton.mp h]; exact ⟨by simp, fun h q => by cases q⟩
 | a :: b :: h :: t, p, hp => by
  rw [items] at hp
  split at hp
  ·rcases List.mem_cons.mp hp with rfl | hp
   ·exact ⟨List.mem_cons_self, fun x q => by cases q; simp⟩
   ·obtain ⟨h1, h2⟩ := BB t p hp
    exact ⟨by simp [h1], fun x q => by simp [h2 x q]⟩
  ·rcases List.mem_cons.mp hp with rfl | hp
   ·exact ⟨List.mem_cons_self, fun x q => by cases q⟩
   ·obtain ⟨h1, h2⟩ := BB (b :: h :: t) p hp
    exact ⟨List.mem_cons_of_mem _ h1, fun x q => List.mem_cons_of_mem _ (h2 x q)⟩
noncomputable def Q9 : Option Nat → List (Nat × Nat)
 | some h => [(45, 45), (h, h)]
 | none => []
noncomputable def CY : List (Nat × Option Nat) → Bool → List (Nat × Nat) → Bool × List (Nat × Nat)
 | [], b, it => (b, it)
 | p :: r, b, it =>
  if p.1 = 33 ∧ it = [] ∧ b = false then CY r true (Q9 p.2)
  else if p.1 ≤ p.2.getD p.1 then CY r b (it ++ [Hg p]) else CY r b it
theorem Lf {s : List Nat} {k : Nat} (h : k < s.length) : items (s.drop k) = (gt s k, if AD s k = 2 then some (gt s (k + 2)) else none) :: items (s.drop (k + AD s k + 1)) := by
 have hk : s.drop k = gt s k :: s.drop (k + 1) := AO (H3 h)
 unfold AD
 by_cases q : at1 s (k + 1) = [45] ∧ k + 2 < s.length
 ·rw [if_pos q, if_pos rfl]
  have h1 : s.drop (k + 1) = 45 :: s.drop (k + 2) := by
   refine AO ?_
   have := q.1
   unfold at1 at this
   cases hx : s[k + 1]? with
   | none => rw [hx] at this; cases this
   | some y => rw [hx] at this; simpa using this
  have h2 : s.drop (k + 2) = gt s (k + 2) :: s.drop (k + 3) := AO (H3 q.2)
  rw [hk, h1, h2, items, if_pos rfl]
 ·rw [if_neg q, if_neg (by decide), hk, Nat.add_zero]
  cases h1 : s.drop (k + 1) with
  | nil => rfl
  | cons b r =>
   cases r with
   | nil => rfl
   | cons c t =>
    refine Dg fun qb => q ?_
    subst qb
    refine ⟨Bt h1, ?_⟩
    have := congrArg List.length h1
    simp only [List.length_drop, List.length_cons] at this
    clear h; omega
theorem EN (s : List Nat) : ∀ (fuel k : Nat) (b : Bool) (it : List (Nat × Nat)), s.length < fuel + k → AZ s fuel k b it = CY (items (s.drop k)) b it
 | 0, k, b, it, h => by rw [List.drop_of_length_le (by lia)]; rfl
 | fuel + 1, k, b, it, h => by
  by_cases hk : k < s.length
  ·rw [DP hk, EN s fuel _ _ _ (by lia), Lf hk, CY]
   unfold Bz
   rcases LS s k with hw | hw
   ·rw [hw]
    simp only [if_true]
    split
    ·rfl
    ·split
     ·rename_i h1; rw [if_pos (by simpa using h1)]; rfl
     ·rename_i h1; rw [if_neg (by simpa using h1)]
   ·rw [hw]
    simp only [show ¬ (0 = 2) from by decide, if_false, Nat.add_zero]
    split
    ·rfl
    ·rw [if_pos (Nat.le_refl _), if_pos (show gt s k ≤ (none : Option Nat).getD (gt s k) from Nat.le_refl _)]; rfl
  ·rw [Eg hk, List.drop_of_length_le (by exact Nat.le_of_not_lt hk)]; rfl
theorem E3 : ∀ (its : List (Nat × Option Nat)) (b : Bool) (it : List (Nat × Nat)), (∀ p ∈ its, SgI p) → CY its b it = CY (its.filter Bm) b it
 | [], _, _, _ => rfl
 | p :: r, b, it, h => by
  have ih := fun b it => E3 r b it fun p hp => h p (List.mem_cons_of_mem _ hp)
  obtain ⟨h1, h2⟩ := h p List.mem_cons_self
  obtain ⟨a, o⟩ := p
  rw [List.filter_cons]
  by_cases ha : Bm (a, o) = true
  ·rw [if_pos ha, CY, CY, ih, ih, ih]
  ·rw [if_neg ha, CY]
   cases o with
   | none => exact absurd rfl ha
   | some y =>
    have hay : ¬ a ≤ y := by simpa [Bm] using ha
    have hy : 33 ≤ y := by
     have := h2 y rfl
     unfold Sg at this
     simp only [List.mem_cons, List.not_mem_nil, or_false] at this
     lia
    rw [if_neg (fun q => by have : a = 33 := q.1; lia), if_neg (show ¬ (a, some y).1 ≤ (a, some y).2.getD (a, some y).1 from hay), ih]
theorem Hh : ∀ (its : List (Nat × Option Nat)) (b : Bool) (it : List (Nat × Nat)), (∀ p ∈ its, Bm p = true) → (b = true ∨ it ≠ []) → CY its b it = (b, it ++ its.map Hg)
 | [], b, it, _, _ => by simp [CY]
 | p :: r, b, it, h, hb => by
  rw [CY, if_neg (fun q => ?_), if_pos ?_, Hh r b _ (fun p hp => h p (List.mem_cons_of_mem _ hp)) (.inr (by simp))]
  ·simp
  ·have := h p List.mem_cons_self
   obtain ⟨a, o⟩ := p
   cases o with
   | none => exact Nat.le_refl _
   | some y => simpa [Bm] using this
  ·rcases hb with hb | hb
   ·rw [q.2.2] at hb; cases hb
   ·exact hb q.2.1
theorem Mz {s : List Nat} (hs : ∀ ch ∈ s, Sg ch) : BM (33 :: s) = CJ true (((items s).filter Bm).map Hg) := by
 have h1 : cut (33 :: s) none (some 1) = [33] := by
  show ((33 :: s).take (Eu ((1 : Nat) : Int) (s.length + 1))).drop 0 = _
  rw [Bb, Nat.min_eq_left (Nat.le_add_left _ _)]; rfl
 have h2 : cut (33 :: s) (some 1) none = s := by
  show ((33 :: s).take (s.length + 1)).drop (Eu ((1 : Nat) : Int) (s.length + 1)) = _
  rw [Bb, Nat.min_eq_left (Nat.le_add_left _ _)]; show s.take s.length = s; rw [List.take_length]
 have hsg : ∀ p ∈ items s, SgI p := fun p hp => ⟨hs _ (BB s p hp).1, fun h q => hs _ ((BB s p hp).2 h q)⟩
 unfold BM
 simp only []
 rw [h1, h2, decide_eq_true rfl, if_pos rfl, EN s _ 0 _ _ (by exact Nat.lt_succ_self _), List.drop_zero, E3 _ _ _ hsg, Hh _ _ _ (fun p hp => (List.mem_filter.mp hp).2) (.inl rfl)]
 rfl
theorem JH {s : List Nat} (hs : ∀ ch ∈ s, Sg ch) (h33 : s.headD 0 ≠ 33) : BM s = CJ (CY ((items s).filter Bm) false []).1 (CY ((items s).filter Bm) false []).2 := by
 have h1 : cut s none (some 1) ≠ [33] := by
  intro q
  cases s with
  | nil => simp [cut] at q
  | cons a r =>
   have q : ((a :: r).take (Eu ((1 : Nat) : Int) (r.length + 1))).drop 0 = _ := q
   rw [Bb, Nat.min_eq_left (Nat.le_add_left _ _)] at q
   cases q; exact h33 rfl
 have hsg : ∀ p ∈ items s, SgI p := fun p hp => ⟨hs _ (BB s p hp).1, fun h q => hs _ ((BB s p hp).2 h q)⟩
 unfold BM
 simp only []
 rw [decide_eq_false h1, if_neg (by decide), EN s _ 0 _ _ (by exact Nat.lt_succ_self _), List.drop_zero, E3 _ _ _ hsg]
theorem P8 (x : List Nat) (k m : Nat) : cut x (some (k : Int)) (some ((k : Int) + (m : Nat))) = (x.drop k).take m := by
 unfold cut
 have e1 : Eu (k : Int) x.length = min k x.length := Bb k _
 have e2 : Eu ((k : Int) + (m : Nat)) x.length = min (k + m) x.length := Bb (k + m) _
 simp only [e1, e2]
 rw [show x.take (min (k + m) x.length) = x.take (k + m) from by
  rcases Nat.le_total (k + m) x.length with h | h
  ·rw [Nat.min_eq_left h]
  ·rw [Nat.min_eq_right h, List.take_of_length_le (Nat.le_refl _), List.take_of_length_le h]]
 rcases Nat.le_total k x.length with h | h
 ·rw [Nat.min_eq_left h, List.drop_take, Nat.add_sub_cancel_left]
 ·rw [Nat.min_eq_right h, List.drop_of_length_le (by simp; clear e1 e2; exact Nat.min_le_right _ _), List.drop_of_length_le h]; simp
noncomputable def wf (l : List Nat) : List (List Nat × Stp) := BG.filter fun w => decide (l.take w.1.length = w.1)
noncomputable def JI (x : List Nat) (k : Nat) : List (List Nat × Stp) → Option Stp × Nat
 | w :: _ => (some w.2, k + w.1.length)
 | [] => if at1 x k = [91] then ((BQ x (k + 1)).1.map Stp.set, (BQ x (k + 1)).2) else (none, k + 1)
theorem Cr (x : List Nat) (k : Nat) : B0 x k = JI x k (wf (x.drop k)) := by
 have : BG.filter (HK x k) = wf (x.drop k) := by
  unfold wf
  refine List.filter_congr fun w _ => ?_
  unfold HK
  rw [P8]
 unfold B0
 rw [this]
 cases wf (x.drop k) <;> rfl
theorem MA {x R : List Nat} {k : Nat} (h : x.drop k = 40 :: 63 :: 62 :: R) : B0 x k = (some .hold, k + 3) := by
 rw [Cr, h]; simp [wf, BG, List.filter_cons, JI]
theorem MB {x R : List Nat} {k : Nat} (h : x.drop k = 41 :: R) : B0 x k = (some .free, k + 1) := by
 rw [Cr, h]; simp [wf, BG, List.filter_cons, JI]
theorem Lg {x R : List Nat} {k : Nat} (h : x.drop k = 46 :: 42 :: 63 :: R) : B0 x k = (some .least, k + 3) := by
 rw [Cr, h]; simp [wf, BG, List.filter_cons, JI]
theorem MC {x R : List Nat} {k : Nat} (h : x.drop k = 46 :: 42 :: R) (hR : R.head? ≠ some 63) : B0 x k = (some .most, k + 2) := by
 have : ¬ R.take 1 = [63] := by
  intro q
  cases R with
  | nil => simp at q
  | cons a r => simp at q; exact hR (by rw [q]; rfl)
 rw [Cr, h]; simp [wf, BG, List.filter_cons, JI, this]
theorem MD {x R : List Nat} {k : Nat} (h : x.drop k = 40 :: 63 :: 33 :: 41 :: R) : B0 x k = (some (.set []), k + 4) := by
 rw [Cr, h]; simp [wf, BG, List.filter_cons, JI]
theorem Kl {x R : List Nat} {k : Nat} (h : x.drop k = 46 :: R) (hR : R.head? ≠ some 42) : B0 x k = (some (.set AV), k + 1) := by
 have h1 : ¬ R.take 2 = [42, 63] := by
  intro q
  cases R with
  | nil => simp at q
  | cons a r => simp at q; exact hR (by rw [q.1]; rfl)
 have h2 : ¬ R.take 1 = [42] := by
  intro q
  cases R with
  | nil => simp at q
  | cons a r => simp at q; exact hR (by rw [q]; rfl)
 rw [Cr, h]; simp [wf, BG, List.filter_cons, JI, h1, h2, AV]
theorem ME {x R : List Nat} {k : Nat} (h : x.drop k = 91 :: R) : B0 x k = ((BQ x (k + 1)).1.map Stp.set, (BQ x (k + 1)).2) := by
 have : wf (x.drop k) = [] := by rw [h]; simp [wf, BG, List.filter_cons]
 rw [Cr, this]
 show (if at1 x k = [91] then _ else _) = _
 rw [if_pos (Bt h)]
theorem E4 {x W B : List Nat} {ps : List (Nat × Nat)} {k : Nat} (h : Rd W ps) (hne : W ≠ []) (hx : x.drop k = 91 :: 94 :: (W ++ 93 :: B)) : B0 x k = (some (.set (CJ true ps)), k + (W.length + 3)) := by
 rw [ME hx, rd_bar h (Cb hx) hne]
 show (some (Stp.set _), _) = _
 congr 1; lia
theorem Em {x W B : List Nat} {ps : List (Nat × Nat)} {k : Nat} (h : Rd W ps) (hne : W ≠ []) (h94 : W.head? ≠ some 94) (hx : x.drop k = 91 :: (W ++ 93 :: B)) : B0 x k = (some (.set (CJ false ps)), k + (W.length + 2)) := by
 rw [ME hx, P7 h (Cb hx) hne h94]
 show (some (Stp.set _), _) = _
 congr 1; lia
theorem J4 {t : List Nat} (h : t ≠ []) : Cu (33 :: t) = 91 :: 94 :: (t ++ [93]) := by
 unfold Cu
 rw [if_neg (by simp), if_neg (by simpa using h)]
 simp
theorem MF (t : List Nat) : Cu (94 :: t) = 91 :: 92 :: 94 :: (t ++ [93]) := by
 unfold Cu
 rw [if_neg (by simp), if_neg (by simp)]
 simp
theorem G0 {a : Nat} {t : List Nat} (h1 : a ≠ 33) (h2 : a ≠ 94) (h3 : a ≠ 91) : Cu (a :: t) = 91 :: (a :: t ++ [93]) := by
 unfold Cu
 rw [if_neg (by simp), if_neg (by simp [h1])]
 simp [h1, h2, h3]
theorem Lh {x B : List Nat} {k : Nat} (hx : x.drop k = [91, 94, 45, 93] ++ B) : B0 x k = (some (.set [33, 97, 98]), k + 4) := by
 have hr : Rd ([45] ++ []) [(45, 45)] := Rd.one (.inl ⟨rfl, by decide, by decide⟩) (by simp) .nil
 have := E4 (B := B) hr (by simp) (x := x) (k := k) (by rw [hx]; rfl)
 rw [this]
 rfl
noncomputable def F8 : Option Nat → List Nat
 | none => []
 | some h => 45 :: esc h
theorem Km {U : List Nat} {a : Nat} {o : Option Nat} {its : List (Nat × Option Nat)} (hu : Un U a) (h0 : Bm (a, o) = true) (h2 : SgI (a, o)) (h : ∀ p ∈ its, Bm p = true ∧ SgI p) : Rd (U ++ (F8 o ++ its.flatMap C8)) ((a, o.getD a) :: its.map Hg) := by
 cases o with
 | none => exact Rd.one hu (FZ its) (Dh its h)
 | some b =>
  have : F8 (some b) ++ its.flatMap C8 = 45 :: (esc b ++ its.flatMap C8) := rfl
  rw [this]
  exact Rd.two hu (Le (h2.2 b rfl)) (by simpa [Bm] using h0) (Dh its h)
theorem Li (a : Nat) (o : Option Nat) : C8 (a, o) = esc a ++ F8 o := by
 cases o with
 | none => simp [C8, F8]
 | some b => simp [C8, F8]
theorem Kn {its : List (Nat × Option Nat)} (h : its.flatMap C8 = []) : its = [] := by
 cases its with
 | nil => rfl
 | cons p r =>
  obtain ⟨d, t, e, _⟩ := GH p
  rw [List.flatMap_cons, e] at h; cases h
theorem br_step {r x B : List Nat} {k : Nat} (hne : r ≠ []) (hsg : ∀ ch ∈ r, Sg ch) (hx : x.drop k = Cu (Bx r) ++ B) (hB : B.head? ≠ some 42) : B0 x k = (some (.set (BM r)), k + (Cu (Bx r)).length) := by
 have hst := JG hne
 by_cases h33 : r.headD 0 = 33
 ·rw [if_pos h33] at hst
  cases r with
  | nil => exact absurd rfl hne
  | cons y q =>
   have hy : y = 33 := h33
   subst hy
   rw [List.tail_cons] at hst
   have hq : ∀ ch ∈ q, Sg ch := fun ch h => hsg ch (List.mem_cons_of_mem _ h)
   have hal : ∀ p ∈ (items q).filter Bm, Bm p = true ∧ SgI p := fun p hp => by
    obtain ⟨h1, h2⟩ := List.mem_filter.mp hp
    exact ⟨h2, hq _ (BB q p h1).1, fun h e => hq _ ((BB q p h1).2 h e)⟩
   have hm := Mz hq
   rw [hm]
   have hrd := Dh _ hal
   by_cases hi : IT q = []
   ·have El := Kn hi
    rw [hst, hi] at hx ⊢
    rw [El]
    rw [Kl (x := x) (k := k) (R := B) (by rw [hx]; rfl) hB]; rfl
   ·rw [hst, J4 hi] at hx ⊢
    rw [E4 hrd hi (B := B) (by rw [hx]; simp [IT])]
    simp [IT]
 ·rw [if_neg h33] at hst
  have hal : ∀ p ∈ (items r).filter Bm, Bm p = true ∧ SgI p := fun p hp => by
   obtain ⟨h1, h2⟩ := List.mem_filter.mp hp
   exact ⟨h2, hsg _ (BB r p h1).1, fun h e => hsg _ ((BB r p h1).2 h e)⟩
  have hm := JH hsg h33
  rw [hm]
  unfold IT at hst
  rw [hst] at hx ⊢
  clear hst hm
  cases El : (items r).filter Bm with
  | nil =>
   rw [El] at hx
   rw [MD (x := x) (k := k) (R := B) (by rw [hx]; rfl)]; rfl
  | cons p its =>
   rw [El] at hx hal
   obtain ⟨a, o⟩ := p
   obtain ⟨ha1, ha2⟩ := hal _ List.mem_cons_self
   have hal' : ∀ p ∈ its, Bm p = true ∧ SgI p := fun p hp => hal p (List.mem_cons_of_mem _ hp)
   have hgo : ∀ b it, (b = true ∨ it ≠ []) → CY its b it = (b, it ++ its.map Hg) := fun b it h => Hh its b it (fun p hp => (hal' p hp).1) h
   have hle : a ≤ o.getD a := by
    cases o with
    | none => exact Nat.le_refl _
    | some y => simpa [Bm] using ha1
   rw [List.flatMap_cons, Li, List.append_assoc] at hx ⊢
   by_cases ha : a = 33
   ·subst ha
    have hes : esc 33 = [33] := by decide
    rw [hes] at hx ⊢
    rw [show [33] ++ (F8 o ++ its.flatMap C8) = 33 :: (F8 o ++ its.flatMap C8) from rfl] at hx ⊢
    have hmf : CY ((33, o) :: its) false [] = (true, Q9 o ++ its.map Hg) := by
     rw [CY, if_pos ⟨rfl, rfl, rfl⟩, hgo _ _ (.inl rfl)]
    rw [hmf]
    by_cases hW : F8 o ++ its.flatMap C8 = []
    ·obtain ⟨h1, h2⟩ := List.append_eq_nil_iff.mp hW
     have h3 := Kn h2
     rw [hW] at hx ⊢
     subst h3
     cases o with
     | some y => cases h1
     | none => rw [Kl (x := x) (k := k) (R := B) (by rw [hx]; rfl) hB]; rfl
    ·rw [J4 hW] at hx ⊢
     have hrd : Rd (F8 o ++ its.flatMap C8) (Q9 o ++ its.map Hg) := by
      cases o with
      | none => exact Dh its hal'
      | some h =>
       have hh : Sg h := ha2.2 h rfl
       have e1 : F8 (some h) ++ its.flatMap C8 = [45] ++ (esc h ++ its.flatMap C8) := rfl
       rw [e1]
       refine Rd.one (.inl ⟨rfl, by decide, by decide⟩) ?_ (Rd.one (Le hh) (FZ its) (Dh its hal'))
       obtain ⟨d, t, e, hd⟩ := Kk h
       rw [e]; simpa using hd
     rw [E4 hrd hW (B := B) (by rw [hx]; simp)]
     simp; rfl
   ·have hmf : CY ((a, o) :: its) false [] = (false, (a, o.getD a) :: its.map Hg) := by
     rw [CY, if_neg (fun q => ha q.1), if_pos hle, hgo _ _ (.inr (by simp))]; rfl
    rw [hmf]
    by_cases h94 : a = 94
    ·subst h94
     have hes : esc 94 = [94] := by decide
     rw [hes] at hx ⊢
     have hrd := Km (U := [92, 94]) (.inr ⟨rfl, by decide⟩) ha1 ha2 hal'
     rw [show [94] ++ (F8 o ++ its.flatMap C8) = 94 :: (F8 o ++ its.flatMap C8) from rfl, MF] at hx ⊢
     rw [Em hrd (by simp) (by simp) (B := B) (by rw [hx]; simp)]
     simp; lia
    ·have hrd := Km (Le ha2.1) ha1 ha2 hal'
     obtain ⟨d, t, e, hd⟩ : ∃ d t, esc a = d :: t ∧ d ≠ 33 ∧ d ≠ 94 ∧ d ≠ 91 := by
      have hs : Sg a := ha2.1
      unfold Sg at hs
      simp only [List.mem_cons, List.not_mem_nil, or_false] at hs
      rcases hs with h | h | h | h | h | h
      ·exact absurd h ha
      ·rw [h]; exact ⟨92, [45], by decide, by decide⟩
      ·rw [h]; exact ⟨92, [92], by decide, by decide⟩
      ·exact absurd h h94
      ·rw [h]; exact ⟨97, [], by decide, by decide⟩
      ·rw [h]; exact ⟨98, [], by decide, by decide⟩
     rw [e] at hrd hx ⊢
     rw [List.cons_append, G0 hd.1 hd.2.1 hd.2.2] at hx
     rw [List.cons_append, G0 hd.1 hd.2.1 hd.2.2]
     rw [List.cons_append] at hrd
     rw [Em hrd (by simp) (by simpa using hd.2.1) (B := B) (by rw [hx]; simp)]
     simp; rfl
noncomputable def F9 (x : List Nat) : Nat → List Stp → Nat → Prop
 | k, [], k' => k = k'
 | k, s :: st, k' => (B0 x k).1 = some s ∧ F9 x (B0 x k).2 st k'
noncomputable def Hd (W : List Nat) : Prop := W.head? ≠ some 42 ∧ W.head? ≠ some 63
noncomputable def EO (W : List Nat) (st : List Stp) : Prop := ∀ (x : List Nat) (k : Nat) (B : List Nat), x.drop k = W ++ B → Hd B → F9 x k st (k + W.length)
theorem F9.app {x : List Nat} : ∀ {s1 s2 : List Stp} {k k1 k2 : Nat}, F9 x k s1 k1 → F9 x k1 s2 k2 → F9 x k (s1 ++ s2) k2
 | [], s2, k, k1, k2, h1, h2 => by have : k = k1 := h1; rw [this]; exact h2
 | s :: s1, s2, k, k1, k2, h1, h2 => ⟨h1.1, F9.app h1.2 h2⟩
theorem Hd.app {W B : List Nat} (h1 : Hd W) (h2 : Hd B) : Hd (W ++ B) := by
 cases W with
 | nil => exact h2
 | cons a r => exact h1
theorem EO.nil : EO [] [] := fun x k B _ _ => rfl
theorem EO.app {W1 W2 : List Nat} {s1 s2 : List Stp} (h1 : EO W1 s1) (h2 : EO W2 s2) (hd : Hd W2) : EO (W1 ++ W2) (s1 ++ s2) := fun x k B hx hB => by
 have hx' : x.drop k = W1 ++ (W2 ++ B) := by rw [hx, List.append_assoc]
 have r2 := h2 x (k + W1.length) B (Dx hx') hB
 rw [List.length_append, ← Nat.add_assoc]
 exact (h1 x k (W2 ++ B) hx' (hd.app hB)).app r2
theorem EO.one {W : List Nat} {s : Stp} (h : ∀ (x : List Nat) (k : Nat) (B : List Nat), x.drop k = W ++ B → Hd B → B0 x k = (some s, k + W.length)) : EO W [s] := fun x k B hx hB => by
 have := h x k B hx hB
 exact ⟨by rw [this], by rw [this]; exact rfl⟩
theorem MG : EO [40, 63, 62] [.hold] := EO.one fun x k B hx _ => MA (R := B) hx
theorem MH : EO [41] [.free] := EO.one fun x k B hx _ => MB (R := B) hx
theorem Lj : EO [46, 42, 63] [.least] := EO.one fun x k B hx _ => Lg (R := B) hx
theorem J5 : EO [46, 42] [.most] := EO.one fun x k B hx hB => MC (R := B) hx hB.2
noncomputable def G1 (p g : BA) : Prop := (p = none ∧ g = none) ∨ ∃ y L, p = some y ∧ g = some L ∧ Hd y ∧ EO y [.set L]
theorem MI : G1 (some [91, 94, 45, 93]) (some [33, 97, 98]) := .inr ⟨_, _, rfl, rfl, ⟨by simp, by simp⟩, EO.one fun x k B hx _ => Lh (B := B) hx⟩
theorem P9 (s : List Nat) : Hd (Cu s) := by
 unfold Cu
 split
 ·exact ⟨by simp, by simp⟩
 ·split
  ·exact ⟨by simp, by simp⟩
  ·exact ⟨by simp, by simp⟩
theorem PJ {r : List Nat} (hne : r ≠ []) (hsg : ∀ ch ∈ r, Sg ch) : G1 (some (Cu (Bx r))) (some (BM r)) := .inr ⟨_, _, rfl, rfl, P9 _, EO.one fun x k B hx hB => br_step hne hsg hx hB.1⟩
noncomputable def CC : Nat → List BA → List Stp
 | fuel + 1, none :: r => if r = [] then [.most] else if Af r = [] then .most :: (A5 r).map .set else .hold :: .least :: ((A5 r).map .set ++ .free :: CC fuel (Af r))
 | _, _ => []
noncomputable def Dy (G : List BA) : List Stp := (A5 G).map .set ++ CC G.length (Af G)
theorem Ko {ps G : List BA} (h : AA G1 ps G) : EO (A5 ps).flatten ((A5 G).map .set) ∧ Hd (A5 ps).flatten ∧ AA G1 (Af ps) (Af G) := by
 induction h with
 | nil => exact ⟨EO.nil, ⟨by simp [A5], by simp [A5]⟩, .nil⟩
 | @cons p g ps G h1 t ih =>
  rcases h1 with ⟨rfl, rfl⟩ | ⟨y, L, rfl, rfl, hy, ht⟩
  ·exact ⟨EO.nil, ⟨by simp [A5], by simp [A5]⟩, .cons (.inl ⟨rfl, rfl⟩) t⟩
  ·exact ⟨ht.app ih.1 ih.2.1, hy.app ih.2.1, ih.2.2⟩
theorem CD {α β : Type} {R : α → β → Prop} {as : List α} {bs : List β} (h : AA R as bs) : as = [] ↔ bs = [] := by
 cases h with
 | nil => simp
 | cons => simp
theorem GI : ∀ (fuel : Nat) {ps G : List BA}, AA G1 ps G → EO (groups fuel ps).flatten (CC fuel G) ∧ Hd (groups fuel ps).flatten
 | 0, ps, G, h => ⟨EO.nil, ⟨by simp [groups], by simp [groups]⟩⟩
 | fuel + 1, ps, G, h => by
  cases h with
  | nil => exact ⟨EO.nil, ⟨by simp [groups], by simp [groups]⟩⟩
  | @cons p g ps G h1 t =>
   rcases h1 with ⟨rfl, rfl⟩ | ⟨y, L, rfl, rfl, hy, ht⟩
   ·obtain ⟨f1, f2, f3⟩ := Ko t
    simp only [groups, CC]
    by_cases e : ps = []
    ·rw [if_pos e, if_pos ((CD t).mp e)]
     exact ⟨by simpa using J5, ⟨by simp, by simp⟩⟩
    ·rw [if_neg e, if_neg (fun q => e ((CD t).mpr q))]
     by_cases e2 : Af ps = []
     ·rw [if_pos e2, if_pos ((CD f3).mp e2)]
      refine ⟨?_, ⟨by simp, by simp⟩⟩
      have := J5.app f1 f2
      simpa using this
     ·rw [if_neg e2, if_neg (fun q => e2 ((CD f3).mpr q))]
      obtain ⟨g1, g2⟩ := GI fuel f3
      refine ⟨?_, ⟨by simp, by simp⟩⟩
      have h41 : Hd ([41] ++ (groups fuel (Af ps)).flatten) := ⟨by simp, by simp⟩
      have := MG.app (Lj.app (f1.app (MH.app g1 g2) h41) (f2.app h41)) ⟨by simp, by simp⟩
      have e1 : [40, 63, 62] ++ ([46, 42, 63] ++ ((A5 ps).flatten ++ ([41] ++ (groups fuel (Af ps)).flatten))) = (([40, 63, 62, 46, 42, 63] ++ (A5 ps).flatten ++ [41]) :: groups fuel (Af ps)).flatten := by simp
      rw [← e1]
      exact this
   ·exact ⟨EO.nil, ⟨by simp [groups], by simp [groups]⟩⟩
theorem Hi {ps G : List BA} (h : AA G1 ps G) : ps.length = G.length := h.length
theorem Pa {ps G : List BA} (h : AA G1 ps G) : EO (A5 ps ++ groups ps.length (Af ps)).flatten (Dy G) := by
 obtain ⟨f1, f2, f3⟩ := Ko h
 obtain ⟨g1, g2⟩ := GI ps.length f3
 rw [List.flatten_append]
 unfold Dy
 rw [← Hi h]
 exact f1.app g1 g2
theorem F9.le {x : List Nat} : ∀ {st : List Stp} {k k' : Nat}, F9 x k st k' → k ≤ k'
 | [], k, k', h => Nat.le_of_eq h
 | s :: st, k, k', h => Nat.le_trans (Nat.le_of_succ_le (FH x k)) (F9.le h.2)
theorem GJ {x : List Nat} : ∀ {st : List Stp} {fuel k : Nat} {acc : List (Option Stp)}, F9 x k st x.length → x.length < fuel + k → Bi x fuel k acc = acc ++ st.map some
 | [], fuel, k, acc, h, hf => by
  have hk : k = x.length := h
  cases fuel with
  | zero => simp [Bi]
  | succ f => rw [Bi, if_neg (by exact Nat.not_lt.mpr (Nat.le_of_eq hk.symm))]; simp
 | s :: st, fuel, k, acc, h, hf => by
  have h1 := FH x k
  have h2 := F9.le h.2
  cases fuel with
  | zero => lia
  | succ f =>
   rw [Bi, if_pos (by exact Nat.lt_of_lt_of_le (by assumption) (by assumption)), GJ h.2 (by lia), h.1]
   simp
noncomputable def Dz (st : List Stp) : List (List Nat) := ((st.map some).filter Cn).map KJ
theorem Cc (a b : List Stp) : Dz (a ++ b) = Dz a ++ Dz b := by unfold Dz; simp
theorem E5 (xs : List (List Nat)) : Dz (xs.map .set) = [] := by
 induction xs with
 | nil => rfl
 | cons a r ih =>
  rw [List.map_cons]
  show Dz ([Stp.set a] ++ r.map .set) = []
  rw [Cc, ih]; rfl
theorem EX : ∀ (fuel : Nat) (G : List BA), ∃ m, Dz (CC fuel G) = (List.replicate m [[104, 111, 108, 100], [102, 114, 101, 101]]).flatten
 | 0, G => ⟨0, rfl⟩
 | _ + 1, [] => ⟨0, rfl⟩
 | _ + 1, some _ :: _ => ⟨0, rfl⟩
 | fuel + 1, none :: r => by
  simp only [CC]
  split
  ·exact ⟨0, rfl⟩
  ·split
   ·refine ⟨0, ?_⟩
    show Dz ([Stp.most] ++ _) = _
    rw [Cc, E5]; rfl
   ·obtain ⟨m, hm⟩ := EX fuel (Af r)
    refine ⟨m + 1, ?_⟩
    show Dz ([Stp.hold, Stp.least] ++ ((A5 r).map .set ++ ([Stp.free] ++ CC fuel (Af r)))) = _
    rw [Cc, Cc, Cc, E5, hm, List.replicate_succ, List.flatten_cons]; rfl
theorem J6 {ps G : List BA} (h : AA G1 ps G) : C6 (A5 ps ++ groups ps.length (Af ps)).flatten = some (Dy G) := by
 obtain ⟨x, hx⟩ : ∃ x, x = (A5 ps ++ groups ps.length (Af ps)).flatten := ⟨_, rfl⟩
 have ht := Pa h x 0 [] (by rw [List.drop_zero, List.append_nil, hx]) ⟨by simp, by simp⟩
 rw [← hx, Nat.zero_add] at ht
 have hl := GJ (acc := []) (fuel := x.length + 1) ht (by exact Nat.lt_succ_self _)
 rw [List.nil_append] at hl
 obtain ⟨m, hm⟩ : ∃ m, Dz (Dy G) = (List.replicate m [[104, 111, 108, 100], [102, 114, 101, 101]]).flatten := by
  obtain ⟨m, hm⟩ := EX G.length (Af G)
  exact ⟨m, by unfold Dy; rw [Cc, E5, hm]; rfl⟩
 rw [← hx]
 unfold C6
 rw [hl]
 have hlen : ((Dy G).map some |>.filter Cn).length = 2 * m := by
  have := congrArg List.length hm
  unfold Dz at this
  rw [List.length_map] at this
  rw [this]
  clear hm this
  induction m with
  | zero => rfl
  | succ m ih => rw [List.replicate_succ, List.flatten_cons, List.length_append, ih]; simp; lia
 have h1 : FG ((Dy G).map some) = true := by
  unfold FG
  rw [hlen, show 2 * m / 2 = m from by simp]
  exact decide_eq_true hm
 have h2 : ((Dy G).map some).contains none = false := by
  rw [Bool.eq_false_iff]
  intro q
  rw [List.contains_iff_mem, List.mem_map] at q
  obtain ⟨_, _, q⟩ := q
  cases q
 rw [h1, h2]
 simp
theorem MJ (ps : List BA) : cut (EF ps) (some 4) (some (-3)) = (A5 ps ++ groups ps.length (Af ps)).flatten := by
 unfold EF
 generalize (A5 ps ++ groups ps.length (Af ps)).flatten = w
 have hl : ([40, 63, 115, 58] ++ w ++ [41, 92, 90]).length = w.length + 7 := by simp
 unfold cut
 rw [hl]
 have e1 : Eu 4 (w.length + 7) = 4 := (Bb 4 _).trans (Nat.min_eq_left (Nat.le_add_left 4 (w.length + 3)))
 have e2 : Eu (-3) (w.length + 7) = w.length + 4 := GR 2 _
 simp only [e1, e2]
 rw [List.take_append_of_le_length (by simp), List.take_of_length_le (by simp)]
 rfl
theorem Lk (ps : List BA) : cut (EF ps) none (some 4) = [40, 63, 115, 58] := by
 unfold EF
 generalize (A5 ps ++ groups ps.length (Af ps)).flatten = w
 have hl : ([40, 63, 115, 58] ++ w ++ [41, 92, 90]).length = w.length + 7 := by simp
 unfold cut
 rw [hl]
 have e1 : Eu 4 (w.length + 7) = 4 := (Bb 4 _).trans (Nat.min_eq_left (Nat.le_add_left 4 (w.length + 3)))
 simp only [e1, List.drop_zero]
 rfl
theorem Ll (ps : List BA) : cut (EF ps) (some (-3)) none = [41, 92, 90] := by
 unfold EF
 generalize (A5 ps ++ groups ps.length (Af ps)).flatten = w
 have hl : ([40, 63, 115, 58] ++ w ++ [41, 92, 90]).length = w.length + 7 := by simp
 unfold cut
 rw [hl]
 have e2 : Eu (-3) (w.length + 7) = w.length + 4 := GR 2 _
 simp only [e2]
 rw [List.take_of_length_le (by simp), List.drop_append_of_le_length (by simp), List.drop_of_length_le (by simp)]
 rfl
theorem JJ {acc : List BA} {p : BA} (h : HP acc) (hp : p = none → acc.getLast? ≠ some none) : HP (acc ++ [p]) := by
 intro i hi hi1
 rcases Nat.lt_trichotomy (i + 1) acc.length with q | q | q
 ·rw [List.getElem?_append_left (by lia)] at hi hi1
  exact h i hi hi1
 ·rw [List.getElem?_append_left (by exact Nat.le_of_eq q)] at hi
  rw [List.getElem?_append_right (by exact Nat.le_of_eq q.symm), q, Nat.sub_self] at hi1
  have hp' : p = none := by simpa using hi1
  refine hp hp' ?_
  rw [List.getLast?_eq_getElem?, show acc.length - 1 = i from by lia]; exact hi
 ·rw [List.getElem?_eq_none (by simp; exact Nat.le_of_lt_succ q)] at hi1; cases hi1
theorem Pb (ts : List Tk) : HP (As ts) := by
 unfold As
 have : ∀ (ts : List Tk) (acc : List BA), HP acc → HP (ts.foldl Fi acc) := by
  intro ts
  induction ts with
  | nil => exact fun acc h => h
  | cons t r ih =>
   intro acc h
   rw [List.foldl_cons]
   refine ih _ ?_
   cases t with
   | star =>
    show HP (if acc.getLast? = some none then acc else acc ++ [none])
    split
    ·exact h
    ·exact JJ h fun _ => ‹_›
   | quest => exact JJ h fun q => by cases q
   | br r => exact JJ h fun q => by cases q
 exact this ts [] fun i h => by cases h
noncomputable def gm : List BA → List Nat → Prop
 | [], w => w = []
 | some L :: r, w => ∃ c t, w = c :: t ∧ c ∈ L ∧ gm r t
 | none :: r, w => ∃ j, j ≤ w.length ∧ gm r (w.drop j)
noncomputable def Z (es : List Nat) : List (Nat × Nat) := es.map fun e => (0, e)
theorem wmap (ws : List (Nat × Nat)) : (List.range ws.length).map (wAt ws) = ws := by
 refine List.ext_getElem (by simp) fun i h1 h2 => ?_
 rw [List.getElem_map, List.getElem_range]
 unfold wAt
 rw [List.getElem?_eq_getElem h2]; rfl
theorem pick_w {β : Type} (p : Nat × Nat → Bool) (f : Nat × Nat → β) (ws : List (Nat × Nat)) : ((List.range ws.length).filter fun k => p (wAt ws k)).map (fun k => f (wAt ws k)) = (ws.filter p).map f := by
 conv => rhs; rw [← wmap ws]
 rw [List.filter_map, List.map_map]; rfl
noncomputable def N7 (name L : List Nat) (i : Nat) : Bool := match name[i]? with | some ch => L.contains ch | none => false
theorem MK (name L es : List Nat) : (Stp.set L).run name (Z es) = Z ((es.filter (N7 name L)).map (· + 1)) := by
 have h := pick_w (fun w => N7 name L w.2) (fun w => (w.1, w.2 + 1)) (Z es)
 have : (Stp.set L).run name (Z es) = ((Z es).filter fun w => N7 name L w.2).map fun w => (w.1, w.2 + 1) := h
 rw [this]
 unfold Z
 rw [List.filter_map, List.map_map, List.map_map]; rfl
noncomputable def J7 (name : List Nat) : List (List Nat) → Nat → Bool
 | [], _ => true
 | L :: r, p => N7 name L p && J7 name r (p + 1)
theorem Kp (name : List Nat) (a b : List Stp) (ws : List (Nat × Nat)) : DO name (a ++ b) ws = DO name b (DO name a ws) := by unfold DO; rw [List.foldl_append]
theorem Cs (name : List Nat) (s : Stp) (b : List Stp) (ws : List (Nat × Nat)) : DO name (s :: b) ws = DO name b (s.run name ws) := rfl
theorem Fp (name : List Nat) : ∀ (Ls : List (List Nat)) (es : List Nat), DO name (Ls.map .set) (Z es) = Z ((es.filter (J7 name Ls)).map (· + Ls.length))
 | [], es => by
  have : es.filter (J7 name []) = es := List.filter_eq_self.mpr fun _ _ => rfl
  rw [this]; simp [DO]
 | L :: r, es => by
  rw [List.map_cons, Cs, MK, Fp name r]
  congr 1
  rw [List.filter_map, List.map_map, List.filter_filter, List.length_cons]
  have : (es.filter fun a => (J7 name r ∘ fun x => x + 1) a && N7 name L a) = es.filter (J7 name (L :: r)) := List.filter_congr fun a _ => by
   show (J7 name r (a + 1) && N7 name L a) = (N7 name L a && J7 name r (a + 1))
   rw [Bool.and_comm]
  rw [this]
  refine List.map_congr_left fun a _ => ?_
  show a + 1 + r.length = a + (r.length + 1)
  lia
theorem Kq (name : List Nat) {es : List Nat} (h : es.length ≤ 1) : Stp.hold.run name (Z es) = Z es := by
 match es, h with
 | [], _ => rfl
 | [p], _ => rfl
theorem Kr (name : List Nat) (es : List Nat) : Stp.free.run name (Z es) = Z (es.take 1) := by
 cases es with
 | nil => rfl
 | cons p r =>
  have hz : ∀ k, k < (Z (p :: r)).length → (wAt (Z (p :: r)) k).1 = 0 := fun k hk => by
   have := FC hk
   unfold Z at this ⊢
   obtain ⟨e, _, q⟩ := List.mem_map.mp this
   rw [← q]
  show ((List.range (Z (p :: r)).length).filter fun k => k == 0 || (wAt (Z (p :: r)) k).1 != (wAt (Z (p :: r)) (k - 1)).1).map (wAt (Z (p :: r))) = _
  have : ((List.range (Z (p :: r)).length).filter fun k => k == 0 || (wAt (Z (p :: r)) k).1 != (wAt (Z (p :: r)) (k - 1)).1) = [0] := by
   have hc : ((List.range (Z (p :: r)).length).filter fun k => k == 0 || (wAt (Z (p :: r)) k).1 != (wAt (Z (p :: r)) (k - 1)).1) = (List.range (Z (p :: r)).length).filter fun k => k == 0 := by
    refine List.filter_congr fun k hk => ?_
    have hk := List.mem_range.mp hk
    rw [hz k hk, hz (k - 1) (by exact Nat.lt_of_le_of_lt (Nat.sub_le _ _) hk)]; simp
   rw [hc]
   show (List.range (((p :: r).map _).length)).filter _ = _
   rw [List.length_map, List.length_cons, List.range_succ_eq_map, List.filter_cons]
   simp
  rw [this]; rfl
theorem J8 (name : List Nat) (p : Nat) : Stp.least.run name (Z [p]) = Z ((List.range (name.length + 1 - p)).map (p + ·)) := by
 show (((List.range 1).flatMap fun i => (List.range (name.length + 1 - (wAt (Z [p]) i).2)).map (Prod.mk i)).map fun ij => ((wAt (Z [p]) ij.1).1, (wAt (Z [p]) ij.1).2 + ij.2)) = _
 rw [show List.range 1 = [0] from rfl, List.flatMap_cons, List.flatMap_nil, List.append_nil, List.map_map]
 unfold Z
 rw [List.map_map]; rfl
theorem Hj (name : List Nat) (p : Nat) : Stp.most.run name (Z [p]) = Z ((List.range (name.length + 1 - p)).map (name.length - ·)) := by
 show (((List.range 1).flatMap fun i => (List.range (name.length + 1 - (wAt (Z [p]) i).2)).map (Prod.mk i)).map fun ij => ((wAt (Z [p]) ij.1).1, name.length - ij.2)) = _
 rw [show List.range 1 = [0] from rfl, List.flatMap_cons, List.flatMap_nil, List.append_nil, List.map_map]
 unfold Z
 rw [List.map_map]; rfl
theorem JK (name : List Nat) (s : Stp) : s.run name [] = [] := by cases s <;> rfl
theorem En (name : List Nat) : ∀ st : List Stp, DO name st [] = []
 | [] => rfl
 | s :: r => by rw [Cs, JK]; exact En name r
theorem G3 {name : List Nat} : ∀ {Ls : List (List Nat)} {p : Nat}, J7 name Ls p = true → p ≤ name.length → p + Ls.length ≤ name.length
 | [], p, _, h => h
 | L :: r, p, h, hp => by
  unfold J7 at h
  rw [Bool.and_eq_true] at h
  have : p < name.length := by
   have h1 := h.1
   unfold N7 at h1
   cases hx : name[p]? with
   | none => rw [hx] at h1; cases h1
   | some c => exact (List.getElem?_eq_some_iff.mp hx).1
  have := G3 h.2 (by assumption)
  rw [List.length_cons]; lia
theorem G4 (name : List Nat) : ∀ (G : List BA) (p : Nat), gm G (name.drop p) ↔ J7 name (A5 G) p = true ∧ gm (Af G) (name.drop (p + (A5 G).length))
 | [], p => by simp [A5, Af, J7]
 | none :: r, p => by simp [A5, Af, J7]
 | some L :: r, p => by
  have ih := G4 name r (p + 1)
  simp only [A5, Af, J7, gm, List.length_cons]
  rw [Bool.and_eq_true]
  constructor
  ·rintro ⟨c, t, h1, h2, h3⟩
   have ht : name.drop (p + 1) = t := Cb h1
   rw [← ht] at h3
   obtain ⟨h4, h5⟩ := ih.mp h3
   refine ⟨⟨?_, h4⟩, ?_⟩
   ·unfold N7
    have h0 : (name.drop p)[0]? = some c := by rw [h1]; rfl
    rw [List.getElem?_drop, Nat.add_zero] at h0
    rw [h0]
    exact List.contains_iff_mem.mpr h2
   ·rw [show p + ((A5 r).length + 1) = p + 1 + (A5 r).length from by clear ih h5; lia]; exact h5
  ·rintro ⟨⟨h1, h2⟩, h3⟩
   unfold N7 at h1
   cases hx : name[p]? with
   | none => rw [hx] at h1; cases h1
   | some c =>
    rw [hx] at h1
    refine ⟨c, name.drop (p + 1), AO hx, List.contains_iff_mem.mp h1, ih.mpr ⟨h2, ?_⟩⟩
    rw [show p + 1 + (A5 r).length = p + ((A5 r).length + 1) from by clear ih h3; lia]; exact h3
theorem JL {name : List Nat} {r : List BA} {p : Nat} (hp : p ≤ name.length) : gm (none :: r) (name.drop p) ↔ ∃ q, p ≤ q ∧ q ≤ name.length ∧ gm r (name.drop q) := by
 simp only [gm, List.length_drop, List.drop_drop]
 constructor
 ·rintro ⟨j, h1, h2⟩; exact ⟨p + j, by simp, by lia, h2⟩
 ·rintro ⟨q, h1, h2, h3⟩; exact ⟨q - p, by clear h1; omega, by rw [show p + (q - p) = q from by lia]; exact h3⟩
theorem gm_mono {name : List Nat} {r : List BA} {p q : Nat} (hpq : p ≤ q) (hq : q ≤ name.length) (h : gm (none :: r) (name.drop q)) : gm (none :: r) (name.drop p) := by
 obtain ⟨x, h1, h2, h3⟩ := (JL hq).mp h
 exact (JL (by exact Nat.le_trans (by assumption) (by assumption))).mpr ⟨x, by exact Nat.le_trans (by assumption) (by assumption), h2, h3⟩
theorem Pc (f : Nat → Bool) (p n : Nat) : ((((List.range n).map (p + ·)).filter f).take 1 = [] ∧ ∀ q, p ≤ q → q < p + n → f q = false) ∨
  ∃ q0, (((List.range n).map (p + ·)).filter f).take 1 = [q0] ∧ p ≤ q0 ∧ q0 < p + n ∧ f q0 = true ∧ ∀ q, p ≤ q → q < p + n → f q = true → q0 ≤ q := by
 have hpw : (((List.range n).map (p + ·)).filter f).Pairwise (· < ·) := by
  refine List.Pairwise.filter _ ?_
  rw [List.pairwise_map]
  exact List.pairwise_lt_range.imp fun h => by lia
 have hm : ∀ q, p ≤ q → q < p + n → f q = true → q ∈ ((List.range n).map (p + ·)).filter f := fun q h1 h2 h3 => List.mem_filter.mpr ⟨List.mem_map.mpr ⟨q - p, List.mem_range.mpr (by lia), by lia⟩, h3⟩
 cases hc : ((List.range n).map (p + ·)).filter f with
 | nil =>
  refine .inl ⟨rfl, fun q h1 h2 => ?_⟩
  rw [Bool.eq_false_iff]
  intro h3
  have := hm q h1 h2 h3
  rw [hc] at this; cases this
 | cons q0 t =>
  rw [hc] at hpw hm
  have h0 : q0 ∈ ((List.range n).map (p + ·)).filter f := by rw [hc]; exact List.mem_cons_self
  obtain ⟨h1, h2⟩ := List.mem_filter.mp h0
  obtain ⟨j, hj, e⟩ := List.mem_map.mp h1
  have hj := List.mem_range.mp hj
  refine .inr ⟨q0, rfl, by exact Nat.le_trans (Nat.le_add_right _ _) (Nat.le_of_eq e), by lia, h2, fun q a b c => ?_⟩
  rcases List.mem_cons.mp (hm q a b c) with h | h
  ·clear e; exact Nat.le_of_eq h.symm
  ·exact Nat.le_of_lt ((List.pairwise_cons.mp hpw).1 q h)
theorem G5 {G : List BA} (h : Af G ≠ []) : ∃ r, Af G = none :: r := by
 obtain ⟨p, t, e⟩ := List.exists_cons_of_ne_nil h
 exact ⟨t, by rw [e, Dc G p t e]⟩
noncomputable def Acc (name : List Nat) (st : List Stp) (p : Nat) : Prop := name.length ∈ (DO name st (Z [p])).map (·.2)
theorem Z_snd (es : List Nat) : (Z es).map (·.2) = es := by unfold Z; rw [List.map_map]; exact List.map_id es
theorem Ks (name : List Nat) : ∀ (fuel : Nat) (G : List BA) (p : Nat), G.length ≤ fuel → p ≤ name.length → (G = [] ∨ ∃ r, G = none :: r) → (Acc name (CC fuel G) p ↔ gm G (name.drop p))
 | fuel, [], p, _, hp, _ => by
  have : CC fuel [] = [] := by cases fuel <;> rfl
  rw [this]
  show name.length ∈ [p] ↔ name.drop p = []
  rw [List.mem_singleton, List.drop_eq_nil_iff]; lia
 | fuel, some L :: r, p, _, hp, h => by
  rcases h with h | ⟨r', h⟩ <;> cases h
 | 0, none :: r, p, h, _, _ => absurd h (by simp)
 | fuel + 1, none :: r, p, hf, hp, _ => by
  rw [JL hp]
  unfold Acc
  simp only [CC]
  by_cases hr : r = []
  ·rw [if_pos hr, hr]
   show name.length ∈ (Stp.most.run name (Z [p])).map (·.2) ↔ _
   rw [Hj, Z_snd]
   refine ⟨fun _ => ⟨name.length, hp, Nat.le_refl _, List.drop_length⟩, fun _ => List.mem_map.mpr ⟨0, List.mem_range.mpr (by clear hf; omega), rfl⟩⟩
  ·rw [if_neg hr]
   by_cases hr2 : Af r = []
   ·rw [if_pos hr2, Cs, Hj, Fp, Z_snd]
    constructor
    ·intro h
     obtain ⟨e, he, h2⟩ := List.mem_map.mp h
     obtain ⟨h3, h4⟩ := List.mem_filter.mp he
     obtain ⟨j, hj, h5⟩ := List.mem_map.mp h3
     have hj := List.mem_range.mp hj
     have h5 : name.length - j = e := h5
     have h2 : e + (A5 r).length = name.length := h2
     refine ⟨e, by clear hf hp; omega, by exact Nat.le_trans (Nat.le_add_right _ _) (Nat.le_of_eq h2), (G4 name r e).mpr ⟨h4, ?_⟩⟩
     rw [hr2, h2]; exact List.drop_length
    ·rintro ⟨q, h1, h2, h3⟩
     obtain ⟨h4, h5⟩ := (G4 name r q).mp h3
     rw [hr2] at h5
     have h6 : name.length ≤ q + (A5 r).length := List.drop_eq_nil_iff.mp h5
     have h7 := G3 h4 h2
     exact List.mem_map.mpr ⟨q, List.mem_filter.mpr ⟨List.mem_map.mpr ⟨name.length - q, List.mem_range.mpr (by clear hf h2 h6 h7; omega), show name.length - (name.length - q) = q by clear hf hp h1 h6; omega⟩, h4⟩, show q + _ = _ by exact Nat.le_antisymm h7 h6⟩
   ·rw [if_neg hr2, Cs, Kq name (Nat.le_refl _), Cs, J8, Kp, Fp, Cs, Kr]
    obtain ⟨r', hr'⟩ := G5 hr2
    have hlen := BH r
    rw [← List.map_take]
    rcases Pc (J7 name (A5 r)) p (name.length + 1 - p) with ⟨h1, h2⟩ | ⟨q0, h1, h2, h3, h4, h5⟩
    ·rw [h1]
     show name.length ∈ (DO name _ []).map _ ↔ _
     rw [En]
     refine ⟨fun h => (nomatch h), fun ⟨q, a, b, c⟩ => ?_⟩
     have := ((G4 name r q).mp c).1
     rw [h2 q a (by clear hf hlen; omega)] at this; cases this
    ·rw [h1]
     show Acc name (CC fuel (Af r)) (q0 + (A5 r).length) ↔ _
     have hq0 := G3 h4 (by clear hf hlen; omega)
     rw [Ks name fuel (Af r) _ (by simp at hf; exact Nat.le_trans (by assumption) (by assumption)) hq0 (.inr ⟨r', hr'⟩)]
     constructor
     ·intro h; exact ⟨q0, h2, by exact Nat.le_trans (Nat.le_add_right _ _) hq0, (G4 name r q0).mpr ⟨h4, h⟩⟩
     ·rintro ⟨q, a, b, c⟩
      obtain ⟨h6, h7⟩ := (G4 name r q).mp c
      have h8 := h5 q a (by clear hf hlen hq0; omega) h6
      have h9 := G3 h6 b
      rw [hr'] at h7 ⊢
      exact gm_mono (by lia) h9 h7
theorem Pd (name : List Nat) (G : List BA) : name.length ∈ Nx (Dy G) name ↔ gm G name := by
 have h0 := G4 name G 0
 rw [List.drop_zero, Nat.zero_add] at h0
 rw [h0]
 unfold Nx Dy
 rw [Kp]
 show name.length ∈ (DO name _ (DO name _ (Z [0]))).map _ ↔ _
 rw [Fp]
 by_cases hf : J7 name (A5 G) 0 = true
 ·rw [show ([0] : List Nat).filter (J7 name (A5 G)) = [0] from by simp [hf]]
  have hle := G3 hf (Nat.zero_le _)
  rw [Nat.zero_add] at hle
  have := Ks name G.length (Af G) (A5 G).length (BH G) hle (by
   by_cases q : Af G = []
   ·exact .inl q
   ·exact .inr (G5 q))
  unfold Acc at this
  simp only [List.map_cons, List.map_nil, Nat.zero_add]
  rw [this]
  exact ⟨fun h => ⟨hf, h⟩, fun h => h.2⟩
 ·rw [show ([0] : List Nat).filter (J7 name (A5 G)) = [] from by simp [hf]]
  show name.length ∈ (DO name _ []).map _ ↔ _
  rw [En]
  exact ⟨fun h => (nomatch h), fun h => absurd h.1 hf⟩
noncomputable def okS : Bool → List Stp → Prop
 | _, [] => True
 | b, .set _ :: r => okS b r
 | false, .hold :: r => okS false r
 | false, .least :: r => okS true r
 | false, .most :: r => okS true r
 | true, .free :: r => okS false r
 | _, _ => False
theorem Fq (b : Bool) (st : List Stp) (h : okS b st) : ∀ Ls : List (List Nat), okS b (Ls.map .set ++ st)
 | [] => h
 | L :: r => by
  show okS b (.set L :: (r.map .set ++ st))
  have := Fq b st h r
  cases b <;> exact this
theorem J9 : ∀ (fuel : Nat) (G : List BA), okS false (CC fuel G)
 | 0, G => trivial
 | _ + 1, [] => trivial
 | _ + 1, some _ :: _ => trivial
 | fuel + 1, none :: r => by
  simp only [CC]
  split
  ·exact trivial
  ·split
   ·have := Fq true [] trivial (A5 r)
    rw [List.append_nil] at this
    exact this
   ·exact Fq true (.free :: CC fuel (Af r)) (J9 fuel (Af r)) (A5 r)
theorem Pe (G : List BA) : okS false (Dy G) := Fq false _ (J9 _ _) _
theorem ML {α : Type} (p : α → Bool) (l : List α) : (l.filter p).length ≤ l.length := List.length_filter_le p l
theorem EP {name : List Nat} (hn : name.length ≤ 4) : ∀ (st : List Stp) (b : Bool) (es : List Nat) (k : Nat), okS b st → es.length ≤ (if b = true then 5 else 1) → (DO name (st.take k) (Z es)).length ≤ 1000
 | [], b, es, k, _, he => by
  rw [List.take_nil]
  show (Z es).length ≤ 1000
  unfold Z
  rw [List.length_map]
  split at he <;> exact Nat.le_trans (by assumption) (by decide)
 | s :: r, b, es, 0, _, he => by
  show (Z es).length ≤ 1000
  unfold Z
  rw [List.length_map]
  split at he <;> exact Nat.le_of_lt (Nat.lt_of_le_of_lt he (by decide))
 | s :: r, b, es, k + 1, h, he => by
  rw [List.take_succ_cons, Cs]
  cases s with
  | set L =>
   rw [MK]
   refine EP hn r b _ k (by cases b <;> exact h) ?_
   rw [List.length_map]
   exact Nat.le_trans (ML _ _) he
  | hold =>
   cases b with
   | true => exact h.elim
   | false => rw [Kq name he]; exact EP hn r false es k h he
  | free =>
   cases b with
   | false => exact h.elim
   | true =>
    rw [Kr]
    refine EP hn r false _ k h ?_
    rw [List.length_take]
    show min 1 _ ≤ 1
    exact Nat.min_le_left _ _
  | least =>
   cases b with
   | true => exact h.elim
   | false =>
    match es, he with
    | [], _ => rw [show Z [] = [] from rfl, JK, En]; exact Nat.zero_le _
    | [p], _ =>
     rw [J8]
     refine EP hn r true _ k h ?_
     rw [List.length_map, List.length_range]
     show _ ≤ 5
     omega
  | most =>
   cases b with
   | true => exact h.elim
   | false =>
    match es, he with
    | [], _ => rw [show Z [] = [] from rfl, JK, En]; exact Nat.zero_le _
    | [p], _ =>
     rw [Hj]
     refine EP hn r true _ k h ?_
     rw [List.length_map, List.length_range]
     show _ ≤ 5
     lia
theorem Pf (tb : List (Nat × Nat)) (k v m : Nat) : C3 (Jg tb k v) m = if m = k then v else C3 tb m := by
 unfold Jg
 by_cases hany : tb.any (fun p => p.1 == k) = true
 ·rw [if_pos hany]
  unfold C3
  induction tb with
  | nil => cases hany
  | cons p r ih =>
   rw [List.map_cons, List.find?_cons]
   by_cases hp : p.1 = k
   ·rw [if_pos hp]
    by_cases hm : m = k
    ·rw [if_pos hm, show (p.1 == m) = true from by simp [hp, hm]]; rfl
    ·rw [if_neg hm, show (p.1 == m) = false from by simp [hp]; lia, List.find?_cons, show (p.1 == m) = false from by simp [hp]; lia]
     simp only []
     by_cases hr : r.any (fun p => p.1 == k) = true
     ·have := ih hr
      rw [if_neg hm] at this; exact this
     ·have : r.map (fun p => if p.1 = k then (p.1, v) else p) = r := by
       conv => rhs; rw [← List.map_id r]
       refine List.map_congr_left fun q hq => ?_
       rw [if_neg (fun e => hr (List.any_eq_true.mpr ⟨q, hq, by simpa using e⟩))]; rfl
      rw [this]
   ·rw [if_neg hp]
    have hr : r.any (fun p => p.1 == k) = true := by
     rw [List.any_cons, show (p.1 == k) = false from by simpa using hp] at hany
     simpa using hany
    have := ih hr
    by_cases hpm : p.1 = m
    ·rw [show (p.1 == m) = true from by simpa using hpm, List.find?_cons, show (p.1 == m) = true from by simpa using hpm]
     rw [if_neg (by clear ih; lia)]
    ·rw [show (p.1 == m) = false from by simpa using hpm, List.find?_cons, show (p.1 == m) = false from by simpa using hpm]
     exact this
 ·rw [if_neg hany]
  unfold C3
  rw [List.find?_append]
  by_cases hm : m = k
  ·rw [if_pos hm, hm]
   have : tb.find? (fun p => p.1 == k) = none := by
    rw [List.find?_eq_none]
    intro p hp hq
    exact hany (List.any_eq_true.mpr ⟨p, hp, hq⟩)
   rw [this]; simp
  ·rw [if_neg hm]
   cases tb.find? (fun p => p.1 == m) with
   | some q => rfl
   | none => rw [Option.none_or, List.find?_cons, show ((k, v).1 == m) = false from by simp; lia]; rfl
noncomputable def CE (tb : List (Nat × Nat)) : List Nat := tb.map (·.1)
theorem Lm {tb : List (Nat × Nat)} (k v : Nat) (h : (CE tb).Nodup) : (CE (Jg tb k v)).Nodup := by
 unfold Jg CE at *
 by_cases hany : tb.any (fun p => p.1 == k) = true
 ·rw [if_pos hany, List.map_map]
  have : tb.map ((·.1) ∘ fun p => if p.1 = k then (p.1, v) else p) = tb.map (·.1) := List.map_congr_left fun p _ => by
   show (if p.1 = k then (p.1, v) else p).1 = p.1
   split <;> rfl
  rw [this]; exact h
 ·rw [if_neg hany, List.map_append]
  refine List.nodup_append.mpr ⟨h, by simp, ?_⟩
  intro a ha b hb q
  simp only [List.map_cons, List.map_nil, List.mem_singleton] at hb
  subst hb
  obtain ⟨p, hp, e⟩ := List.mem_map.mp ha
  exact hany (List.any_eq_true.mpr ⟨p, hp, by simp [e, q]⟩)
section
variable (pieces : List (List Nat)) (stars : List Bool)
noncomputable def nx (mask s : Nat) : Nat := Ge (Bh pieces stars (B3 stars.length mask) s)
theorem GK (tb : List (Nat × Nat)) (mask : Nat) : ∀ (sg : List Nat) (fr : List (Nat × Nat)), (CE fr).Nodup →
  (CE (AK pieces stars tb mask sg fr)).Nodup ∧ ∀ m, C3 (AK pieces stars tb mask sg fr) m = C3 fr m + C3 tb mask * (sg.map (nx pieces stars mask)).count m
 | [], fr, h => ⟨h, fun m => by simp [AK]⟩
 | s :: r, fr, h => by
  obtain ⟨h1, h2⟩ := GK tb mask r (Jg fr (nx pieces stars mask s) (C3 fr (nx pieces stars mask s) + C3 tb mask)) (Lm _ _ h)
  refine ⟨h1, fun m => ?_⟩
  have := h2 m
  rw [Pf] at this
  have e : C3 (AK pieces stars tb mask (s :: r) fr) m = C3 (AK pieces stars tb mask r (Jg fr (nx pieces stars mask s) (C3 fr (nx pieces stars mask s) + C3 tb mask))) m := rfl
  rw [e, this, List.map_cons, List.count_cons]
  by_cases q : m = nx pieces stars mask s
  ·subst q
   rw [if_pos rfl, if_pos (by simp), Nat.mul_add, Nat.mul_one]; clear h1 h2 this e; lia
  ·rw [if_neg q, if_neg (by simpa using fun e => q e.symm), Nat.add_zero]
theorem Kt (tb : List (Nat × Nat)) (sg : List Nat) : ∀ (ps fr : List (Nat × Nat)), (CE fr).Nodup →
  (CE (ps.foldl (fun fr p => AK pieces stars tb p.1 sg fr) fr)).Nodup ∧ ∀ m, C3 (ps.foldl (fun fr p => AK pieces stars tb p.1 sg fr) fr) m = C3 fr m + (ps.map fun p => C3 tb p.1 * (sg.map (nx pieces stars p.1)).count m).sum
 | [], fr, h => ⟨h, fun m => by simp⟩
 | p :: r, fr, h => by
  obtain ⟨a1, a2⟩ := GK pieces stars tb p.1 sg fr h
  obtain ⟨h1, h2⟩ := Kt tb sg r _ a1
  refine ⟨h1, fun m => ?_⟩
  rw [List.foldl_cons, h2 m, a2 m, List.map_cons, List.sum_cons, Nat.add_assoc]
theorem Eo (f : Nat → Nat) (keys : List Nat) (hk : keys.Nodup) : ∀ ms : List Nat, (∀ m ∈ ms, m ∈ keys) → (keys.map fun k => ms.count k * f k).sum = (ms.map f).sum
 | [], _ => by
  simp only [List.count_nil, Nat.zero_mul, List.map_nil, List.sum_nil]
  have z : ∀ ks : List Nat, (ks.map fun _ => 0).sum = 0 := by
   intro ks
   induction ks with
   | nil => rfl
   | cons a r ih => rw [List.map_cons, List.sum_cons, ih]
  exact z keys
 | x :: ms, h => by
  have ih := Eo f keys hk ms fun m hm => h m (List.mem_cons_of_mem _ hm)
  have hx := h x List.mem_cons_self
  rw [List.map_cons, List.sum_cons, ← ih]
  have e : ∀ ks : List Nat, (ks.map fun k => (x :: ms).count k * f k).sum = (ks.map fun k => if x = k then f k else 0).sum + (ks.map fun k => ms.count k * f k).sum := by
   intro ks
   induction ks with
   | nil => rfl
   | cons a r ih2 =>
    rw [List.map_cons, List.sum_cons, ih2, List.map_cons, List.sum_cons, List.map_cons, List.sum_cons, List.count_cons]
    by_cases q : x = a
    ·rw [if_pos q, if_pos (by simpa using q), Nat.add_mul, Nat.one_mul]; lia
    ·rw [if_neg q, if_neg (by simpa using q), Nat.add_zero]; lia
  rw [e]
  congr 1
  clear e ih h
  induction keys with
  | nil => cases hx
  | cons a r ih2 =>
   obtain ⟨h1, h2⟩ := List.nodup_cons.mp hk
   rw [List.map_cons, List.sum_cons]
   by_cases q : x = a
   ·subst q
    rw [if_pos rfl]
    have : (r.map fun k => if x = k then f k else 0).sum = 0 := by
     clear ih2 hx hk h2
     induction r with
     | nil => rfl
     | cons b t ih3 =>
      rw [List.map_cons, List.sum_cons, if_neg (fun e => h1 (by rw [e]; exact List.mem_cons_self)), ih3 (fun e => h1 (List.mem_cons_of_mem _ e))]
    rw [this]; rfl
   ·rw [if_neg q, Nat.zero_add]
    exact ih2 h2 ((List.mem_cons.mp hx).resolve_left q)
noncomputable def Gn (choices : List (List Nat)) : List (List Nat) := choices.foldl (fun ws sg => ws.flatMap fun w => sg.map fun s => w ++ [s]) [[]]
theorem GL (cs : List (List Nat)) (sg : List Nat) : Gn (cs ++ [sg]) = (Gn cs).flatMap fun w => sg.map fun s => w ++ [s] := by unfold Gn; rw [List.foldl_append]; rfl
noncomputable def Ln (w : List Nat) : Nat := w.foldl (nx pieces stars) 1
structure TB (tb : List (Nat × Nat)) (ms : List Nat) : Prop where
 nd : (CE tb).Nodup
 get : ∀ m, C3 tb m = ms.count m
theorem TB.mem {tb : List (Nat × Nat)} {ms : List Nat} (h : TB tb ms) : ∀ m ∈ ms, m ∈ CE tb := fun m hm => by
 have h1 := h.get m
 have h2 : 0 < ms.count m := List.count_pos_iff.mpr hm
 unfold C3 at h1
 cases hf : tb.find? fun p => p.1 == m with
 | none => rw [hf] at h1; simp at h1; lia
 | some p =>
  have h3 := List.find?_some hf
  have h4 := List.mem_of_find?_eq_some hf
  exact List.mem_map.mpr ⟨p, h4, by simpa using h3⟩
theorem row_tb {tb : List (Nat × Nat)} {ms : List Nat} (h : TB tb ms) (sg : List Nat) : TB (Cl pieces stars tb sg) (ms.flatMap fun m => sg.map (nx pieces stars m)) := by
 obtain ⟨h1, h2⟩ := Kt pieces stars tb sg tb [] List.nodup_nil
 refine ⟨h1, fun m => ?_⟩
 have h3 := h2 m
 have e0 : C3 [] m = 0 := rfl
 rw [e0, Nat.zero_add] at h3
 have e1 : (tb.map fun p => C3 tb p.1 * (sg.map (nx pieces stars p.1)).count m) = (CE tb).map fun k => ms.count k * (sg.map (nx pieces stars k)).count m := by
  unfold CE
  rw [List.map_map]
  exact List.map_congr_left fun p _ => by show _ = ms.count p.1 * _; rw [h.get]
 rw [e1, Eo (fun k => (sg.map (nx pieces stars k)).count m) _ h.nd ms h.mem] at h3
 show C3 (tb.foldl _ []) m = _
 rw [h3, List.count_flatMap]; rfl
theorem Pg (choices : List (List Nat)) : ∀ {tb : List (Nat × Nat)} {ws : List (List Nat)}, TB tb (ws.map (Ln pieces stars)) →
  TB (choices.foldl (Cl pieces stars) tb) ((choices.foldl (fun ws sg => ws.flatMap fun w => sg.map fun s => w ++ [s]) ws).map (Ln pieces stars)) := by
 induction choices with
 | nil => exact fun h => h
 | cons sg r ih =>
  intro tb ws h
  rw [List.foldl_cons, List.foldl_cons]
  refine ih ?_
  have := row_tb pieces stars h sg
  have e : (ws.map (Ln pieces stars)).flatMap (fun m => sg.map (nx pieces stars m)) = (ws.flatMap fun w => sg.map fun s => w ++ [s]).map (Ln pieces stars) := by
   rw [List.flatMap_map, List.map_flatMap]
   refine congrArg (fun f => List.flatMap f ws) (funext fun w => ?_)
   rw [List.map_map]
   refine List.map_congr_left fun s _ => ?_
   show nx pieces stars (Ln pieces stars w) s = Ln pieces stars (w ++ [s])
   unfold Ln
   rw [List.foldl_append]; rfl
  rw [← e]; exact this
theorem Lo (choices : List (List Nat)) : EC pieces stars choices = ((Gn choices).filter fun w => Ln pieces stars w / 2 ^ pieces.length == 1).length := by
 have h0 : TB [(1, 1)] (([[]] : List (List Nat)).map (Ln pieces stars)) := ⟨by simp [CE], fun m => by
  show C3 [(1, 1)] m = List.count m [1]
  unfold C3
  rw [List.find?_cons, List.count_cons]
  by_cases q : 1 = m
  ·subst q; rfl
  ·rw [show (((1, 1) : Nat × Nat).1 == m) = false from by simpa using q, if_neg (by simpa using q)]; rfl⟩
 have h := Pg pieces stars choices h0
 unfold EC
 have ht : TB (Bq pieces stars choices) ((Gn choices).map (Ln pieces stars)) := h
 generalize Bq pieces stars choices = tb at ht
 obtain ⟨ms, hms⟩ : ∃ ms, ms = (Gn choices).map (Ln pieces stars) := ⟨_, rfl⟩
 rw [← hms] at ht
 have e1 : ∀ l : List (Nat × Nat), ((l.filter fun p => p.1 / 2 ^ pieces.length == 1).map fun p => C3 tb p.1).sum = (l.map fun p => ms.count p.1 * if (p.1 / 2 ^ pieces.length == 1) = true then 1 else 0).sum := by
  intro l
  induction l with
  | nil => rfl
  | cons p r ih =>
   rw [List.filter_cons, List.map_cons, List.sum_cons]
   split
   ·rw [List.map_cons, List.sum_cons, ih, ht.get, Nat.mul_one]
   ·rw [ih, Nat.mul_zero, Nat.zero_add]
 rw [e1]
 have e2 : (tb.map fun p => ms.count p.1 * if (p.1 / 2 ^ pieces.length == 1) = true then 1 else 0) = (CE tb).map fun k => ms.count k * if (k / 2 ^ pieces.length == 1) = true then 1 else 0 := by
  unfold CE; rw [List.map_map]; rfl
 rw [e2, Eo (fun k => if (k / 2 ^ pieces.length == 1) = true then 1 else 0) _ ht.nd ms ht.mem]
 subst hms
 generalize Gn choices = ws
 induction ws with
 | nil => rfl
 | cons w r ih =>
  rw [List.map_cons, List.map_cons, List.sum_cons, List.filter_cons, ih]
  split
  ·rw [List.length_cons]; lia
  ·simp
end
theorem MM (b : Nat → Nat) (hb : ∀ k, b k ≤ 1) : ∀ N : Nat, ((List.range N).map fun k => b k * 2 ^ k).sum < 2 ^ N ∧ ∀ j, j < N → ((List.range N).map fun k => b k * 2 ^ k).sum / 2 ^ j % 2 = b j
 | 0 => ⟨by simp, fun j h => absurd h (Nat.not_lt_zero _)⟩
 | N + 1 => by
  obtain ⟨h1, h2⟩ := MM b hb N
  rw [List.range_succ, List.map_append, List.sum_append]
  generalize ((List.range N).map fun k => b k * 2 ^ k).sum = s at h1 h2
  simp only [List.map_cons, List.map_nil, List.sum_cons, List.sum_nil, Nat.add_zero]
  have hN := hb N
  have hpos : 0 < 2 ^ N := Nat.pow_pos (by decide)
  refine ⟨?_, fun j hj => ?_⟩
  ·rw [Nat.pow_succ]
   have : b N * 2 ^ N ≤ 1 * 2 ^ N := Nat.mul_le_mul_right _ hN
   lia
  ·rcases Nat.lt_or_eq_of_le (Nat.le_of_lt_succ hj) with h | h
   ·obtain ⟨d, hd⟩ : ∃ d, N = j + 1 + d := ⟨N - j - 1, by clear h1 hN hpos; omega⟩
    have e : b N * 2 ^ N = (b N * 2 ^ d * 2) * 2 ^ j := by rw [hd, Nat.pow_add, Nat.pow_succ]; simp only [Nat.mul_assoc, Nat.mul_comm, Nat.mul_left_comm]
    rw [e, Nat.add_mul_div_right _ _ (Nat.pow_pos (by decide)), Nat.add_mul_mod_self_right]
    exact h2 j h
   ·subst h
    rw [Nat.add_mul_div_right _ _ hpos, Nat.div_eq_of_lt h1, Nat.zero_add]
    lia
theorem EY {l : List Nat} (h : l.Nodup) (k : Nat) : l.count k ≤ 1 := List.nodup_iff_count.mp h k
theorem on_bits {went : List Nat} {N : Nat} (hn : went.Nodup) (hb : ∀ k ∈ went, k < N) : Ge went < 2 ^ N ∧ ∀ j, j < N → (Ge went / 2 ^ j % 2 = 1 ↔ j ∈ went) := by
 have h := Eo (fun k => 2 ^ k) (List.range N) List.nodup_range went fun k hk => List.mem_range.mpr (hb k hk)
 obtain ⟨h1, h2⟩ := MM (fun k => went.count k) (EY hn) N
 rw [h] at h1 h2
 refine ⟨h1, fun j hj => ?_⟩
 have h3 := h2 j hj
 unfold Ge
 rw [h3]
 have := EY hn j
 rw [← List.count_pos_iff]
 lia
theorem Ep {len mask k : Nat} : k ∈ B3 len mask ↔ k < len ∧ mask / 2 ^ k % 2 = 1 := by
 unfold B3
 rw [List.mem_filter, List.mem_range, beq_iff_eq]
noncomputable def Gf (pieces : List (List Nat)) (stars : List Bool) : Nat → Nat → List BA
 | 0, j => if stars[j]?.getD false = true then [none] else []
 | r + 1, j => (if stars[j]?.getD false = true then [none] else []) ++ some (pieces[j]?.getD []) :: Gf pieces stars r (j + 1)
theorem Ja (r : List BA) (s : Nat) (w : List Nat) : gm (none :: r) (s :: w) ↔ gm r (s :: w) ∨ gm (none :: r) w := by
 simp only [gm, List.length_cons]
 constructor
 ·rintro ⟨j, h1, h2⟩
  cases j with
  | zero => exact .inl h2
  | succ j => exact .inr ⟨j, by exact Nat.le_of_succ_le_succ h1, h2⟩
 ·rintro (h | ⟨j, h1, h2⟩)
  ·exact ⟨0, by simp, h⟩
  ·exact ⟨j + 1, by exact Nat.succ_le_succ (by assumption), h2⟩
theorem EZ (L : List Nat) (r : List BA) (s : Nat) (w : List Nat) : gm (some L :: r) (s :: w) ↔ s ∈ L ∧ gm r w := by
 simp only [gm]
 constructor
 ·rintro ⟨c, t, e, h1, h2⟩; cases e; exact ⟨h1, h2⟩
 ·rintro ⟨h1, h2⟩; exact ⟨s, w, rfl, h1, h2⟩
theorem G6 (L : List Nat) (r : List BA) : ¬ gm (some L :: r) [] := by
 simp only [gm]
 rintro ⟨c, t, e, _⟩; cases e
section
variable (pieces : List (List Nat)) (stars : List Bool)
theorem PK (r j : Nat) : gm (Gf pieces stars r j) [] ↔ r = 0 := by
 cases r with
 | zero =>
  unfold Gf
  split
  ·simp [gm]
  ·simp [gm]
 | succ r =>
  unfold Gf
  split
  ·simp only [List.cons_append, List.nil_append]
   refine ⟨fun h => ?_, fun h => by cases h⟩
   obtain ⟨i, h1, h2⟩ := h
   rw [List.drop_nil] at h2
   exact absurd h2 (G6 _ _)
  ·simp only [List.nil_append]
   exact ⟨fun h => absurd h (G6 _ _), fun h => by cases h⟩
theorem JM (r j s : Nat) (w : List Nat) : gm (Gf pieces stars r j) (s :: w) ↔ (∃ r', r = r' + 1 ∧ s ∈ pieces[j]?.getD [] ∧ gm (Gf pieces stars r' (j + 1)) w) ∨ (stars[j]?.getD false = true ∧ gm (Gf pieces stars r j) w) := by
 cases r with
 | zero =>
  unfold Gf
  by_cases h : stars[j]?.getD false = true
  ·rw [if_pos h]
   refine ⟨fun _ => .inr ⟨h, w.length, Nat.le_refl _, by rw [List.drop_length]; rfl⟩, fun _ => ⟨(s :: w).length, Nat.le_refl _, by rw [List.drop_length]; rfl⟩⟩
  ·rw [if_neg h]
   constructor
   ·intro q; cases q
   ·rintro (⟨r', e, _⟩ | ⟨q, _⟩)
    ·cases e
    ·exact absurd q h
 | succ r =>
  by_cases h : stars[j]?.getD false = true
  ·have e : Gf pieces stars (r + 1) j = none :: some (pieces[j]?.getD []) :: Gf pieces stars r (j + 1) := by rw [Gf, if_pos h]; rfl
   rw [e, Ja, EZ]
   constructor
   ·rintro (⟨h1, h2⟩ | h1)
    ·exact .inl ⟨r, rfl, h1, h2⟩
    ·exact .inr ⟨h, h1⟩
   ·rintro (⟨r', e, h1, h2⟩ | ⟨_, h1⟩)
    ·cases e; exact .inl ⟨h1, h2⟩
    ·exact .inr h1
  ·have e : Gf pieces stars (r + 1) j = some (pieces[j]?.getD []) :: Gf pieces stars r (j + 1) := by rw [Gf, if_neg h]; rfl
   rw [e, EZ]
   constructor
   ·rintro ⟨h1, h2⟩; exact .inl ⟨r, rfl, h1, h2⟩
   ·rintro (⟨r', e, h1, h2⟩ | ⟨q, _⟩)
    ·cases e; exact ⟨h1, h2⟩
    ·exact absurd q h
theorem JN (k s : Nat) : Bc pieces k s = true ↔ k < pieces.length ∧ s ∈ pieces[k]?.getD [] := by
 unfold Bc
 rcases Nat.lt_or_ge k pieces.length with h | h
 ·rw [List.getElem?_eq_getElem h]
  simp [h, List.contains_iff_mem]
 ·rw [List.getElem?_eq_none h]
  simp
theorem Fr (here : List Nat) (s j : Nat) : j ∈ Bh pieces stars here s ↔ (∃ k, k ∈ here ∧ Bc pieces k s = true ∧ j = k + 1) ∨ (j ∈ here ∧ stars[j]?.getD false = true) := by
 unfold Bh
 have h1 : ∀ j, j ∈ (here.filter fun k => Bc pieces k s).map (· + 1) ↔ ∃ k, k ∈ here ∧ Bc pieces k s = true ∧ j = k + 1 := fun j => by
  rw [List.mem_map]
  constructor
  ·rintro ⟨k, hk, e⟩; obtain ⟨a, b⟩ := List.mem_filter.mp hk; exact ⟨k, a, b, e.symm⟩
  ·rintro ⟨k, a, b, e⟩; exact ⟨k, List.mem_filter.mpr ⟨a, b⟩, e.symm⟩
 rw [List.mem_append, h1, List.mem_filter]
 constructor
 ·rintro (h | ⟨h2, h3⟩)
  ·exact .inl h
  ·exact .inr ⟨h2, (Bool.and_eq_true _ _ ▸ h3).1⟩
 ·rintro (h | ⟨h2, h3⟩)
  ·exact .inl h
  ·by_cases q : j ∈ (here.filter fun k => Bc pieces k s).map (· + 1)
   ·exact .inl ((h1 j).mp q)
   ·refine .inr ⟨h2, ?_⟩
    rw [h3, Bool.true_and, Bool.not_eq_true', Bool.eq_false_iff]
    intro z
    exact q (List.contains_iff_mem.mp z)
theorem Lp {here : List Nat} (hh : here.Nodup) (s : Nat) : (Bh pieces stars here s).Nodup := by
 unfold Bh
 refine List.nodup_append.mpr ⟨?_, hh.filter _, ?_⟩
 ·have : (here.filter fun k => Bc pieces k s).Nodup := hh.filter _
  unfold List.Nodup at this ⊢
  rw [List.pairwise_map]
  exact this.imp fun h q => h (by lia)
 ·intro a ha b hb q
  subst q
  have := (List.mem_filter.mp hb).2
  rw [Bool.and_eq_true, Bool.not_eq_true'] at this
  have h2 := List.contains_iff_mem.mpr ha
  rw [this.2] at h2; cases h2
theorem Lq (len mask : Nat) : (B3 len mask).Nodup := List.nodup_range.filter _
variable (hlen : stars.length = pieces.length + 1)
include hlen
theorem nx_bits (mask s : Nat) : nx pieces stars mask s < 2 ^ stars.length ∧ ∀ j, j ∈ B3 stars.length (nx pieces stars mask s) ↔ j ∈ Bh pieces stars (B3 stars.length mask) s := by
 have hb : ∀ k ∈ Bh pieces stars (B3 stars.length mask) s, k < stars.length := fun k hk => by
  rcases (Fr pieces stars _ s k).mp hk with ⟨i, _, h2, e⟩ | ⟨h, _⟩
  ·have := ((JN pieces i s).mp h2).1
   lia
  ·exact HH h
 obtain ⟨h1, h2⟩ := on_bits (Lp pieces stars (Lq stars.length mask) s) hb
 refine ⟨h1, fun j => ?_⟩
 rw [Ep]
 constructor
 ·rintro ⟨a, b⟩; exact (h2 j a).mp b
 ·intro h; exact ⟨hb j h, (h2 j (hb j h)).mpr h⟩
theorem PL : ∀ (w : List Nat) (mask : Nat), mask < 2 ^ stars.length → ((w.foldl (nx pieces stars) mask / 2 ^ pieces.length == 1) = true ↔ ∃ j, j ∈ B3 stars.length mask ∧ gm (Gf pieces stars (pieces.length - j) j) w)
 | [], mask, hm => by
  rw [List.foldl_nil, beq_iff_eq]
  rw [hlen, Nat.pow_succ, Nat.mul_comm] at hm
  have h2 : mask / 2 ^ pieces.length < 2 := Nat.div_lt_of_lt_mul (by rw [Nat.mul_comm]; exact hm)
  constructor
  ·intro h
   exact ⟨pieces.length, Ep.mpr ⟨by exact Nat.le_of_eq hlen.symm, by lia⟩, (PK pieces stars _ _).mpr (by simp)⟩
  ·rintro ⟨j, h3, h4⟩
   have h5 := (PK pieces stars _ _).mp h4
   have h6 := Ep.mp h3
   have : j = pieces.length := by lia
   subst this
   have h7 := h6.2
   generalize mask / 2 ^ pieces.length = y at h2 h7
   lia
 | s :: w, mask, hm => by
  obtain ⟨h1, h2⟩ := nx_bits pieces stars hlen mask s
  rw [List.foldl_cons, PL w _ h1]
  constructor
  ·rintro ⟨j, h3, h4⟩
   rcases (Fr pieces stars _ s j).mp ((h2 j).mp h3) with ⟨k, h5, h6, rfl⟩ | ⟨h5, h6⟩
   ·obtain ⟨h7, h8⟩ := (JN pieces k s).mp h6
    exact ⟨k, h5, (JM pieces stars _ _ _ _).mpr (.inl ⟨pieces.length - (k + 1), by lia, h8, h4⟩)⟩
   ·exact ⟨j, h5, (JM pieces stars _ _ _ _).mpr (.inr ⟨h6, h4⟩)⟩
  ·rintro ⟨j, h3, h4⟩
   rcases (JM pieces stars _ _ _ _).mp h4 with ⟨r', h5, h6, h7⟩ | ⟨h5, h6⟩
   ·refine ⟨j + 1, (h2 _).mpr ((Fr pieces stars _ s _).mpr (.inl ⟨j, h3, (JN pieces j s).mpr ⟨by clear hlen hm h1; omega, h6⟩, rfl⟩)), ?_⟩
    rw [show pieces.length - (j + 1) = r' from by clear hm h1; omega]; exact h7
   ·exact ⟨j, (h2 _).mpr ((Fr pieces stars _ s _).mpr (.inr ⟨h3, h5⟩)), h6⟩
theorem run_ok (w : List Nat) : (Ln pieces stars w / 2 ^ pieces.length == 1) = true ↔ gm (Gf pieces stars pieces.length 0) w := by
 unfold Ln
 rw [PL pieces stars hlen w 1 (by rw [hlen, Nat.pow_succ]; have : 0 < 2 ^ pieces.length := Nat.pow_pos (by decide); lia)]
 constructor
 ·rintro ⟨j, h1, h2⟩
  have h3 := (Ep.mp h1).2
  have : j = 0 := by
   cases j with
   | zero => rfl
   | succ j =>
    rw [Nat.div_eq_of_lt (by rw [Nat.pow_succ]; have : 0 < 2 ^ j := Nat.pow_pos (by decide); lia)] at h3
    cases h3
  subst this
  exact h2
 ·intro h
  exact ⟨0, Ep.mpr ⟨by exact Nat.lt_of_le_of_lt (Nat.zero_le _) (Nat.le_of_eq hlen.symm), by decide⟩, h⟩
end
theorem G7 {α β : Type} (f : α → List β) (p : β → Bool) (q : α → Bool) : ∀ l : List α, (∀ w ∈ l, (f w).filter p = if q w = true then f w else []) → (l.flatMap f).filter p = (l.filter q).flatMap f
 | [], _ => rfl
 | a :: r, h => by
  rw [List.flatMap_cons, List.filter_append, G7 f p q r fun w hw => h w (List.mem_cons_of_mem _ hw), h a List.mem_cons_self, List.filter_cons]
  split
  ·rw [List.flatMap_cons]
  ·rfl
theorem JO {w : List Nat} {k : Nat} (h : k < w.length) (c : Nat) : at1 (w ++ [c]) k = at1 w k := by unfold at1; rw [List.getElem?_append_left h]
theorem Ph (w : List Nat) (c : Nat) : at1 (w ++ [c]) w.length = [c] := by unfold at1; rw [List.getElem?_append_right (Nat.le_refl _), Nat.sub_self]; rfl
theorem Ku : ∀ n : Nat, Gn ((List.range n).map fun _ => AV) = AR n
 | 0 => rfl
 | n + 1 => by rw [List.range_succ, List.map_append, List.map_cons, List.map_nil, GL, Ku n]; rfl
theorem GM : ∀ (n pin s : Nat), pin < n → s ∈ AV → (AR n).filter (fun w => El w pin s) = Gn ((List.range n).map fun k => if k = pin then [s] else AV)
 | 0, pin, s, h, _ => absurd h (Nat.not_lt_zero _)
 | n + 1, pin, s, h, hs => by
  rw [List.range_succ, List.map_append, List.map_cons, List.map_nil, GL]
  show ((AR n).flatMap fun w => AV.map fun s => w ++ [s]).filter _ = _
  rcases Nat.lt_or_eq_of_le (Nat.le_of_lt_succ h) with h1 | h1
  ·rw [if_neg (by exact Nat.ne_of_gt (by assumption)), ← GM n pin s h1 hs]
   refine G7 _ _ _ _ fun w hw => ?_
   have hl := BI n w hw
   have : ∀ c, El (w ++ [c]) pin s = El w pin s := fun c => by unfold El; rw [JO (by clear h; exact Nat.lt_of_lt_of_le h1 (Nat.le_of_eq hl.symm))]
   rw [List.filter_map]
   have e : AV.filter ((fun w => El w pin s) ∘ fun s => w ++ [s]) = if El w pin s = true then AV else [] := by
    have : AV.filter ((fun w => El w pin s) ∘ fun s => w ++ [s]) = AV.filter fun _ => El w pin s := List.filter_congr fun c _ => this c
    rw [this]
    cases El w pin s <;> simp
   rw [e]
   cases El w pin s <;> simp
  ·subst h1
   have e0 : ((List.range pin).map fun k => if k = pin then [s] else AV) = (List.range pin).map fun _ => AV := List.map_congr_left fun k hk => by
    rw [if_neg (by have := List.mem_range.mp hk; exact Nat.ne_of_lt this)]
   rw [if_pos rfl, e0, Ku, List.filter_flatMap]
   have e1 : ∀ w ∈ AR pin, (AV.map fun s => w ++ [s]).filter (fun w => El w pin s) = [w ++ [s]] := fun w hw => by
    have hl := BI pin w hw
    have hh : ∀ c, El (w ++ [c]) pin s = decide (c = s) := fun c => by
     unfold El
     rw [← hl, Ph, Bool.eq_iff_iff]; simp
    rw [List.filter_map]
    have : AV.filter ((fun w => El w pin s) ∘ fun s => w ++ [s]) = [s] := by
     have : AV.filter ((fun w => El w pin s) ∘ fun s => w ++ [s]) = AV.filter fun c => decide (c = s) := List.filter_congr fun c _ => hh c
     rw [this]
     unfold AV at hs
     simp only [List.mem_cons, List.not_mem_nil, or_false] at hs
     rcases hs with rfl | rfl | rfl | rfl <;> decide
    rw [this]; rfl
   have e2 : ∀ l : List (List Nat), (∀ w ∈ l, w ∈ AR pin) → l.flatMap (fun w => ((AV.map fun s => w ++ [s]).filter (fun w => El w pin s))) = l.flatMap fun w => [s].map fun s => w ++ [s] := by
    intro l
    induction l with
    | nil => exact fun _ => rfl
    | cons a r ih =>
     intro hl
     rw [List.flatMap_cons, List.flatMap_cons, ih fun w hw => hl w (List.mem_cons_of_mem _ hw), e1 a (hl a List.mem_cons_self)]; rfl
   exact e2 _ fun _ h => h
theorem Lr (n pin s : Nat) (hp : pin < max n 1) (hs : s ∈ AV) : (AR n).filter (fun w => El w pin s) = Gn ((List.range n).map fun k => if k = pin then [s] else AV) := by
 cases n with
 | zero =>
  have : pin = 0 := by lia
  subst this; rfl
 | succ n => exact GM (n + 1) pin s (by lia) hs
noncomputable def MN : Tk → BA
 | .star => none
 | .quest => some [91, 94, 45, 93]
 | .br r => some (Cu (Bx r))
theorem Lu (m : Nat) (acc : List BA) (h : acc.getLast? = some none) : (List.replicate m Tk.star).foldl Fi acc = acc := by
 induction m with
 | zero => rfl
 | succ m ih =>
  rw [List.replicate_succ, List.foldl_cons]
  rw [show Fi acc .star = acc from by show (if acc.getLast? = some none then acc else _) = acc; rw [if_pos h]]
  exact ih
theorem Jb (acc : List BA) (one : List Nat) : Fi acc (DH one) = acc ++ [MN (DH one)] ∧ ∃ y, MN (DH one) = some y := by
 unfold DH
 split
 ·exact ⟨rfl, _, rfl⟩
 ·split
  ·exact ⟨rfl, _, rfl⟩
  ·exact ⟨rfl, _, rfl⟩
noncomputable def pk (ins : List (List Nat)) (stars : List Bool) (k : Nat) : List BA := (if stars[k]?.getD false = true then [none] else []) ++ (match ins[k]? with | some one => [MN (DH one)] | none => [])
theorem Jc (ins : List (List Nat)) (stars : List Bool) (k : Nat) {acc : List BA} (h : acc.getLast? ≠ some none) : (Gm ins stars k).foldl Fi acc = acc ++ pk ins stars k := by
 unfold Gm pk
 rw [List.foldl_append]
 have h1 : (if stars[k]?.getD false = true then List.replicate (1 + k % 3) Tk.star else []).foldl Fi acc = acc ++ if stars[k]?.getD false = true then [none] else [] := by
  split
  ·rw [Nat.add_comm, List.replicate_succ, List.foldl_cons]
   rw [show Fi acc .star = acc ++ [none] from by show (if acc.getLast? = some none then acc else _) = _; rw [if_neg h]]
   exact Lu _ _ (by simp)
  ·simp
 rw [h1]
 cases ins[k]? with
 | none => simp
 | some one =>
  show Fi _ (DH one) = _
  rw [(Jb _ one).1, List.append_assoc]
theorem Kv (ins : List (List Nat)) (stars : List Bool) : ∀ (r j : Nat) (acc : List BA), acc.getLast? ≠ some none → j + r = ins.length →
  (((List.range' j (r + 1)).map (Gm ins stars)).flatten).foldl Fi acc = acc ++ ((List.range' j (r + 1)).map (pk ins stars)).flatten
 | 0, j, acc, h, _ => by
  rw [show List.range' j (0 + 1) = [j] from rfl]
  simp only [List.map_cons, List.map_nil, List.flatten_cons, List.flatten_nil, List.append_nil]
  exact Jc ins stars j h
 | r + 1, j, acc, h, hj => by
  rw [List.range'_succ, List.map_cons, List.map_cons, List.flatten_cons, List.flatten_cons, List.foldl_append, Jc ins stars j h]
  have hlt : j < ins.length := by lia
  have h2 : (acc ++ pk ins stars j).getLast? ≠ some none := by
   unfold pk
   rw [List.getElem?_eq_getElem hlt]
   obtain ⟨y, hy⟩ := (Jb [] ins[j]).2
   show (acc ++ ((if stars[j]?.getD false = true then [none] else []) ++ [MN (DH ins[j])])).getLast? ≠ some none
   rw [hy, ← List.append_assoc]
   simp
  rw [Kv ins stars r (j + 1) _ h2 (by lia), List.append_assoc]
theorem Pi {one : List Nat} (h : ∀ ch ∈ one, Sg ch) : G1 (MN (DH one)) (some (CW one)) := by
 unfold DH CW
 split
 ·exact MI
 ·split
  ·rename_i _ h33
   subst h33
   have := PJ (r := [33, 98, 45, 97]) (by simp) (by unfold Sg; decide)
   rw [show BM [33] = BM [33, 98, 45, 97] from by decide +kernel]
   exact this
  ·exact PJ ‹_› h
theorem GN {ins : List (List Nat)} (stars : List Bool) (h : ∀ one ∈ ins, ∀ ch ∈ one, Sg ch) : ∀ (r j : Nat), j + r = ins.length → AA G1 ((List.range' j (r + 1)).map (pk ins stars)).flatten (Gf (ins.map CW) stars r j)
 | 0, j, hj => by
  rw [show List.range' j (0 + 1) = [j] from rfl]
  simp only [List.map_cons, List.map_nil, List.flatten_cons, List.flatten_nil, List.append_nil]
  unfold pk Gf
  rw [List.getElem?_eq_none (l := ins) (i := j) (by lia)]
  simp only [List.append_nil]
  split
  ·exact .cons (.inl ⟨rfl, rfl⟩) .nil
  ·exact .nil
 | r + 1, j, hj => by
  have hlt : j < ins.length := by lia
  have ih := GN stars h r (j + 1) (by lia)
  rw [List.range'_succ, List.map_cons, List.flatten_cons]
  unfold pk Gf
  rw [List.getElem?_eq_getElem hlt, List.getElem?_map, List.getElem?_eq_getElem hlt, List.append_assoc]
  refine AA.append ?_ (.cons (Pi (h _ (List.getElem_mem hlt))) ih)
  split
  ·exact .cons (.inl ⟨rfl, rfl⟩) .nil
  ·exact .nil
theorem Lv {ins : List (List Nat)} {stars : List Bool} (hlen : stars.length = ins.length + 1) (h : ∀ one ∈ ins, ∀ ch ∈ one, Sg ch) : AA G1 (As (Cq ins stars)) (Gf (ins.map CW) stars ins.length 0) := by
 have e := Kv ins stars ins.length 0 [] (by simp) (Nat.zero_add _)
 unfold As Cq
 rw [hlen, List.range_eq_range', e, List.nil_append]
 exact GN stars h ins.length 0 (Nat.zero_add _)
theorem MO {ins : List (List Nat)} {stars : List Bool} (hlen : stars.length = ins.length + 1) (h : ∀ one ∈ ins, ∀ ch ∈ one, Sg ch) :
  ∃ st, C6 (cut (EF (As (Cq ins stars))) (some 4) (some (-3))) = some st ∧ Ki ins stars st := by
 have hg := Lv hlen h
 refine ⟨_, by rw [MJ]; exact J6 hg, ?_, ?_⟩
 ·intro n hn w hw k
  exact EP (by rw [BI n w hw]; lia) _ false [0] k (Pe _) (Nat.le_refl _)
 ·intro n hn pin hp s hs
  rw [Lo, ← Lr n pin s hp hs, List.filter_filter, List.filter_filter]
  congr 1
  refine List.filter_congr fun w hw => ?_
  rw [Bool.and_comm]
  congr 1
  rw [Bool.eq_iff_iff]
  have hl : stars.length = (ins.map CW).length + 1 := by rw [List.length_map]; exact hlen
  rw [run_ok (ins.map CW) stars hl w, List.contains_iff_mem, ← Pd, BI n w hw, List.length_map]
theorem MP : (Al 15).names = [((ofString "script"), .local), ((ofString "lead"), .local), ((ofString "insides"), .local), ((ofString "stars"), .cell), ((ofString "x"), .local), ((ofString "sign"), .cell), ((ofString "pieces"), .cell), ((ofString "pattern"), .local), ((ofString "star"), .local), ((ofString "text"), .local), ((ofString "steps"), .cell), ((ofString "names"), .local), ((ofString "means"), .local), ((ofString "n"), .cell), ((ofString "taken"), .local), ((ofString "pin"), .cell), ((ofString "due"), .local), ((ofString "len"), .globalImplicit), ((ofString "range"), .globalImplicit), ((ofString "object"), .globalImplicit), ((ofString "_join_translated_parts"), .globalImplicit), ((ofString "_translate"), .globalImplicit), ((ofString "_law_steps"), .globalImplicit), ((ofString "max"), .globalImplicit), ((ofString "_law_many"), .globalImplicit)] := by rfl
noncomputable def Er (k : Nat) : Stmt := ((Av 15)[k]?).getD (.Pass ⟨0, 0, 0, 0⟩)
noncomputable def forElse : List Stmt := match Er 3 with | .For _ _ body _ _ => (match body with | [.If _ _ els _] => els | _ => []) | _ => []
noncomputable abbrev Ints (zs : List Int) (vs : List Value) : Prop := AA (fun i v => ∃ t, v = Value.int i t) zs vs
theorem AA.take {α β : Type} {R : α → β → Prop} {as : List α} {bs : List β} (h : AA R as bs) : ∀ k : Nat, AA R (as.take k) (bs.take k) := by
 induction h with
 | nil => intro k; simp only [List.take_nil]; exact .nil
 | cons h1 t ih =>
  intro k
  cases k with
  | zero => exact .nil
  | succ k => exact .cons h1 (ih k)
theorem AA.drop {α β : Type} {R : α → β → Prop} {as : List α} {bs : List β} (h : AA R as bs) : ∀ k : Nat, AA R (as.drop k) (bs.drop k) := by
 induction h with
 | nil => intro k; simp only [List.drop_nil]; exact .nil
 | cons h1 t ih =>
  intro k
  cases k with
  | zero => exact .cons h1 t
  | succ k => exact ih k
noncomputable def isI (k : Nat) : Value → Bool
 | .int i _ => i == (k : Int)
 | _ => false
theorem any09 (t u : Tok) (k : Nat) : [Value.int 0 t, Value.int 9 u].any (isI k) = decide (k = 0 ∨ k = 9) := by
 show ((0 : Int) == (k : Int) || ((9 : Int) == (k : Int) || false)) = _
 rw [Bool.eq_iff_iff]
 simp only [Bool.or_eq_true, beq_iff_eq, decide_eq_true_eq, Bool.or_false]
 lia
theorem Lw (b : Bool) {xs : List Int} {i : Nat} {z : Int} (h : xs[i]? = some z) : FV b (xs.take (i + 1)) = Gl (FV b (xs.take i)) z := by
 unfold FV
 rw [List.take_add_one, h, List.foldl_append]; rfl
section
variable {c : Cx} {L : Addr} {n : Nat} {σ : St} {e : Env} {l l' : Loc} {m m' f q : Led}
theorem Jd {α : Type} {t : Sem α} {Q : α → St → Prop} (h : V c L n t (fun v σ' => ∃ a o l', Rem σ'.mu a o l' ∧ Q v ⟨σ'.loc, l', (a, o) :: σ'.fz, σ'.od⟩) σ) : V c L n t Q σ :=
 fun A B s hr hb ho hg => wpAny_mono (h A B s hr hb ho hg) (fun v s' q => by obtain ⟨h1, h2, σ', h3, a, o, l', h4, h5⟩ := q; exact ⟨h1, h2, _, h3.freeze h4, h5⟩) fun _ _ x => x
theorem JP {value slice : Expr} {a : Addr} {vs : List Value} {xs : List (List Nat)} {k : Nat} {u : Tok} {y : List Nat} {Q : Value → St → Prop} (ha : Has σ a (.list vs)) (ht : Bk xs vs) (hx : xs[k]? = some y) (hk : k < 2 ^ 62)
  (h : ∀ t, Q (.str (S y) t) σ) : V c L n (subscriptTail value slice (.ref a) (.int (k : Nat) u)) Q σ := by
 obtain ⟨v, hv, t, rfl⟩ := ht.get' hx
 exact Ac ha hv hk (h t)
theorem JQ {z : Int} {t u : Tok} {Q : Value → St → Prop} (h : ∀ k, Q (.int ((Dj z : Nat) : Int) k) σ) : V c L n (binaryOp .Mod (.int z t) (.int 10 u)) Q σ :=
 Dl (by decide) fun k => by rw [← L5]; exact h k
theorem V_in09 {a : Addr} {k : Nat} {t u w : Tok} {Q : Value → St → Prop} (ha : Has σ a (.tup [.int 0 t, .int 9 u])) (h : Q (.bool (decide (k = 0 ∨ k = 9))) σ) : V c L n (compareOp .In (.int (k : Nat) w) (.ref a)) Q σ := by
 refine Ff (isI k) ha (fun y hy => ?_) (by rw [any09]; exact h)
 rcases List.mem_cons.mp hy with rfl | hy
 ·exact EqV.ints
 ·rw [List.mem_singleton.mp hy]; exact EqV.ints
theorem Kw (hc : c.Ok) (he : Ag e L [((ofString "script"), .local), ((ofString "lead"), .local), ((ofString "insides"), .local), ((ofString "stars"), .cell), ((ofString "x"), .local), ((ofString "sign"), .cell), ((ofString "pieces"), .cell), ((ofString "pattern"), .local), ((ofString "star"), .local), ((ofString "text"), .local), ((ofString "steps"), .cell), ((ofString "names"), .local), ((ofString "means"), .local), ((ofString "n"), .cell), ((ofString "taken"), .local), ((ofString "pin"), .cell), ((ofString "due"), .local), ((ofString "len"), .globalImplicit), ((ofString "range"), .globalImplicit), ((ofString "object"), .globalImplicit), ((ofString "_join_translated_parts"), .globalImplicit), ((ofString "_translate"), .globalImplicit), ((ofString "_law_steps"), .globalImplicit), ((ofString "max"), .globalImplicit), ((ofString "_law_many"), .globalImplicit)] [((ofString "pin"), L + 1 + 1 + 1 + 1 + 1 + 1), ((ofString "n"), L + 1 + 1 + 1 + 1 + 1), ((ofString "steps"), L + 1 + 1 + 1 + 1), ((ofString "pieces"), L + 1 + 1 + 1), ((ofString "sign"), L + 1 + 1), ((ofString "stars"), L + 1)]) {p : List (List Nat) × List Bool} {z : Int} {iv tv : List Value} {k : Nat} (hk : k ≤ 64) (hok : L7 k p) (hiv : Bk p.1 iv) (htv : AA (fun b v => v = Value.bool b) p.2 tv)
  (hno : ¬ ((Dj z = 0 ∨ Dj z = 9) ∧ p.1.length < 4)) {body : List Stmt} (hbody : body = forElse) {x1 : Tok} {sa ta ia : Addr} {w2 w5 w6 w7 w8 w9 wa wb c1 c2 c3 c4 c5 : Option Value} {f fs : Led} {Q : Flow → St → Prop} (hQ : ∀ (w4 c5 : Option Value) (iv tv : List Value) (f : Led), Bk (Gl p z).1 iv → AA (fun b v => v = Value.bool b) (Gl p z).2 tv → Q .next ⟨[((ofString "script"), some (.ref sa)), ((ofString "lead"), w2), ((ofString "insides"), some (.ref ia)), ((ofString "x"), w4), ((ofString "pattern"), w5), ((ofString "star"), w6), ((ofString "text"), w7), ((ofString "names"), w8), ((ofString "means"), w9), ((ofString "taken"), wa), ((ofString "due"), wb)], [(ta, .list tv), (ia, .list iv), (L + 1 + 1 + 1 + 1 + 1 + 1, .cell (c1)), (L + 1 + 1 + 1 + 1 + 1, .cell (c2)), (L + 1 + 1 + 1 + 1, .cell (c3)), (L + 1 + 1 + 1, .cell (c4)), (L + 1 + 1, .cell (c5)), (L + 1, .cell (some (.ref ta)))], f, fs⟩) :
  V c L 3 (execs body e) Q ⟨[((ofString "script"), some (.ref sa)), ((ofString "lead"), w2), ((ofString "insides"), some (.ref ia)), ((ofString "x"), some (.int z x1)), ((ofString "pattern"), w5), ((ofString "star"), w6), ((ofString "text"), w7), ((ofString "names"), w8), ((ofString "means"), w9), ((ofString "taken"), wa), ((ofString "due"), wb)],
   [(ta, .list tv), (ia, .list iv), (L + 1 + 1 + 1 + 1 + 1 + 1, .cell (c1)), (L + 1 + 1 + 1 + 1 + 1, .cell (c2)), (L + 1 + 1 + 1 + 1, .cell (c3)), (L + 1 + 1 + 1, .cell (c4)), (L + 1 + 1, .cell (c5)), (L + 1, .cell (some (.ref ta)))], f, fs⟩ := by
 subst hbody
 refine Ae (fun G_ hG_ => ?_)
 obtain ⟨ok1, ok2, ok3, ok4, ok5⟩ := hok
 refine hG_ ?_
 clear hG_ G_
 have hivl := hiv.length
 obtain ⟨y, hy⟩ := GG z
 refine AB ?_
 with_reducible
  refine A3 ?_
  refine BY ?_
  refine Bo ?_
  refine A0 ?_
  refine AP D3 ?_; intro _
  refine A0 ?_
  refine AP PU ?_; intro _
  refine A0 ?_
  refine AP PV ?_; intro _
  refine A0 ?_
  refine AP KA ?_; intro _
  refine A0 ?_
  refine AP LL ?_; intro _
  refine A0 ?_
  refine AP Ni ?_; intro _
  refine A0 ?_
  refine AP lit30 ?_; intro _
  refine Q5 Qe KA D3 ?_; intro _ _ _
  refine Ao (by with_unfolding_all exact Nat.le_of_ble_eq_true rfl) ?_; intro _
  refine Az ?_
  refine AJ (by assumption) (by tb_rel) (by tb_rel) ?_
  refine AC ?_; intro _
 refine JQ (fun _ => ?_)
 refine JP (by top_args) (by repeat (first | exact .nil | refine .cons ⟨_, rfl⟩ ?_)) hy (by have := Kg z; exact Nat.lt_trans (by assumption) (by decide)) (fun ty => ?_)
 refine Am _ Rem.head ?_
 refine Aj he (by tb_rel) (by tb_rel) (by top_caught) ?_
 refine AB ?_
 refine Hm ?_
 refine AJ he (by tb_rel) (by tb_rel) ?_
 refine Pt ?_
 refine AC (fun kk0 => ?_)
 refine Hw (fun kk => ?_)
 have hivne : iv ≠ [] := fun q => by have := congrArg List.length q; simp only [List.length_nil] at this; lia
 have hpne : p.1 ≠ [] := fun q => by rw [q] at ok2; cases ok2
 refine Ae (fun G_ hG_ => ?_)
 obtain ⟨lst, lv, hlst, hlv, tl, rfl⟩ := hiv.last hivne
 refine hG_ ?_
 clear hG_ G_
 have hlvi : iv[iv.length - 1]? = some (.str (S lst) tl) := hlv
 have hll : lst.length ≤ 300 := by
  have := PH ok4 lst (List.mem_of_getLast? hlst)
  lia
 have hyl : y.length ≤ 3 := (J2 y (List.mem_of_getElem? hy)).1
 refine Ec (by top_args) (by decide) (by lia) (by decide) (show iv[(-1 + (iv.length : Int)).toNat]? = some _ from by rw [show (-1 + (iv.length : Int)).toNat = iv.length - 1 from by clear hno; lia]; exact hlvi) ?_
 refine gen (fun v σ₄ => V c L 3 (inplaceOp .Add (.str (S lst) tl) v) (fun r σ₅ => V c L 3 (setItem (.ref ia) (.int (-1) kk) r) (fun _ σ'' => V c L 3 (execs [] e) Q σ'') σ₅) σ₄ : Value → St → Prop) (fun W hW => ?_)
 have fin : ∀ (ss : List Nat) tk (f : Led), Dw lst y = ss → W (.str (S ss) tk) ⟨[((ofString "script"), some (.ref sa)), ((ofString "lead"), w2), ((ofString "insides"), some (.ref ia)), ((ofString "x"), some (.int z x1)), ((ofString "pattern"), w5), ((ofString "star"), w6), ((ofString "text"), w7), ((ofString "names"), w8), ((ofString "means"), w9), ((ofString "taken"), wa), ((ofString "due"), wb)],
 [(ta, .list tv), (ia, .list iv), (L + 1 + 1 + 1 + 1 + 1 + 1, .cell (c1)), (L + 1 + 1 + 1 + 1 + 1, .cell (c2)), (L + 1 + 1 + 1 + 1, .cell (c3)), (L + 1 + 1 + 1, .cell (c4)), (L + 1 + 1, .cell (some (.str (S y) ty))), (L + 1, .cell (some (.ref ta)))], f, fs⟩ := by
  intro ss tk f hss
  subst hss
  rw [hW]
  have hsl : (Dw lst y).length ≤ 3 := by
   unfold Dw
   split
   ·simp
   ·omega
  refine Ez (by rw [sizeLine_eq]; lia) (fun t8 => ?_)
  refine DQ (by top_caught) hivne (by exact Nat.le_of_lt (Nat.lt_of_le_of_lt (Nat.le_trans (Nat.le_of_eq hivl.symm) ok3) (by decide))) ?_
  refine Au ?_
  have e1 : Gl p z = (p.1.dropLast ++ [lst ++ Dw lst y], p.2) := by
   unfold Gl
   rw [if_neg hno, hlst, hy]; rfl
  rw [e1] at hQ
  exact hQ _ _ _ _ _ (hiv.dropLast.append (.cons ⟨_, rfl⟩ .nil)) htv
 refine An (Q := W) ?_ (fun v σ₄ h => by rw [hW] at h; exact h)
 clear hW
 refine BS ?_
 refine Ai ?_
 refine Aa ?_
 refine A4 ?_
 refine B4 he (by tb_rel) (by tb_rel) (by top_args) ?_
 with_reducible
  refine AP LL ?_; intro _
  refine Cv ?_
  refine A1 ?_
 by_cases hy3 : y = [33]
 ·refine A9 (by simpa using hy3) ?_
  refine Aa ?_
  refine A4 ?_
  refine Gk he (by tb_rel) (by tb_rel) (by top_args) hivne (by exact Nat.le_of_lt (Nat.lt_of_le_of_lt (Nat.le_trans (Nat.le_of_eq hivl.symm) ok3) (by decide))) hlvi (by exact Nat.le_trans (by assumption) (by decide)) lit30 D3 (by decide) (by decide) (fun t9 => ?_)
  refine gen (rplc lst) (fun rp hrp => ?_)
  rw [rplc_eq, ← hrp]
  refine AP D3 (fun t11 => ?_)
  refine Fc ?_
  refine A1 ?_
  by_cases hrp0 : rp = []
  ·refine Ad (by simpa using hrp0) ?_
   refine Ad Bool.false_ne_true ?_
   refine B4 he (by tb_rel) (by tb_rel) (by top_args) ?_
   exact fin _ _ _ (by unfold Dw; rw [if_neg (fun q => q.2 (by rw [← hrp]; exact hrp0))])
  ·refine A9 (by simpa using hrp0) ?_
   refine Bd ?_
   refine A9 rfl ?_
   refine AP KA (fun t10 => ?_)
   exact fin _ _ _ (by unfold Dw; rw [if_pos ⟨hy3, by rw [← hrp]; exact hrp0⟩])
 ·refine Ad (by simpa using hy3) ?_
  refine Ad Bool.false_ne_true ?_
  refine B4 he (by tb_rel) (by tb_rel) (by top_args) ?_
  exact fin _ _ _ (by unfold Dw; rw [if_neg (fun q => hy3 q.1)])
end
section
variable {c : Cx} {L : Addr} {n : Nat} {σ : St} {e : Env} {l l' : Loc} {m m' f q : Led}
theorem law_for (hc : c.Ok) (he : Ag e L [((ofString "script"), .local), ((ofString "lead"), .local), ((ofString "insides"), .local), ((ofString "stars"), .cell), ((ofString "x"), .local), ((ofString "sign"), .cell), ((ofString "pieces"), .cell), ((ofString "pattern"), .local), ((ofString "star"), .local), ((ofString "text"), .local), ((ofString "steps"), .cell), ((ofString "names"), .local), ((ofString "means"), .local), ((ofString "n"), .cell), ((ofString "taken"), .local), ((ofString "pin"), .cell), ((ofString "due"), .local), ((ofString "len"), .globalImplicit), ((ofString "range"), .globalImplicit), ((ofString "object"), .globalImplicit), ((ofString "_join_translated_parts"), .globalImplicit), ((ofString "_translate"), .globalImplicit), ((ofString "_law_steps"), .globalImplicit), ((ofString "max"), .globalImplicit), ((ofString "_law_many"), .globalImplicit)] [((ofString "pin"), L + 1 + 1 + 1 + 1 + 1 + 1), ((ofString "n"), L + 1 + 1 + 1 + 1 + 1), ((ofString "steps"), L + 1 + 1 + 1 + 1), ((ofString "pieces"), L + 1 + 1 + 1), ((ofString "sign"), L + 1 + 1), ((ofString "stars"), L + 1)]) (hlen : c.mg (ofString "len") = none) (hlen' : c.mb (ofString "len") = some (.builtin "len"))
  {zs : List Int} {sv : List Value} (hz : Ints zs sv) (hzl : zs.length ≤ 64) {sa ta ia : Addr} {b : Bool} {t0 : Tok} {w2 w4 w5 w6 w7 w8 w9 wa wb c1 c2 c3 c4 c5 : Option Value} {ff fs : Led} {Q : Flow → St → Prop} (hsa : (sa, D.list sv) ∈ ff)
  (hQ : ∀ w4 c5 iv tv ff', Bk (FV b (zs.drop 1)).1 iv → AA (fun b v => v = Value.bool b) (FV b (zs.drop 1)).2 tv → Q .next ⟨[((ofString "script"), some (.ref sa)), ((ofString "lead"), w2), ((ofString "insides"), some (.ref ia)), ((ofString "x"), w4), ((ofString "pattern"), w5), ((ofString "star"), w6), ((ofString "text"), w7), ((ofString "names"), w8), ((ofString "means"), w9), ((ofString "taken"), wa), ((ofString "due"), wb)],
   [(ta, .list tv), (ia, .list iv), (L + 1 + 1 + 1 + 1 + 1 + 1, .cell (c1)), (L + 1 + 1 + 1 + 1 + 1, .cell (c2)), (L + 1 + 1 + 1 + 1, .cell (c3)), (L + 1 + 1 + 1, .cell (c4)), (L + 1 + 1, .cell (c5)), (L + 1, .cell (some (.ref ta)))], ff', fs⟩) :
  V c L 3 (exec (Er 3) e) Q ⟨[((ofString "script"), some (.ref sa)), ((ofString "lead"), w2), ((ofString "insides"), some (.ref ia)), ((ofString "x"), w4), ((ofString "pattern"), w5), ((ofString "star"), w6), ((ofString "text"), w7), ((ofString "names"), w8), ((ofString "means"), w9), ((ofString "taken"), wa), ((ofString "due"), wb)],
   [(ta, .list [.bool b]), (ia, .list [.str (S []) t0]), (L + 1 + 1 + 1 + 1 + 1 + 1, .cell (c1)), (L + 1 + 1 + 1 + 1 + 1, .cell (c2)), (L + 1 + 1 + 1 + 1, .cell (c3)), (L + 1 + 1 + 1, .cell (c4)), (L + 1 + 1, .cell (c5)), (L + 1, .cell (some (.ref ta)))], ff, fs⟩ := by
 have hzs := hz.length
 have hs : sv.length ≤ sizeLine := by rw [sizeLine_eq]; exact Nat.le_of_lt (Nat.lt_of_le_of_lt (Nat.le_trans (Nat.le_of_eq hzs.symm) hzl) (by decide))
 refine Ed ?_
 with_reducible
  refine BY ?_
  refine AJ (by assumption) (by tb_rel) (by tb_rel) ?_
  refine Ex ?_
  refine BE ?_
  refine AC ?_; intro _
  refine Cf ?_
  intro _
 refine Jd ?_
 refine Gs (.int _ _) .none hs (by top_args) (fun r => ?_)
 refine ⟨r, _, _, Rem.head, ?_⟩
 have hcut : cut sv (some 1) none = sv.drop 1 := by
  unfold cut
  rw [List.take_length]
  show sv.drop (Eu 1 sv.length) = _
  by_cases h : 1 ≤ sv.length
  ·rw [show Eu 1 sv.length = 1 from (Bb 1 _).trans (Nat.min_eq_left h)]
  ·rw [show sv = [] from List.length_eq_zero_iff.mp (by lia)]; simp
 rw [hcut]
 have hx := hz.drop 1
 refine gen (zs.drop 1) (fun xs hxs => ?_)
 refine gen (sv.drop 1) (fun xv hxv => ?_)
 rw [← hxs, ← hxv] at hx
 rw [← hxv]
 have hxl := hx.length
 have hxs64 : xs.length ≤ 64 := by rw [hxs, List.length_drop]; clear hzs hs hxl; exact Nat.le_trans (Nat.sub_le _ _) hzl
 refine ⟨_, _, [r], BP.list (.inl List.mem_cons_self), (fun x hx => .inl (by rw [List.mem_singleton.mp hx]; exact List.mem_cons_self)),
  fun i σ => Ex5 fun (w4 c5 : Option Value) (iv tv : List Value) (f : Led) => σ = ⟨[((ofString "script"), some (.ref sa)), ((ofString "lead"), w2), ((ofString "insides"), some (.ref ia)), ((ofString "x"), w4), ((ofString "pattern"), w5), ((ofString "star"), w6), ((ofString "text"), w7), ((ofString "names"), w8), ((ofString "means"), w9), ((ofString "taken"), wa), ((ofString "due"), wb)],
   [(ta, .list tv), (ia, .list iv), (L + 1 + 1 + 1 + 1 + 1 + 1, .cell (c1)), (L + 1 + 1 + 1 + 1 + 1, .cell (c2)), (L + 1 + 1 + 1 + 1, .cell (c3)), (L + 1 + 1 + 1, .cell (c4)), (L + 1 + 1, .cell (c5)), (L + 1, .cell (some (.ref ta)))], f, fs⟩ ∧ Bk (FV b (xs.take i)).1 iv ∧ AA (fun b v => v = Value.bool b) (FV b (xs.take i)).2 tv, ?_, ?_, ?_⟩
 ·exact ⟨_, _, _, _, _, rfl, .cons ⟨_, rfl⟩ .nil, .cons rfl .nil⟩
 ·intro i v σ₂ hi hP hI K_ hK_
  refine Ae (fun G_ hG_ => ?_)
  obtain ⟨w4, c5, iv, tv, f, rfl, hiv, htv⟩ := hI
  obtain ⟨z, hzi, tz, rfl⟩ := hx.get hP
  refine hG_ ?_
  clear hG_ G_
  have hsucc := Lw b hzi
  have hok := Kh b (xs.take i)
  refine gen (FV b (xs.take i)) (fun p hp => ?_)
  rw [← hp] at hiv htv hsucc hok
  have hok' := hok
  refine Ae (fun G_ hG_ => ?_)
  obtain ⟨ok1, ok2, ok3, ok4, ok5⟩ := hok
  refine hG_ ?_
  clear hG_ G_
  have hivl := hiv.length
  have htvl := htv.length
  have htake : (xs.take i).length ≤ 64 := by rw [List.length_take]; clear hxl; exact Nat.le_trans (Nat.min_le_right _ _) hxs64
  have hiv62 : iv.length < 2 ^ 62 := by exact Nat.lt_of_le_of_lt (Nat.le_trans (Nat.le_of_eq hivl.symm) ok3) (by decide)
  have hivs : iv.length ≤ sizeLine := by rw [sizeLine_eq]; exact Nat.le_of_lt (Nat.lt_of_le_of_lt (Nat.le_trans (Nat.le_of_eq hivl.symm) ok3) (by decide))
  have htvs : tv.length ≤ sizeLine := by rw [sizeLine_eq]; exact Nat.le_of_lt (Nat.lt_of_le_of_lt (Nat.le_trans (Nat.le_trans (Nat.le_of_eq htvl.symm) (Nat.le_of_eq ok1)) ok3) (by decide))
  with_reducible
   refine C0 (by assumption) (by tb_rel) (by top_caught) ?_
   refine A7 ?_; intro K_ hK_
   refine Ci ?_; intro K_ hK_
   refine Ai ?_
   refine Aa ?_
   refine A4 ?_
   refine Az ?_
   refine AJ (by assumption) (by tb_rel) (by tb_rel) ?_
   refine AC ?_; intro _
  refine JQ (fun _ => ?_)
  with_reducible
   refine Aw ?_
   refine A0 ?_
   refine AC ?_; intro _
   refine A0 ?_
   refine AC ?_; intro _
   refine A2 ?_
   refine A6 (by with_unfolding_all exact Nat.le_of_ble_eq_true rfl) ?_; intro _
  refine V_in09 (by top_args) ?_
  with_reducible
   refine A1 ?_
  by_cases h09 : Dj z = 0 ∨ Dj z = 9
  ·refine A9 (by simpa using h09) ?_
   with_reducible
    refine Aa ?_
    refine Ct (Aq (CI (by assumption) (by assumption) (by tb_rel) (by assumption) (by assumption) (Nv (by assumption) (by tb_rel) (by tb_rel)) (by top_args) (by assumption)) Ak Ee) ?_
   by_cases h4 : p.1.length < 4
   ·refine A9 (by simp; clear ok3; lia) ?_
    refine Bd ?_
    refine hK_ _ _ ?_
    clear hK_ K_
    refine A9 rfl ?_
    with_reducible
     refine A7 ?_; intro K_ hK_
     refine BF ?_ (by assumption)
     refine Ba ?_
     refine AJ (by assumption) (by tb_rel) (by tb_rel) ?_
     refine Cy (Ty.list (by top_args)) ?_
     refine Ah ?_
     refine FE D3 ?_; intro _
    refine Cw (by top_caught) hivs ?_
    with_reducible
     refine hK_ _ _ ?_; clear hK_ K_
     refine B7 ?_
     refine BF ?_ (by assumption)
     refine Ba ?_
     refine B4 (by assumption) (by tb_rel) (by tb_rel) (by top_args) ?_
     refine Cy (Ty.list (by top_args)) ?_
     refine Ah ?_
     refine A0 ?_
     refine CN ?_
     refine Az ?_
     refine AJ (by assumption) (by tb_rel) (by tb_rel) ?_
     refine AC ?_; intro _
    refine JQ (fun _ => ?_)
    with_reducible
     refine AC ?_; intro _
     refine DB ?_
     refine A2 ?_
    refine Cw (by top_caught) htvs ?_
    with_reducible
     refine hK_ _ _ ?_; clear hK_ K_
     refine Au ?_
     refine hK_ _ _ ?_; clear hK_ K_
    refine ⟨_, _, _, _, _, rfl, ?_⟩
    rw [hsucc]
    unfold Gl
    rw [if_pos ⟨h09, h4⟩]
    refine ⟨hiv.append (.cons ⟨_, rfl⟩ .nil), htv.append (.cons ?_ .nil)⟩
    show Value.bool _ = Value.bool _
    refine congrArg Value.bool ?_
    rw [Bool.eq_iff_iff]; simp only [beq_iff_eq, decide_eq_true_eq]; simp
   ·have h4' : ¬ ((iv.length : Int) < 4) := by clear ok3; lia
    refine Ad (by rw [decide_eq_true_eq]; exact h4') ?_
    refine hK_ _ _ ?_
    clear hK_ K_
    rw [if_neg Bool.false_ne_true]
    have hno : ¬ ((Dj z = 0 ∨ Dj z = 9) ∧ p.1.length < 4) := fun q => h4 q.2
    have hE := fun b h f Q => @Kw c L e hc he p z iv tv _ htake hok' hiv htv hno b h tz sa ta ia w2 w5 w6 w7 w8 w9 wa wb c1 c2 c3 c4 c5 f fs Q
    refine hE _ ?_ _ _ ?_
    ·rfl
    intro w4 c5 iv tv f h1 h2
    refine hK_ _ _ ?_
    clear hK_ K_
    refine Au ?_
    refine hK_ _ _ ?_
    refine ⟨_, _, _, _, _, rfl, ?_⟩
    rw [hsucc]; exact ⟨h1, h2⟩
  ·refine Ad (by rw [decide_eq_true_eq]; exact h09) ?_
   refine hK_ _ _ ?_
   clear hK_ K_
   rw [if_neg Bool.false_ne_true]
   have hno : ¬ ((Dj z = 0 ∨ Dj z = 9) ∧ p.1.length < 4) := fun q => h09 q.1
   have hE := fun b h f Q => @Kw c L e hc he p z iv tv _ htake hok' hiv htv hno b h tz sa ta ia w2 w5 w6 w7 w8 w9 wa wb c1 c2 c3 c4 c5 f fs Q
   refine hE _ ?_ _ _ ?_
   ·rfl
   intro w4 c5 iv tv f h1 h2
   refine hK_ _ _ ?_
   clear hK_ K_
   refine Au ?_
   refine hK_ _ _ ?_
   refine ⟨_, _, _, _, _, rfl, ?_⟩
   rw [hsucc]; exact ⟨h1, h2⟩
 ·intro σ₂ hI
  refine Ae (fun G_ hG_ => ?_)
  obtain ⟨w4, c5, iv, tv, f, rfl, hiv, htv⟩ := hI
  refine hG_ ?_
  clear hG_ G_
  rw [← hxl, List.take_length, hxs] at hiv htv
  exact Au (hQ _ _ _ _ _ hiv htv)
end
section
variable {c : Cx} {L : Addr} {n : Nat} {e : Env}
theorem Pj (hc : c.Ok) (he : Ag e L [((ofString "script"), .local), ((ofString "lead"), .local), ((ofString "insides"), .local), ((ofString "stars"), .cell), ((ofString "x"), .local), ((ofString "sign"), .cell), ((ofString "pieces"), .cell), ((ofString "pattern"), .local), ((ofString "star"), .local), ((ofString "text"), .local), ((ofString "steps"), .cell), ((ofString "names"), .local), ((ofString "means"), .local), ((ofString "n"), .cell), ((ofString "taken"), .local), ((ofString "pin"), .cell), ((ofString "due"), .local), ((ofString "len"), .globalImplicit), ((ofString "range"), .globalImplicit), ((ofString "object"), .globalImplicit), ((ofString "_join_translated_parts"), .globalImplicit), ((ofString "_translate"), .globalImplicit), ((ofString "_law_steps"), .globalImplicit), ((ofString "max"), .globalImplicit), ((ofString "_law_many"), .globalImplicit)] [((ofString "pin"), L + 1 + 1 + 1 + 1 + 1 + 1), ((ofString "n"), L + 1 + 1 + 1 + 1 + 1), ((ofString "steps"), L + 1 + 1 + 1 + 1), ((ofString "pieces"), L + 1 + 1 + 1), ((ofString "sign"), L + 1 + 1), ((ofString "stars"), L + 1)]) {zs : List Int} {sv : List Value} (hz : Ints zs sv) (hzl : zs.length ≤ 64) {sa : Addr} {w1 w2 w3 w4 w5 w6 w7 w8 w9 wa wb c1 c2 c3 c4 c5 c6 : Option Value} {ff fs : Led} {Q : Flow → St → Prop} (hsa : (sa, D.list sv) ∈ ff)
  (hQ : ∀ t ff', (∀ x ∈ ff, x ∈ ff') → Q .next ⟨[((ofString "script"), some (.ref sa)), ((ofString "lead"), some (.int (zs.headD 0) t)), ((ofString "insides"), w3), ((ofString "x"), w4), ((ofString "pattern"), w5), ((ofString "star"), w6), ((ofString "text"), w7), ((ofString "names"), w8), ((ofString "means"), w9), ((ofString "taken"), wa), ((ofString "due"), wb)], [(L + 1 + 1 + 1 + 1 + 1 + 1, .cell (c1)), (L + 1 + 1 + 1 + 1 + 1, .cell (c2)), (L + 1 + 1 + 1 + 1, .cell (c3)), (L + 1 + 1 + 1, .cell (c4)), (L + 1 + 1, .cell (c5)), (L + 1, .cell (c6))], ff', fs⟩) :
  V c L 3 (exec (Er 1) e) Q ⟨[((ofString "script"), some (.ref sa)), ((ofString "lead"), w2), ((ofString "insides"), w3), ((ofString "x"), w4), ((ofString "pattern"), w5), ((ofString "star"), w6), ((ofString "text"), w7), ((ofString "names"), w8), ((ofString "means"), w9), ((ofString "taken"), wa), ((ofString "due"), wb)], [(L + 1 + 1 + 1 + 1 + 1 + 1, .cell (c1)), (L + 1 + 1 + 1 + 1 + 1, .cell (c2)), (L + 1 + 1 + 1 + 1, .cell (c3)), (L + 1 + 1 + 1, .cell (c4)), (L + 1 + 1, .cell (c5)), (L + 1, .cell (c6))], ff, fs⟩ := by
 have hl := hz.length
 refine A3 ?_
 with_reducible
  refine BY ?_
  refine Az ?_
  refine AJ (by assumption) (by tb_rel) (by tb_rel) ?_
  refine Bo ?_
  refine A0 ?_
  refine AC ?_; intro _
  refine A2 ?_
  refine Ao (by with_unfolding_all exact Nat.le_of_ble_eq_true rfl) ?_; intro _
 refine GF (by top_args) (by top_args) (by rw [sizeLine_eq]; simp only [List.length_cons, List.length_nil]; lia) (fun r => ?_)
 with_reducible
  refine AC ?_; intro _
 have hx : ∀ t0 : Tok, ∃ t, (sv ++ [Value.int 0 t0])[(0 : Int).toNat]? = some (.int (zs.headD 0) t) := fun t0 => by
  cases hz with
  | nil => exact ⟨t0, rfl⟩
  | cons h1 _ => obtain ⟨t, rfl⟩ := h1; exact ⟨t, rfl⟩
 obtain ⟨t1, ht1⟩ := hx _
 refine DS (by top_args) (by decide) (by decide) ht1 ?_
 refine Am _ Rem.head ?_
 refine Am _ Rem.head ?_
 with_reducible
  refine A8 (by assumption) (by tb_rel) (by top_caught) ?_
 exact hQ _ _ fun x hx => List.mem_cons_of_mem _ (List.mem_cons_of_mem _ hx)
theorem law_two (hc : c.Ok) (he : Ag e L [((ofString "script"), .local), ((ofString "lead"), .local), ((ofString "insides"), .local), ((ofString "stars"), .cell), ((ofString "x"), .local), ((ofString "sign"), .cell), ((ofString "pieces"), .cell), ((ofString "pattern"), .local), ((ofString "star"), .local), ((ofString "text"), .local), ((ofString "steps"), .cell), ((ofString "names"), .local), ((ofString "means"), .local), ((ofString "n"), .cell), ((ofString "taken"), .local), ((ofString "pin"), .cell), ((ofString "due"), .local), ((ofString "len"), .globalImplicit), ((ofString "range"), .globalImplicit), ((ofString "object"), .globalImplicit), ((ofString "_join_translated_parts"), .globalImplicit), ((ofString "_translate"), .globalImplicit), ((ofString "_law_steps"), .globalImplicit), ((ofString "max"), .globalImplicit), ((ofString "_law_many"), .globalImplicit)] [((ofString "pin"), L + 1 + 1 + 1 + 1 + 1 + 1), ((ofString "n"), L + 1 + 1 + 1 + 1 + 1), ((ofString "steps"), L + 1 + 1 + 1 + 1), ((ofString "pieces"), L + 1 + 1 + 1), ((ofString "sign"), L + 1 + 1), ((ofString "stars"), L + 1)]) {z : Int} {t : Tok} {w1 w2 w3 w4 w5 w6 w7 w8 w9 wa wb c1 c2 c3 c4 c5 c6 : Option Value} {ff fs : Led} {Q : Flow → St → Prop}
  (hQ : ∀ t0 ta ia ff', (∀ x ∈ ff, x ∈ ff') → Q .next ⟨[((ofString "script"), w1), ((ofString "lead"), some (.int z t)), ((ofString "insides"), some (.ref ia)), ((ofString "x"), w4), ((ofString "pattern"), w5), ((ofString "star"), w6), ((ofString "text"), w7), ((ofString "names"), w8), ((ofString "means"), w9), ((ofString "taken"), wa), ((ofString "due"), wb)], [(ta, .list [.bool (Int.fmod z 2 == 0)]), (ia, .list [.str (S []) t0]), (L + 1 + 1 + 1 + 1 + 1 + 1, .cell (c1)), (L + 1 + 1 + 1 + 1 + 1, .cell (c2)), (L + 1 + 1 + 1 + 1, .cell (c3)), (L + 1 + 1 + 1, .cell (c4)), (L + 1 + 1, .cell (c5)), (L + 1, .cell (some (.ref ta)))], ff', fs⟩) :
  V c L 3 (exec (Er 2) e) Q ⟨[((ofString "script"), w1), ((ofString "lead"), some (.int z t)), ((ofString "insides"), w3), ((ofString "x"), w4), ((ofString "pattern"), w5), ((ofString "star"), w6), ((ofString "text"), w7), ((ofString "names"), w8), ((ofString "means"), w9), ((ofString "taken"), wa), ((ofString "due"), wb)], [(L + 1 + 1 + 1 + 1 + 1 + 1, .cell (c1)), (L + 1 + 1 + 1 + 1 + 1, .cell (c2)), (L + 1 + 1 + 1 + 1, .cell (c3)), (L + 1 + 1 + 1, .cell (c4)), (L + 1 + 1, .cell (c5)), (L + 1, .cell (c6))], ff, fs⟩ := by
 refine B8 ?_ ?_
 rotate_left
 ·with_unfolding_all exact sw2 (by assumption) (by tb_rel) (by tb_rel) rfl
 with_reducible
  refine Aw ?_
  refine A0 ?_
  refine Bo ?_
  refine FE D3 ?_; intro _
  refine Ao (by with_unfolding_all exact Nat.le_of_ble_eq_true rfl) ?_; intro _
  refine A0 ?_
  refine Bo ?_
  refine A0 ?_
  refine CN ?_
  refine Az ?_
  refine AJ (by assumption) (by tb_rel) (by tb_rel) ?_
  refine AC ?_; intro _
 refine Dl (by decide) (fun t1 => ?_)
 with_reducible
  refine AC ?_; intro _
  refine DB ?_
  refine A2 ?_
  refine Ao (by with_unfolding_all exact Nat.le_of_ble_eq_true rfl) ?_; intro _
  refine A2 ?_
  refine A6 (by with_unfolding_all exact Nat.le_of_ble_eq_true rfl) ?_; intro _
  refine CG (by top_args) (by with_unfolding_all rfl) ?_
  refine LV (by assumption) (by tb_rel) (by top_caught) ?_
  refine AW ?_
  refine CK (by assumption) (by tb_rel) (by tb_rel) (by top_caught) ?_
  refine Bf ?_
 exact hQ _ _ _ _ fun x hx => List.mem_cons_of_mem _ hx
theorem Pk (hc : c.Ok) (he : Ag e L [((ofString "script"), .local), ((ofString "lead"), .local), ((ofString "insides"), .local), ((ofString "stars"), .cell), ((ofString "x"), .local), ((ofString "sign"), .cell), ((ofString "pieces"), .cell), ((ofString "pattern"), .local), ((ofString "star"), .local), ((ofString "text"), .local), ((ofString "steps"), .cell), ((ofString "names"), .local), ((ofString "means"), .local), ((ofString "n"), .cell), ((ofString "taken"), .local), ((ofString "pin"), .cell), ((ofString "due"), .local), ((ofString "len"), .globalImplicit), ((ofString "range"), .globalImplicit), ((ofString "object"), .globalImplicit), ((ofString "_join_translated_parts"), .globalImplicit), ((ofString "_translate"), .globalImplicit), ((ofString "_law_steps"), .globalImplicit), ((ofString "max"), .globalImplicit), ((ofString "_law_many"), .globalImplicit)] [((ofString "pin"), L + 1 + 1 + 1 + 1 + 1 + 1), ((ofString "n"), L + 1 + 1 + 1 + 1 + 1), ((ofString "steps"), L + 1 + 1 + 1 + 1), ((ofString "pieces"), L + 1 + 1 + 1), ((ofString "sign"), L + 1 + 1), ((ofString "stars"), L + 1)]) {z : Int} {t : Tok} {ta ia : Addr} {tv iv : List Value} {w1 w2 w3 w4 w5 w6 w7 w8 w9 wa wb c1 c2 c3 c4 c5 c6 : Option Value} {ff fs : Led} {Q : Flow → St → Prop} (htv : tv.length ≤ sizeLine)
  (hQ : ∀ b : Bool, Q .next ⟨[((ofString "script"), w1), ((ofString "lead"), some (.int z t)), ((ofString "insides"), some (.ref ia)), ((ofString "x"), w4), ((ofString "pattern"), w5), ((ofString "star"), w6), ((ofString "text"), w7), ((ofString "names"), w8), ((ofString "means"), w9), ((ofString "taken"), wa), ((ofString "due"), wb)], [(L + 1 + 1 + 1 + 1 + 1 + 1, .cell (c1)), (L + 1 + 1 + 1 + 1 + 1, .cell (c2)), (L + 1 + 1 + 1 + 1, .cell (c3)), (L + 1 + 1 + 1, .cell (c4)), (L + 1 + 1, .cell (c5)), (L + 1, .cell (some (.ref ta)))], (ia, .list iv) :: (ta, .list (tv ++ [.bool b])) :: ff, fs⟩) :
  V c L 3 (exec (Er 4) e) Q ⟨[((ofString "script"), w1), ((ofString "lead"), some (.int z t)), ((ofString "insides"), some (.ref ia)), ((ofString "x"), w4), ((ofString "pattern"), w5), ((ofString "star"), w6), ((ofString "text"), w7), ((ofString "names"), w8), ((ofString "means"), w9), ((ofString "taken"), wa), ((ofString "due"), wb)], [(ta, .list tv), (ia, .list iv), (L + 1 + 1 + 1 + 1 + 1 + 1, .cell (c1)), (L + 1 + 1 + 1 + 1 + 1, .cell (c2)), (L + 1 + 1 + 1 + 1, .cell (c3)), (L + 1 + 1 + 1, .cell (c4)), (L + 1 + 1, .cell (c5)), (L + 1, .cell (some (.ref ta)))], ff, fs⟩ := by
 refine Jd ?_
 refine Jd ?_
 refine BF ?_ (by assumption)
 with_reducible
  refine Ba ?_
  refine B4 (by assumption) (by tb_rel) (by tb_rel) (by top_args) ?_
  refine Cy (Ty.list (by top_args)) ?_
  refine Ah ?_
  refine A0 ?_
  refine CN ?_
  refine Az ?_
  refine Az ?_
  refine AJ (by assumption) (by tb_rel) (by tb_rel) ?_
  refine AC ?_; intro _
 refine Gq (by decide) (PyProof.noPylong_small (by decide)) (fun t1 => ?_)
 with_reducible
  refine AC ?_; intro _
 refine Dl (by decide) (fun t2 => ?_)
 with_reducible
  refine AC ?_; intro _
  refine DB ?_
  refine A2 ?_
 refine Cw (by top_caught) htv ?_
 exact ⟨_, _, _, Rem.head, _, _, _, Rem.head, hQ _⟩
end
theorem Je {α : Type} {N : Nat} {ys : List Value} {f : Nat → α} {T : α → Value → Prop} (h : AA (fun i y => T (f i) y) ((List.range N).filter fun _ => true) ys) : AA T ((List.range N).map f) ys := by
 rw [show (List.range N).filter (fun _ => true) = List.range N from List.filter_eq_self.mpr fun _ _ => rfl] at h
 exact h.map f fun _ _ _ q => q
section
variable {c : Cx} {L : Addr} {n : Nat} {σ : St} {e : Env}
theorem JR {a : Nat} {t u : Tok} {Q : Value → St → Prop} (h : ∀ t, Q (.int ((a % 3 : Nat) : Int) t) σ) : V c L n (binaryOp .Mod (.int (a : Nat) t) (.int 3 u)) Q σ :=
 Dl (by decide) fun t => by
  have : Int.fmod (a : Int) 3 = ((a % 3 : Nat) : Int) := by rw [Int.fmod_eq_emod_of_nonneg _ (by simp)]; rfl
  rw [this]; exact h t
theorem Pl (hc : c.Ok) (he : Ag e L [((ofString "script"), .local), ((ofString "lead"), .local), ((ofString "insides"), .local), ((ofString "stars"), .cell), ((ofString "x"), .local), ((ofString "sign"), .cell), ((ofString "pieces"), .cell), ((ofString "pattern"), .local), ((ofString "star"), .local), ((ofString "text"), .local), ((ofString "steps"), .cell), ((ofString "names"), .local), ((ofString "means"), .local), ((ofString "n"), .cell), ((ofString "taken"), .local), ((ofString "pin"), .cell), ((ofString "due"), .local), ((ofString "len"), .globalImplicit), ((ofString "range"), .globalImplicit), ((ofString "object"), .globalImplicit), ((ofString "_join_translated_parts"), .globalImplicit), ((ofString "_translate"), .globalImplicit), ((ofString "_law_steps"), .globalImplicit), ((ofString "max"), .globalImplicit), ((ofString "_law_many"), .globalImplicit)] [((ofString "pin"), L + 1 + 1 + 1 + 1 + 1 + 1), ((ofString "n"), L + 1 + 1 + 1 + 1 + 1), ((ofString "steps"), L + 1 + 1 + 1 + 1), ((ofString "pieces"), L + 1 + 1 + 1), ((ofString "sign"), L + 1 + 1), ((ofString "stars"), L + 1)]) {ins : List (List Nat)} {iv : List Value} (hiv : Bk ins iv) (hins : ∀ o ∈ ins, o.length ≤ 300) (hil : ins.length ≤ 4) {ia : Addr} {w1 w2 w3 w4 w5 w6 w7 w8 w9 wa wb c1 c2 c3 c4 c5 c6 : Option Value} {ff fs : Led} {Q : Flow → St → Prop} (hia : (ia, D.list iv) ∈ ff)
  (hQ : ∀ pa pv ff', (∀ x ∈ ff, x ∈ ff') → (pa, D.list pv) ∈ ff' → Bk (ins.map B2 ++ [[]]) pv → Q .next ⟨[((ofString "script"), w1), ((ofString "lead"), w2), ((ofString "insides"), some (.ref ia)), ((ofString "x"), w4), ((ofString "pattern"), w5), ((ofString "star"), w6), ((ofString "text"), w7), ((ofString "names"), w8), ((ofString "means"), w9), ((ofString "taken"), wa), ((ofString "due"), wb)], [(L + 1 + 1 + 1 + 1 + 1 + 1, .cell (c1)), (L + 1 + 1 + 1 + 1 + 1, .cell (c2)), (L + 1 + 1 + 1 + 1, .cell (c3)), (L + 1 + 1 + 1, .cell (some (.ref pa))), (L + 1 + 1, .cell (c5)), (L + 1, .cell (c6))], ff', fs⟩) :
  V c L 3 (exec (Er 5) e) Q ⟨[((ofString "script"), w1), ((ofString "lead"), w2), ((ofString "insides"), some (.ref ia)), ((ofString "x"), w4), ((ofString "pattern"), w5), ((ofString "star"), w6), ((ofString "text"), w7), ((ofString "names"), w8), ((ofString "means"), w9), ((ofString "taken"), wa), ((ofString "due"), wb)], [(L + 1 + 1 + 1 + 1 + 1 + 1, .cell (c1)), (L + 1 + 1 + 1 + 1 + 1, .cell (c2)), (L + 1 + 1 + 1 + 1, .cell (c3)), (L + 1 + 1 + 1, .cell (c4)), (L + 1 + 1, .cell (c5)), (L + 1, .cell (c6))], ff, fs⟩ := by
 have hl := hiv.length
 refine A3 ?_
 with_reducible
  refine Az ?_
 refine' BJ he ?cc1 ?cg1
 case cc1 => exact ⟨CH rfl, rfl, by decide, by decide, by dsimp only; repeat first | exact B5.nil | (apply B5.free; focus tb_rel) | (apply B5.other; focus decide), ⟨fun _ _ => by with_unfolding_all rfl, trivial⟩⟩
 with_reducible
  refine AJ (by assumption) (by tb_rel) (by tb_rel) ?_
 refine ⟨_, _, [ia], BP.list (.inl hia), (fun x hx => .inl (by rw [List.mem_singleton.mp hx]; exact List.mem_map_of_mem (f := (·.1)) hia)), fun C e' he' _ _ => ?_⟩
 have he' : Ag e' C [((ofString ".0"), .local), ((ofString "one"), .local)] [] := he'
 show Bw c C _ e' _ _ sizeLine _ _ _ ⟨[((ofString ".0"), none), ((ofString "one"), none)], [], [], _⟩
 refine Bg (fun i => opt (fun _ => true) ins[i]?) (fun i y f => ∃ o, ins[i]? = some o ∧ ∃ t, y = .str (S (B2 o)) t) (by rw [sizeLine_eq]; exact Nat.lt_of_le_of_lt (Nat.le_trans (Nat.le_of_eq hl.symm) hil) (by decide)) (fun i y f f' hf h => h) (fun i v w f3 hi hP K_ hK_ => ?_) (fun yv σ' hG hyv => ?_)
 ·obtain ⟨o, ho, t1, rfl⟩ := hiv.get hP
  rw [ho] at hK_
  have ho3 := hins o (List.mem_of_getElem? ho)
  clear he
  with_reducible
   refine C0 (by assumption) (by tb_rel) (by top_caught) ?_
   refine Bj ?_
   refine hK_ _ _ ?_; clear hK_ K_
  refine ⟨rfl, fun _ => ?_, fun h => nomatch h⟩
  with_reducible
   refine BS ?_
   refine Ct (Aq (Bs (by assumption) (by tb_rel) (by tb_rel)) (AY D3) B9) ?_
  by_cases h0 : o = []
  ·refine A9 (by rw [decide_eq_true_eq]; exact h0) ?_
   with_reducible
    refine AP lit1 ?_; intro _
   refine ⟨⟨_, _, rfl⟩, fun x hx => hx, o, rfl, ?_⟩
   unfold B2
   rw [if_pos h0]
   exact ⟨_, rfl⟩
  ·refine Ad (by rw [decide_eq_true_eq]; exact h0) ?_
   with_reducible
    refine BS ?_
    refine Ct (Aq (Bs (by assumption) (by tb_rel) (by tb_rel)) (AY LL) B9) ?_
   by_cases h33 : o = [33]
   ·refine A9 (by rw [decide_eq_true_eq]; exact h33) ?_
    with_reducible
     refine AP lit31 ?_; intro _
    refine ⟨⟨_, _, rfl⟩, fun x hx => hx, o, rfl, ?_⟩
    unfold B2
    rw [if_neg h0, if_pos h33]
    exact ⟨_, rfl⟩
   ·refine Ad (by rw [decide_eq_true_eq]; exact h33) ?_
    with_reducible
     refine Az ?_
     refine Az ?_
     refine AP PQ ?_; intro _
     refine AJ (by assumption) (by tb_rel) (by tb_rel) ?_
    refine BX (by rw [sizeLine_eq]; simp only [List.length_cons, List.length_nil]; lia) (fun t5 => ?_)
    with_reducible
     refine AP Nh ?_; intro _
    refine BX (by rw [sizeLine_eq, List.length_append]; simp only [List.length_cons, List.length_nil]; lia) (fun t6 => ?_)
    refine ⟨⟨_, _, rfl⟩, fun x hx => hx, o, rfl, ?_⟩
    unfold B2
    rw [if_neg h0, if_neg h33]
    exact ⟨_, rfl⟩
 clear he'
 rw [← hl] at hyv
 have hy := (BN [] hyv).map (R' := fun x v => ∃ t, v = Value.str (S x) t) B2 fun a _ b hab => hab
 rw [show ins.filter (fun _ => true) = ins from List.filter_eq_self.mpr fun _ _ => rfl] at hy
 have hyl := hy.length
 rw [List.length_map] at hyl
 refine ⟨_, fun p hp => .inl hp, fun D => ?_⟩
 dsimp only
 with_reducible
  refine Bo ?_
  refine FE D3 ?_; intro _
  refine Ao (by with_unfolding_all exact Nat.le_of_ble_eq_true rfl) ?_; intro _
 refine GF (by top_args) (by top_args) (by rw [sizeLine_eq]; simp only [List.length_cons, List.length_nil]; lia) (fun r => ?_)
 refine Am r Rem.head ?_
 refine Am _ Rem.head ?_
 refine Am _ Rem.head ?_
 with_reducible
  refine Aj (by assumption) (by tb_rel) (by tb_rel) (by top_caught) ?_
 exact hQ _ _ _ (fun x hx => by repeat (first | assumption | refine List.mem_cons_of_mem _ ?_ | refine List.mem_append_right _ ?_)) (by tb_rel) (hy.append (.cons ⟨_, rfl⟩ .nil))
end
theorem MQ {bs : List Bool} {vs : List Value} (h : AA (fun b v => v = Value.bool b) bs vs) {k : Nat} (hk : k < bs.length) : ∃ b, bs[k]? = some b ∧ vs[k]? = some (.bool b) := by
 refine Cj (show ∃ b, bs[k]? = some b from ⟨_, List.getElem?_eq_getElem hk⟩) (fun b hb => ?_)
 obtain ⟨y, hy, rfl⟩ := h.get' hb
 exact ⟨b, hb, hy⟩
section
variable {c : Cx} {L : Addr} {n : Nat} {σ : St} {e : Env}
theorem law_six (hc : c.Ok) (he : Ag e L [((ofString "script"), .local), ((ofString "lead"), .local), ((ofString "insides"), .local), ((ofString "stars"), .cell), ((ofString "x"), .local), ((ofString "sign"), .cell), ((ofString "pieces"), .cell), ((ofString "pattern"), .local), ((ofString "star"), .local), ((ofString "text"), .local), ((ofString "steps"), .cell), ((ofString "names"), .local), ((ofString "means"), .local), ((ofString "n"), .cell), ((ofString "taken"), .local), ((ofString "pin"), .cell), ((ofString "due"), .local), ((ofString "len"), .globalImplicit), ((ofString "range"), .globalImplicit), ((ofString "object"), .globalImplicit), ((ofString "_join_translated_parts"), .globalImplicit), ((ofString "_translate"), .globalImplicit), ((ofString "_law_steps"), .globalImplicit), ((ofString "max"), .globalImplicit), ((ofString "_law_many"), .globalImplicit)] [((ofString "pin"), L + 1 + 1 + 1 + 1 + 1 + 1), ((ofString "n"), L + 1 + 1 + 1 + 1 + 1), ((ofString "steps"), L + 1 + 1 + 1 + 1), ((ofString "pieces"), L + 1 + 1 + 1), ((ofString "sign"), L + 1 + 1), ((ofString "stars"), L + 1)]) (hlen : c.mg (ofString "len") = none) (hlen' : c.mb (ofString "len") = some (.builtin "len")) (hran : c.mg (ofString "range") = none) (hran' : c.mb (ofString "range") = some (.type "range"))
  {ins : List (List Nat)} {stars : List Bool} {pv tv : List Value} (hpv : Bk (ins.map B2 ++ [[]]) pv) (htv : AA (fun b v => v = Value.bool b) stars tv) (hins : ∀ o ∈ ins, o.length ≤ 300) (hsl : stars.length = ins.length + 1) (hil : ins.length ≤ 4)
  {pa ta : Addr} {w1 w2 w3 w4 w5 w6 w7 w8 w9 wa wb c1 c2 c3 c4 c5 c6 : Option Value} {ff fs : Led} {Q : Flow → St → Prop} (hpa : (pa, D.list pv) ∈ ff) (hta : (ta, D.list tv) ∈ ff)
  (hQ : ∀ t w c1 ff', (∀ x ∈ ff, x ∈ ff') → Q .next ⟨[((ofString "script"), w1), ((ofString "lead"), w2), ((ofString "insides"), w3), ((ofString "x"), w4), ((ofString "pattern"), some (.str (S (La ins stars)) t)), ((ofString "star"), w6), ((ofString "text"), w7), ((ofString "names"), w8), ((ofString "means"), w9), ((ofString "taken"), wa), ((ofString "due"), wb)], [(L + 1 + 1 + 1 + 1 + 1 + 1, .cell (c1)), (L + 1 + 1 + 1 + 1 + 1, .cell (c2)), (L + 1 + 1 + 1 + 1, .cell (c3)), (L + 1 + 1 + 1, .cell (some (.ref pa))), (L + 1 + 1, .cell (w)), (L + 1, .cell (some (.ref ta)))], ff', fs⟩) :
  V c L 3 (exec (Er 6) e) Q ⟨[((ofString "script"), w1), ((ofString "lead"), w2), ((ofString "insides"), w3), ((ofString "x"), w4), ((ofString "pattern"), w5), ((ofString "star"), w6), ((ofString "text"), w7), ((ofString "names"), w8), ((ofString "means"), w9), ((ofString "taken"), wa), ((ofString "due"), wb)], [(L + 1 + 1 + 1 + 1 + 1 + 1, .cell (c1)), (L + 1 + 1 + 1 + 1 + 1, .cell (c2)), (L + 1 + 1 + 1 + 1, .cell (c3)), (L + 1 + 1 + 1, .cell (some (.ref pa))), (L + 1 + 1, .cell (c5)), (L + 1, .cell (some (.ref ta)))], ff, fs⟩ := by
 have htl := htv.length
 have hpl := hpv.length
 rw [List.length_append, List.length_map, List.length_cons, List.length_nil] at hpl
 have ht62 : tv.length < 2 ^ 62 := by lia
 refine A3 ?_
 with_reducible
  refine Ba ?_
  refine AP D3 ?_; intro _
  refine K5 Ty.str ?_
  refine Ah ?_
  refine A0 ?_
 refine' BJ he ?cc1 ?cg1
 case cc1 => exact ⟨CH rfl, rfl, by decide, by decide, by dsimp only; repeat first | exact B5.nil | (apply B5.free; focus tb_rel) | (apply B5.other; focus decide), ⟨fun _ _ => by with_unfolding_all rfl, trivial⟩⟩
 with_reducible
  refine HE (by assumption) (by assumption) (by tb_rel) (by assumption) (by assumption) ?_
  refine AI ?_
  refine A0 ?_
  refine B1 (CI (by assumption) (by assumption) (by tb_rel) (by assumption) (by assumption) (KE (by assumption) (by tb_rel) (by tb_rel) (by top_args)) (by top_args) (by assumption)) ?_; intro _
  refine A2 ?_
  refine D4 ?_; intro _
 refine ⟨_, _, [], BP.upTo ht62 (by top_args), (fun _ h => nomatch h), fun C e' he' _ _ => ?_⟩
 have he' : Ag e' C [((ofString ".0"), .local), ((ofString "k"), .local), ((ofString "pieces"), .cell), ((ofString "stars"), .cell)] [((ofString "stars"), L + 1), ((ofString "pieces"), L + 1 + 1 + 1)] := he'
 show Bw c C _ e' _ _ sizeLine _ _ _ ⟨[((ofString ".0"), none), ((ofString "k"), none)], [], [], _⟩
 refine Bg (fun _ => true) (fun i y f => ∃ t, y = .str (S ((if stars[i]?.getD false = true then List.replicate (1 + i % 3) 42 else []) ++ ((ins.map B2 ++ [[]])[i]?.getD []))) t) (by rw [sizeLine_eq]; lia) (fun i y f f' hf h => h) (fun k v w f3 hk hP K_ hK_ => ?_) (fun yv σ' hG hyv => ?_)
 ·obtain ⟨t1, rfl⟩ := hP
  have hk62 : k < 2 ^ 62 := by exact Nat.lt_trans hk ht62
  obtain ⟨b, hb, hbv⟩ := MQ htv (k := k) (by clear hsl; exact Nat.lt_of_lt_of_le hk (Nat.le_of_eq htl.symm))
  refine Cj (show ∃ y, (ins.map B2 ++ [[]])[k]? = some y from ⟨_, List.getElem?_eq_getElem (by simp; exact Nat.lt_of_lt_of_le (Nat.lt_of_lt_of_le hk (Nat.le_of_eq htl.symm)) (Nat.le_of_eq hsl))⟩) (fun y hy => ?_)
  obtain ⟨yv, hyv, t2, rfl⟩ := hpv.get' hy
  have hyl : y.length ≤ 306 := by
   rcases List.mem_append.mp (List.mem_of_getElem? hy) with hm | hm
   ·obtain ⟨o, ho, rfl⟩ := List.mem_map.mp hm
    have := Df o
    have := hins o ho
    lia
   ·rw [List.mem_singleton.mp hm]; simp
  rw [hb, hy] at hK_
  clear he
  with_reducible
   refine C0 (by assumption) (by tb_rel) (by top_caught) ?_
   refine Bj ?_
   refine hK_ _ _ ?_; clear hK_ K_
  refine ⟨rfl, fun _ => ?_, fun h => nomatch h⟩
  with_reducible
   refine Az ?_
   refine BS ?_
   refine BT ?_
   refine DW (E_c (by assumption) (by tb_rel) (by tb_rel) (by top_args)) (E_l (by assumption) (by tb_rel) (by tb_rel)) ?_
   refine Ac (by top_args) (by assumption) (by lia) ?_
   refine A1 ?_
  refine Ab (fun h => ?_) (fun h => ?_)
  ·subst h
   with_reducible
    refine Az ?_
    refine AP lit0 ?_; intro _
    refine Az ?_
    refine AC ?_; intro _
    refine Az ?_
    refine AJ (by assumption) (by tb_rel) (by tb_rel) ?_
    refine AC ?_; intro _
   refine JR (fun t3 => ?_)
   with_reducible
    refine Dk ?_; intro _
   rw [show (1 : Int) + ((k % 3 : Nat) : Int) = ((1 + k % 3 : Nat) : Int) from by rfl]
   refine L3 (by lia) (fun t4 => ?_)
   with_reducible
    refine DW (E_c (by assumption) (by tb_rel) (by tb_rel) (by top_args)) (E_l (by assumption) (by tb_rel) (by tb_rel)) ?_
    refine Ac (by top_args) (by assumption) (by lia) ?_
   refine BX (by rw [sizeLine_eq, List.length_replicate]; clear hk; lia) (fun t5 => ?_)
   exact ⟨⟨_, _, rfl⟩, fun x hx => hx, _, rfl⟩
  ·subst h
   with_reducible
    refine AP D3 ?_; intro _
    refine DW (E_c (by assumption) (by tb_rel) (by tb_rel) (by top_args)) (E_l (by assumption) (by tb_rel) (by tb_rel)) ?_
    refine Ac (by top_args) (by assumption) (by lia) ?_
   refine BX (by rw [sizeLine_eq, List.length_nil]; lia) (fun t5 => ?_)
   exact ⟨⟨_, _, rfl⟩, fun x hx => hx, _, rfl⟩
 clear he'
 rw [← htl] at hyv
 have hy := Je (T := fun x v => ∃ t, v = Value.str (S x) t) hyv
 refine ⟨_, fun p hp => .inl hp, fun D => ?_⟩
 dsimp only
 with_reducible
  refine A2 ?_
 refine K4 (sep := []) (by top_args) hy ?_ (fun t7 => ?_)
 ·rw [List.length_nil, Nat.mul_zero, Nat.add_zero]
  refine Nat.le_trans (HQ (B := 400) _ fun x hx => ?_) ?_
  ·obtain ⟨k, hk, rfl⟩ := List.mem_map.mp hx
   rw [List.length_append]
   have h1 : (if stars[k]?.getD false = true then List.replicate (1 + k % 3) 42 else []).length ≤ 3 := by split <;> simp; clear hx; lia
   have h2 : ((ins.map B2 ++ [[]])[k]?.getD []).length ≤ 306 := by
    cases hk : (ins.map B2 ++ [[]])[k]? with
    | none => simp
    | some z =>
     rw [Option.getD_some]
     rcases List.mem_append.mp (List.mem_of_getElem? hk) with hm | hm
     ·obtain ⟨one, ho, rfl⟩ := List.mem_map.mp hm
      have := Df one
      have := hins one ho
      lia
     ·rw [List.mem_singleton.mp hm]; simp
   lia
  ·rw [List.length_map, List.length_range]; lia
 rw [Dp, ← He]
 refine Am _ Rem.head ?_
 with_reducible
  refine A8 (by assumption) (by tb_rel) (by top_caught) ?_
 exact hQ _ _ _ _ fun x hx => by repeat (first | assumption | refine List.mem_cons_of_mem _ ?_ | refine List.mem_append_right _ ?_)
end
theorem HO.more {c : Cx} {P : Addr} {n k : Nat} {fn : Value} {vs : List Value} {fz : Led} {post : Value → Led → Prop} (h : HO c P n fn vs fz post) (hk : n ≤ k) : HO c P k fn vs fz post := fun A s o hr => h A s o (hr.less hk)
section
variable {c : Cx} {P L : Addr} {n : Nat} {σ : St} {e : Env} {l : Loc} {m f q : Led}
theorem PN {fn : Expr} {args : List Expr} {pos : Pos} {Q : Value → St → Prop} (h : V c L n (eval fn e) (fun fv σ₁ => W c P L n (callWith pos fv [] (backTo pos (starEach args e)) []) Q σ₁) σ)
  (he : eval (.Call fn args [] pos) e = (do callWith pos (← eval fn e) [] (backTo pos (starEach args e)) (backToKw pos (keywordEach [] e))) := by with_unfolding_all rfl) : W c P L n (eval (.Call fn args [] pos) e) Q σ := by
 rw [he]; exact W_bindV h
theorem JS {x : Expr} {rest : List Expr} {pos : Pos} {Q : List Value → St → Prop}
  (h : W c P L n (eval x e) (fun v σ₁ => W c P L n (spliced (backTo pos (starEach rest e))) (fun vs σ₂ => Q (v :: vs) σ₂) σ₁) σ)
  (he : starEach (x :: rest) e = (false, eval x e) :: starEach rest e := by with_unfolding_all rfl) : W c P L n (spliced (backTo pos (starEach (x :: rest) e))) Q σ :=
 fun A B s o hr hb hP hT ho hg ht => args_cons (wpAny_mono (wpAny_toks_of ht (h A B s o hr hb hP hT ho hg ht)) (fun v s' hp => by
  refine Ae (fun G_ hG_ => ?_)
  obtain ⟨ht', hg', hos, σ', o', hT', hw, hv⟩ := hp
  refine hG_ ?_
  clear hG_ G_
  have := hv A B s' o' hr hb hP hT' hw hg' ht'
  rwa [hos] at this) fun _ _ e => e.2) he
theorem Kx {a : Addr} {name : PySem.Str} {ps : List PySem.Str} {body : List Stmt} {scope : Scope} {pos : Pos} {args : List (Bool × Sem Value)} {Q : Value → St → Prop} (F : D0 c a name ps body scope)
  (h : W c P L n (spliced args) (fun vs σ₁ => W c P L n (call (.ref a) vs) Q σ₁) σ) (hp : args.any (·.1) = false := by with_unfolding_all rfl) : W c P L n (callWith pos (.ref a) [] args []) Q σ := by
 refine Ae (fun G_ hG_ => ?_)
 obtain ⟨o1, fd, ho1, hd, _⟩ := F.at'
 refine hG_ ?_
 clear hG_ G_
 exact fun A B s o hr hb hP hT ho hg ht => callWith_function (o := o1) (fd := fd) (AG hp (wpAny_mono (wpAny_toks_of ht (h A B s o hr hb hP hT ho hg ht)) (fun vs s₁ hp => by
  refine Ae (fun G_ hG_ => ?_)
  obtain ⟨ht', hg', hos, σ', o', hT', hw, hv⟩ := hp
  refine hG_ ?_
  clear hG_ G_
  have := hv A B s₁ o' hr hb hP hT' hw hg' ht'
  rw [hos] at this
  exact ⟨⟨hw.sub _ _ (By hb hP _ _ ho1), hd⟩, this⟩) fun _ _ e => e.2))
theorem MR (hc : c.Ok) (he : Ag e L [((ofString "script"), .local), ((ofString "lead"), .local), ((ofString "insides"), .local), ((ofString "stars"), .cell), ((ofString "x"), .local), ((ofString "sign"), .cell), ((ofString "pieces"), .cell), ((ofString "pattern"), .local), ((ofString "star"), .local), ((ofString "text"), .local), ((ofString "steps"), .cell), ((ofString "names"), .local), ((ofString "means"), .local), ((ofString "n"), .cell), ((ofString "taken"), .local), ((ofString "pin"), .cell), ((ofString "due"), .local), ((ofString "len"), .globalImplicit), ((ofString "range"), .globalImplicit), ((ofString "object"), .globalImplicit), ((ofString "_join_translated_parts"), .globalImplicit), ((ofString "_translate"), .globalImplicit), ((ofString "_law_steps"), .globalImplicit), ((ofString "max"), .globalImplicit), ((ofString "_law_many"), .globalImplicit)] [((ofString "pin"), L + 1 + 1 + 1 + 1 + 1 + 1), ((ofString "n"), L + 1 + 1 + 1 + 1 + 1), ((ofString "steps"), L + 1 + 1 + 1 + 1), ((ofString "pieces"), L + 1 + 1 + 1), ((ofString "sign"), L + 1 + 1), ((ofString "stars"), L + 1)]) (hob : c.mg (ofString "object") = none) (hob' : c.mb (ofString "object") = some (.type "object")) {w1 w2 w3 w4 w5 w6 w7 w8 w9 wa wb c1 c2 c3 c4 c5 c6 : Option Value} {ff fs : Led} {Q : Flow → St → Prop}
  (hQ : ∀ st ff', (∀ x ∈ ff, x ∈ ff') → Q .next ⟨[((ofString "script"), w1), ((ofString "lead"), w2), ((ofString "insides"), w3), ((ofString "x"), w4), ((ofString "pattern"), w5), ((ofString "star"), some (.ref st)), ((ofString "text"), w7), ((ofString "names"), w8), ((ofString "means"), w9), ((ofString "taken"), wa), ((ofString "due"), wb)], [(L + 1 + 1 + 1 + 1 + 1 + 1, .cell (c1)), (L + 1 + 1 + 1 + 1 + 1, .cell (c2)), (L + 1 + 1 + 1 + 1, .cell (c3)), (L + 1 + 1 + 1, .cell (c4)), (L + 1 + 1, .cell (c5)), (L + 1, .cell (c6))], ff', fs⟩) :
  V c L 3 (exec (Er 7) e) Q ⟨[((ofString "script"), w1), ((ofString "lead"), w2), ((ofString "insides"), w3), ((ofString "x"), w4), ((ofString "pattern"), w5), ((ofString "star"), w6), ((ofString "text"), w7), ((ofString "names"), w8), ((ofString "means"), w9), ((ofString "taken"), wa), ((ofString "due"), wb)], [(L + 1 + 1 + 1 + 1 + 1 + 1, .cell (c1)), (L + 1 + 1 + 1 + 1 + 1, .cell (c2)), (L + 1 + 1 + 1 + 1, .cell (c3)), (L + 1 + 1 + 1, .cell (c4)), (L + 1 + 1, .cell (c5)), (L + 1, .cell (c6))], ff, fs⟩ := by
 refine A3 ?_
 with_reducible
  refine HE (by assumption) (by assumption) (by tb_rel) (by assumption) (by assumption) ?_
  refine AI ?_
  refine A2 ?_
 refine P0 (fun st => ?_)
 with_reducible
  refine A8 (by assumption) (by tb_rel) (by top_caught) ?_
 exact hQ _ _ fun x hx => List.mem_cons_of_mem _ hx
theorem MS (hc : c.Ok) (he : Ag e L [((ofString "script"), .local), ((ofString "lead"), .local), ((ofString "insides"), .local), ((ofString "stars"), .cell), ((ofString "x"), .local), ((ofString "sign"), .cell), ((ofString "pieces"), .cell), ((ofString "pattern"), .local), ((ofString "star"), .local), ((ofString "text"), .local), ((ofString "steps"), .cell), ((ofString "names"), .local), ((ofString "means"), .local), ((ofString "n"), .cell), ((ofString "taken"), .local), ((ofString "pin"), .cell), ((ofString "due"), .local), ((ofString "len"), .globalImplicit), ((ofString "range"), .globalImplicit), ((ofString "object"), .globalImplicit), ((ofString "_join_translated_parts"), .globalImplicit), ((ofString "_translate"), .globalImplicit), ((ofString "_law_steps"), .globalImplicit), ((ofString "max"), .globalImplicit), ((ofString "_law_many"), .globalImplicit)] [((ofString "pin"), L + 1 + 1 + 1 + 1 + 1 + 1), ((ofString "n"), L + 1 + 1 + 1 + 1 + 1), ((ofString "steps"), L + 1 + 1 + 1 + 1), ((ofString "pieces"), L + 1 + 1 + 1), ((ofString "sign"), L + 1 + 1), ((ofString "stars"), L + 1)]) {aj at1' cc ra : Addr} (Fj : D0 c aj (ofString "_join_translated_parts") [(ofString "inp"), (ofString "STAR")] (Av 7) (Al 7)) (Ft : D0 c at1' (ofString "_translate") [(ofString "pat"), (ofString "STAR"), (ofString "QUESTION_MARK")] (Av 6) (Al 6))
  (hcc : ∃ o fd, c.b.get? at1' = some o ∧ o.data = .func fd ∧ fd.code = .ref cc)
  (C : CodeHd c.b cc P) (hPb : c.b.get? P = none) (hbi : c.b.BuiltinsAt c.mg P) (hra : F5 c.b ra) (hre : c.mg (ofString "_twin_re_1") = some (.ref ra))
  (hlen : c.mg (ofString "len") = none) (hlen' : c.mb (ofString "len") = some (.builtin "len")) (hran : c.mg (ofString "range") = none) (hran' : c.mb (ofString "range") = some (.type "range"))
  {ts : List Tk} {x : List Nat} (hx : x = (ts.map Tk.text).flatten) (hts : ∀ tk ∈ ts, tk.ok) (hrl : ∀ rr, Tk.br rr ∈ ts → rr.length ≤ 195) (hxl : x.length ≤ 900) (htl : (As ts).length ≤ 20) (htx : ∀ x, some x ∈ As ts → x.length ≤ 1000) (hno : HP (As ts))
  {tp : Tok} {st : Addr} {w1 w2 w3 w4 w5 w6 w7 w8 w9 wa wb c1 c2 c3 c4 c5 c6 : Option Value} {ff fs : Led} {Q : Flow → St → Prop}
  (hQ : ∀ t ff', (∀ x ∈ ff, x ∈ ff') → Q .next ⟨[((ofString "script"), w1), ((ofString "lead"), w2), ((ofString "insides"), w3), ((ofString "x"), w4), ((ofString "pattern"), some (.str (S x) tp)), ((ofString "star"), some (.ref st)), ((ofString "text"), some (.str (S (EF (As ts))) t)), ((ofString "names"), w8), ((ofString "means"), w9), ((ofString "taken"), wa), ((ofString "due"), wb)], [(L + 1 + 1 + 1 + 1 + 1 + 1, .cell (c1)), (L + 1 + 1 + 1 + 1 + 1, .cell (c2)), (L + 1 + 1 + 1 + 1, .cell (c3)), (L + 1 + 1 + 1, .cell (c4)), (L + 1 + 1, .cell (c5)), (L + 1, .cell (c6))], ff', fs⟩) :
  W c P L 3 (exec (Er 8) e) Q ⟨[((ofString "script"), w1), ((ofString "lead"), w2), ((ofString "insides"), w3), ((ofString "x"), w4), ((ofString "pattern"), some (.str (S x) tp)), ((ofString "star"), some (.ref st)), ((ofString "text"), w7), ((ofString "names"), w8), ((ofString "means"), w9), ((ofString "taken"), wa), ((ofString "due"), wb)], [(L + 1 + 1 + 1 + 1 + 1 + 1, .cell (c1)), (L + 1 + 1 + 1 + 1 + 1, .cell (c2)), (L + 1 + 1 + 1 + 1, .cell (c3)), (L + 1 + 1 + 1, .cell (c4)), (L + 1 + 1, .cell (c5)), (L + 1, .cell (c6))], ff, fs⟩ := by
 refine C7 ?_
 refine PN ?_
 refine BW (DU hc he (by tb_rel) Fj ?_)
 refine Kx Fj ?_
 refine JS ?_
 refine PN ?_
 refine BW (DU hc he (by tb_rel) Ft ?_)
 refine Kx Ft ?_
 refine Dt ?_
 with_reducible
  refine LC (E_l (by assumption) (by tb_rel) (by tb_rel)) ?_
  refine LC (E_l (by assumption) (by tb_rel) (by tb_rel)) ?_
  refine FE lit29 ?_; intro _
 refine W_own hPb (HO.more (L1 hc Ft hcc C hPb hbi hra hre hlen hlen' hran hran' hx hts hrl hxl) (by decide)) (fun p hp => nomatch hp) (fun v nz hv => ?_)
 refine Ae (fun G_ hG_ => ?_)
 obtain ⟨r, vs, rfl, rfl, hvs⟩ := hv
 refine hG_ ?_
 clear hG_ G_
 refine Dt ?_
 with_reducible
  refine DV (E_l (by assumption) (by tb_rel) (by tb_rel)) ?_
 refine Dt ?_
 refine Hr (Hp.more (Ma hc Fj hlen hlen' (fs := [(r, D.list vs)]) List.mem_cons_self hvs htl htx hno) (by decide)) (fun p hp => ?_) (fun v nz hv => ?_)
 ·rw [List.mem_singleton.mp hp]; exact .inr (.inl List.mem_cons_self)
 obtain ⟨t, rfl, rfl⟩ := hv
 with_reducible
  refine A8 (by assumption) (by tb_rel) (by top_caught) ?_
 exact hQ _ _ fun x hx => List.mem_cons_of_mem _ hx
theorem Pm (hc : c.Ok) (he : Ag e L [((ofString "script"), .local), ((ofString "lead"), .local), ((ofString "insides"), .local), ((ofString "stars"), .cell), ((ofString "x"), .local), ((ofString "sign"), .cell), ((ofString "pieces"), .cell), ((ofString "pattern"), .local), ((ofString "star"), .local), ((ofString "text"), .local), ((ofString "steps"), .cell), ((ofString "names"), .local), ((ofString "means"), .local), ((ofString "n"), .cell), ((ofString "taken"), .local), ((ofString "pin"), .cell), ((ofString "due"), .local), ((ofString "len"), .globalImplicit), ((ofString "range"), .globalImplicit), ((ofString "object"), .globalImplicit), ((ofString "_join_translated_parts"), .globalImplicit), ((ofString "_translate"), .globalImplicit), ((ofString "_law_steps"), .globalImplicit), ((ofString "max"), .globalImplicit), ((ofString "_law_many"), .globalImplicit)] [((ofString "pin"), L + 1 + 1 + 1 + 1 + 1 + 1), ((ofString "n"), L + 1 + 1 + 1 + 1 + 1), ((ofString "steps"), L + 1 + 1 + 1 + 1), ((ofString "pieces"), L + 1 + 1 + 1), ((ofString "sign"), L + 1 + 1), ((ofString "stars"), L + 1)]) {a1 a2 a : Addr} (F1 : D0 c a1 (ofString "_law_one") [(ofString "text"), (ofString "k")] (Av 11) (Al 11)) (F2 : D0 c a2 (ofString "_law_set") [(ofString "text"), (ofString "k")] (Av 12) (Al 12)) (F : D0 c a (ofString "_law_steps") [(ofString "text")] (Av 13) (Al 13))
  (hlen : c.mg (ofString "len") = none) (hlen' : c.mb (ofString "len") = some (.builtin "len")) {x : List Nat} {t : Tok} (hx : x.length ≤ 2 ^ 16) {st : List Stp} (hst : C6 (cut x (some 4) (some (-3))) = some st) {w1 w2 w3 w4 w5 w6 w7 w8 w9 wa wb c1 c2 c3 c4 c5 c6 : Option Value} {ff fs : Led} {Q : Flow → St → Prop}
  (hQ : ∀ r vs nz ff', (∀ x ∈ ff, x ∈ ff') → (∀ x ∈ nz, x ∈ ff') → (r, D.list vs) ∈ nz → AA (DZ nz) st vs → Q .next ⟨[((ofString "script"), w1), ((ofString "lead"), w2), ((ofString "insides"), w3), ((ofString "x"), w4), ((ofString "pattern"), w5), ((ofString "star"), w6), ((ofString "text"), some (.str (S x) t)), ((ofString "names"), w8), ((ofString "means"), w9), ((ofString "taken"), wa), ((ofString "due"), wb)], [(L + 1 + 1 + 1 + 1 + 1 + 1, .cell (c1)), (L + 1 + 1 + 1 + 1 + 1, .cell (c2)), (L + 1 + 1 + 1 + 1, .cell (some (.ref r))), (L + 1 + 1 + 1, .cell (c4)), (L + 1 + 1, .cell (c5)), (L + 1, .cell (c6))], ff', fs⟩) :
  V c L 3 (exec (Er 9) e) Q ⟨[((ofString "script"), w1), ((ofString "lead"), w2), ((ofString "insides"), w3), ((ofString "x"), w4), ((ofString "pattern"), w5), ((ofString "star"), w6), ((ofString "text"), some (.str (S x) t)), ((ofString "names"), w8), ((ofString "means"), w9), ((ofString "taken"), wa), ((ofString "due"), wb)], [(L + 1 + 1 + 1 + 1 + 1 + 1, .cell (c1)), (L + 1 + 1 + 1 + 1 + 1, .cell (c2)), (L + 1 + 1 + 1 + 1, .cell (c3)), (L + 1 + 1 + 1, .cell (c4)), (L + 1 + 1, .cell (c5)), (L + 1, .cell (c6))], ff, fs⟩ := by
 have hs : x.length ≤ sizeLine := by rw [sizeLine_eq]; exact Nat.le_trans (by assumption) (by decide)
 have hcl : (cut x (some 4) (some (-3))).length ≤ 2 ^ 16 := by
  unfold cut
  rw [List.length_drop, List.length_take]
  exact Nat.le_trans (Nat.le_trans (Nat.sub_le _ _) (Nat.min_le_right _ _)) hx
 refine A3 ?_
 with_reducible
  refine Q6 (by assumption) (by assumption) (by tb_rel) (by assumption) ?_
  refine A0 ?_
  refine F3 (BL (Bs (by assumption) (by tb_rel) (by tb_rel)) (Ax Ak) (Ax (EV Ak)) (by assumption)) ?_; intro _
  refine A2 ?_
 refine Hr (KQ hc F1 F2 F hlen hlen' hcl) (fun p hp => nomatch hp) (fun v nz hv => ?_)
 rw [hst] at hv
 refine Ae (fun G_ hG_ => ?_)
 obtain ⟨r, vs, rfl, hr, hvs⟩ := hv
 refine hG_ ?_
 clear hG_ G_
 with_reducible
  refine Aj (by assumption) (by tb_rel) (by tb_rel) (by top_caught) ?_
 exact hQ _ _ _ _ (fun x hx => List.mem_append_right _ hx) (fun x hx => List.mem_append_left _ hx) hr hvs
theorem law_ten (hc : c.Ok) (he : Ag e L [((ofString "script"), .local), ((ofString "lead"), .local), ((ofString "insides"), .local), ((ofString "stars"), .cell), ((ofString "x"), .local), ((ofString "sign"), .cell), ((ofString "pieces"), .cell), ((ofString "pattern"), .local), ((ofString "star"), .local), ((ofString "text"), .local), ((ofString "steps"), .cell), ((ofString "names"), .local), ((ofString "means"), .local), ((ofString "n"), .cell), ((ofString "taken"), .local), ((ofString "pin"), .cell), ((ofString "due"), .local), ((ofString "len"), .globalImplicit), ((ofString "range"), .globalImplicit), ((ofString "object"), .globalImplicit), ((ofString "_join_translated_parts"), .globalImplicit), ((ofString "_translate"), .globalImplicit), ((ofString "_law_steps"), .globalImplicit), ((ofString "max"), .globalImplicit), ((ofString "_law_many"), .globalImplicit)] [((ofString "pin"), L + 1 + 1 + 1 + 1 + 1 + 1), ((ofString "n"), L + 1 + 1 + 1 + 1 + 1), ((ofString "steps"), L + 1 + 1 + 1 + 1), ((ofString "pieces"), L + 1 + 1 + 1), ((ofString "sign"), L + 1 + 1), ((ofString "stars"), L + 1)]) {x : List Nat} {t : Tok} {r : Addr} (hx : x.length ≤ 2 ^ 16) (h1 : cut x none (some 4) = [40, 63, 115, 58]) (h2 : cut x (some (-3)) none = [41, 92, 90]) {w1 w2 w3 w4 w5 w6 w7 w8 w9 wa wb c1 c2 c3 c4 c5 c6 : Option Value} {ff fs : Led} {Q : Flow → St → Prop}
  (hQ : ∀ ff', (∀ x ∈ ff, x ∈ ff') → Q .next ⟨[((ofString "script"), w1), ((ofString "lead"), w2), ((ofString "insides"), w3), ((ofString "x"), w4), ((ofString "pattern"), w5), ((ofString "star"), w6), ((ofString "text"), some (.str (S x) t)), ((ofString "names"), w8), ((ofString "means"), w9), ((ofString "taken"), wa), ((ofString "due"), wb)], [(L + 1 + 1 + 1 + 1 + 1 + 1, .cell (c1)), (L + 1 + 1 + 1 + 1 + 1, .cell (c2)), (L + 1 + 1 + 1 + 1, .cell (some (.ref r))), (L + 1 + 1 + 1, .cell (c4)), (L + 1 + 1, .cell (c5)), (L + 1, .cell (c6))], ff', fs⟩) :
  V c L 3 (exec (Er 10) e) Q ⟨[((ofString "script"), w1), ((ofString "lead"), w2), ((ofString "insides"), w3), ((ofString "x"), w4), ((ofString "pattern"), w5), ((ofString "star"), w6), ((ofString "text"), some (.str (S x) t)), ((ofString "names"), w8), ((ofString "means"), w9), ((ofString "taken"), wa), ((ofString "due"), wb)], [(L + 1 + 1 + 1 + 1 + 1 + 1, .cell (c1)), (L + 1 + 1 + 1 + 1 + 1, .cell (c2)), (L + 1 + 1 + 1 + 1, .cell (some (.ref r))), (L + 1 + 1 + 1, .cell (c4)), (L + 1 + 1, .cell (c5)), (L + 1, .cell (c6))], ff, fs⟩ := by
 have hs : x.length ≤ sizeLine := by rw [sizeLine_eq]; exact Nat.le_of_lt (Nat.lt_of_le_of_lt hx (by decide))
 refine Qd ?_
 with_reducible
  refine Ai ?_
  refine Be ?_
  refine Ct (Aq (BL (Bs (by assumption) (by tb_rel) (by tb_rel)) FB (Ax Ak) (by assumption)) (AY Nj) Hz) ?_
 rw [h1]
 with_reducible
  refine Ad (by decide) ?_
  refine Be ?_
  refine Ct (Aq (BL (Bs (by assumption) (by tb_rel) (by tb_rel)) (Ax (EV Ak)) FB (by assumption)) (AY Nk) Hz) ?_
 rw [h2]
 with_reducible
  refine Ad (by decide) ?_
  refine Be ?_
  refine A4 ?_
  refine B4 (by assumption) (by tb_rel) (by tb_rel) (by top_args) ?_
  refine Fv ?_
 refine Hc ?_
 with_reducible
  refine A1 ?_
  refine Ad (by decide) ?_
  refine E6 ?_
  refine Ad (by decide) ?_
  refine Au ?_
 exact hQ _ fun x hx => by repeat (first | assumption | refine List.mem_cons_of_mem _ ?_ | refine List.mem_append_right _ ?_)
end
theorem AA.imp {α β : Type} {R R' : α → β → Prop} (f : ∀ a b, R a b → R' a b) {as : List α} {bs : List β} (h : AA R as bs) : AA R' as bs := by
 induction h with
 | nil => exact .nil
 | cons h1 _ ih => exact .cons (f _ _ h1) ih
theorem Da.mono {f f' : Led} {p : List Nat} {v : Value} (hf : ∀ x ∈ f, x ∈ f') (h : Da f p v) : Da f' p v := by
 refine Ae (fun G_ hG_ => ?_)
 obtain ⟨a, vs, h1, h2, h3⟩ := h
 refine hG_ ?_
 clear hG_ G_
 exact ⟨a, vs, h1, hf _ h2, h3⟩
section
variable {c : Cx} {L : Addr} {n : Nat} {σ : St} {e : Env}
theorem Lx (hc : c.Ok) (he : Ag e L [((ofString "script"), .local), ((ofString "lead"), .local), ((ofString "insides"), .local), ((ofString "stars"), .cell), ((ofString "x"), .local), ((ofString "sign"), .cell), ((ofString "pieces"), .cell), ((ofString "pattern"), .local), ((ofString "star"), .local), ((ofString "text"), .local), ((ofString "steps"), .cell), ((ofString "names"), .local), ((ofString "means"), .local), ((ofString "n"), .cell), ((ofString "taken"), .local), ((ofString "pin"), .cell), ((ofString "due"), .local), ((ofString "len"), .globalImplicit), ((ofString "range"), .globalImplicit), ((ofString "object"), .globalImplicit), ((ofString "_join_translated_parts"), .globalImplicit), ((ofString "_translate"), .globalImplicit), ((ofString "_law_steps"), .globalImplicit), ((ofString "max"), .globalImplicit), ((ofString "_law_many"), .globalImplicit)] [((ofString "pin"), L + 1 + 1 + 1 + 1 + 1 + 1), ((ofString "n"), L + 1 + 1 + 1 + 1 + 1), ((ofString "steps"), L + 1 + 1 + 1 + 1), ((ofString "pieces"), L + 1 + 1 + 1), ((ofString "sign"), L + 1 + 1), ((ofString "stars"), L + 1)]) {am : Addr} (F : D0 c am (ofString "_law_means") [(ofString "inside")] (Av 9) (Al 9)) (hlen : c.mg (ofString "len") = none) (hlen' : c.mb (ofString "len") = some (.builtin "len"))
  {ins : List (List Nat)} {iv : List Value} (hiv : Bk ins iv) (hins : ∀ o ∈ ins, o.length ≤ 300) (hil : ins.length ≤ 4) {ia : Addr} {w1 w2 w3 w4 w5 w6 w7 w8 w9 wa wb c1 c2 c3 c4 c5 c6 : Option Value} {ff fs : Led} {Q : Flow → St → Prop} (hia : (ia, D.list iv) ∈ ff)
  (hQ : ∀ nr mr t0 mv ff', (∀ x ∈ ff, x ∈ ff') → (nr, D.list [.str (S []) t0]) ∈ ff' → (mr, D.list mv) ∈ ff' → AA (Da ff') (ins.map CW) mv → Q .next ⟨[((ofString "script"), w1), ((ofString "lead"), w2), ((ofString "insides"), some (.ref ia)), ((ofString "x"), w4), ((ofString "pattern"), w5), ((ofString "star"), w6), ((ofString "text"), w7), ((ofString "names"), some (.ref nr)), ((ofString "means"), some (.ref mr)), ((ofString "taken"), wa), ((ofString "due"), wb)], [(L + 1 + 1 + 1 + 1 + 1 + 1, .cell (c1)), (L + 1 + 1 + 1 + 1 + 1, .cell (c2)), (L + 1 + 1 + 1 + 1, .cell (c3)), (L + 1 + 1 + 1, .cell (c4)), (L + 1 + 1, .cell (c5)), (L + 1, .cell (c6))], ff', fs⟩) :
  V c L 3 (exec (Er 11) e) Q ⟨[((ofString "script"), w1), ((ofString "lead"), w2), ((ofString "insides"), some (.ref ia)), ((ofString "x"), w4), ((ofString "pattern"), w5), ((ofString "star"), w6), ((ofString "text"), w7), ((ofString "names"), w8), ((ofString "means"), w9), ((ofString "taken"), wa), ((ofString "due"), wb)], [(L + 1 + 1 + 1 + 1 + 1 + 1, .cell (c1)), (L + 1 + 1 + 1 + 1 + 1, .cell (c2)), (L + 1 + 1 + 1 + 1, .cell (c3)), (L + 1 + 1 + 1, .cell (c4)), (L + 1 + 1, .cell (c5)), (L + 1, .cell (c6))], ff, fs⟩ := by
 have hl := hiv.length
 refine Jd ?_
 refine Jd ?_
 refine BV (a := (ofString "names")) (b := (ofString "means")) ?_ ?_
 rotate_left
 ·with_unfolding_all exact sw2 (by assumption) (by tb_rel) (by tb_rel) rfl
 with_reducible
  refine Aw ?_
  refine A0 ?_
  refine Bo ?_
  refine FE D3 ?_; intro _
  refine Ao (by with_unfolding_all exact Nat.le_of_ble_eq_true rfl) ?_; intro _
  refine A0 ?_
 refine' BJ he ?cc1 ?cg1
 case cc1 => exact ⟨CH rfl, rfl, by decide, by decide, by dsimp only; repeat first | exact B5.nil | (apply B5.free; focus tb_rel) | (apply B5.other; focus decide), ⟨fun _ _ => by with_unfolding_all rfl, trivial⟩⟩
 with_reducible
  refine AJ (by assumption) (by tb_rel) (by tb_rel) ?_
 refine ⟨_, _, [ia], BP.list (.inl hia), (fun x hx => .inl (by rw [List.mem_singleton.mp hx]; exact List.mem_map_of_mem (f := (·.1)) hia)), fun C e' he' _ _ => ?_⟩
 have he' : Ag e' C [((ofString ".0"), .local), ((ofString "one"), .local), ((ofString "_law_means"), .globalImplicit)] [] := he'
 show Bw c C _ e' _ _ sizeLine _ _ _ ⟨[((ofString ".0"), none), ((ofString "one"), none)], [], [], _⟩
 refine Bg (fun i => opt (fun _ => true) ins[i]?) (fun i y f => ∃ o, ins[i]? = some o ∧ Da f (CW o) y) (by rw [sizeLine_eq]; exact Nat.lt_of_le_of_lt (Nat.le_trans (Nat.le_of_eq hl.symm) hil) (by decide)) (fun i y f f' hf h => by obtain ⟨o, h1, h2⟩ := h; exact ⟨o, h1, h2.mono hf⟩) (fun i v w f3 hi hP K_ hK_ => ?_) (fun yv σ' hG hyv => ?_)
 ·obtain ⟨o, ho, t1, rfl⟩ := hiv.get hP
  rw [ho] at hK_
  have ho3 := hins o (List.mem_of_getElem? ho)
  clear he
  with_reducible
   refine C0 (by assumption) (by tb_rel) (by top_caught) ?_
   refine Bj ?_
   refine hK_ _ _ ?_; clear hK_ K_
  refine ⟨rfl, fun _ => ?_, fun h => nomatch h⟩
  with_reducible
   refine BS ?_
   refine Ct (Aq (Bs (by assumption) (by tb_rel) (by tb_rel)) (AY D3) B9) ?_
  by_cases h0 : o = []
  ·refine A9 (by rw [decide_eq_true_eq]; exact h0) ?_
   refine Jd ?_
   with_reducible
    refine Bo ?_
    refine Q5 LL PU PV ?_; intro _ _ _
    refine Ao (by with_unfolding_all exact Nat.le_of_ble_eq_true rfl) ?_; intro _
   refine ⟨_, _, _, Rem.head, ⟨_, _, rfl⟩, fun x hx => List.mem_cons_of_mem _ hx, o, rfl, ?_⟩
   unfold CW
   rw [if_pos h0]
   exact ⟨_, _, rfl, List.mem_cons_self, .cons ⟨_, rfl⟩ (.cons ⟨_, rfl⟩ (.cons ⟨_, rfl⟩ .nil))⟩
  ·refine Ad (by rw [decide_eq_true_eq]; exact h0) ?_
   with_reducible
    refine Q6 (by assumption) (by assumption) (by tb_rel) (by assumption) ?_
    refine DV (E_l (by assumption) (by tb_rel) (by tb_rel)) ?_
   refine Hr (Hp.more (KO hc F hlen hlen' (by exact Nat.le_trans (by assumption) (by decide))) (by decide)) (fun p hp => nomatch hp) (fun v nz hv => ?_)
   refine Ae (fun G_ hG_ => ?_)
   obtain ⟨r, ys, rfl, rfl, hys⟩ := hv
   refine hG_ ?_
   clear hG_ G_
   refine ⟨⟨_, _, rfl⟩, fun x hx => List.mem_append_right _ hx, o, rfl, ?_⟩
   unfold CW
   rw [if_neg h0]
   exact ⟨_, _, rfl, List.mem_append_left _ List.mem_cons_self, hys⟩
 clear he'
 rw [← hl] at hyv
 have hy := (BN [] hyv).map (R' := Da σ'.fz) CW fun a _ b hab => hab
 rw [show ins.filter (fun _ => true) = ins from List.filter_eq_self.mpr fun _ _ => rfl] at hy
 refine ⟨_, fun p hp => .inl hp, fun D => ?_⟩
 dsimp only
 with_reducible
  refine A2 ?_
  refine A6 (by with_unfolding_all exact Nat.le_of_ble_eq_true rfl) ?_; intro _
  ((show ∃ _ _ _, _ = _ ∧ Has _ _ _ ∧ V _ _ _ _ _ _); refine ⟨_, _, _, rfl, (by top_args), ?_⟩)
  refine A8 (by assumption) (by tb_rel) (by top_caught) ?_
  refine A8 (by assumption) (by tb_rel) (by top_caught) ?_
 refine ⟨_, _, _, Rem.head, _, _, _, Rem.head, hQ _ _ _ _ _ (fun x hx => ?_) (by tb_rel) (by tb_rel) ?_⟩
 ·repeat (first | assumption | refine List.mem_cons_of_mem _ ?_ | refine List.mem_append_right _ ?_)
 ·refine AA.imp ?_ hy
  exact fun _ _ h => h.mono fun x hx => by repeat (first | exact List.mem_append_left _ hx | refine List.mem_cons_of_mem _ ?_)
end
noncomputable def Qa : Stmt → List Stmt
 | .For _ _ b _ _ => b
 | _ => []
noncomputable def MT : List Stmt := Qa (Er 12)
noncomputable def bodyIn : List Stmt := Qa (sAt (Qa (sAt MT 1)) 0)
theorem DZ.sub {f f' : Led} {s : Stp} {v : Value} (hf : ∀ x ∈ f, x ∈ f') (h : DZ f s v) : DZ f' s v := by
 cases s with
 | set l => obtain ⟨a, vs, h1, h2, h3⟩ := h; exact ⟨a, vs, h1, hf _ h2, h3⟩
 | _ => exact h
theorem any_isI (k : Nat) : ∀ {is : List Nat} {vs : List Value}, PA is vs → vs.any (isI k) = is.contains k := by
 intro is vs t
 induction t with
 | nil => rfl
 | @cons i v is vs h1 t ih =>
  obtain ⟨t6, rfl⟩ := h1
  rw [List.any_cons, List.contains_cons, ih]
  congr 1
  show (((i : Nat) : Int) == (k : Int)) = (k == i)
  rw [Bool.eq_iff_iff]; simp only [beq_iff_eq]; lia
section
variable {c : Cx} {L : Addr} {n : Nat} {σ : St} {e : Env}
theorem MU {a : Addr} {vs : List Value} {ns : List Nat} {k : Nat} {t : Tok} {Q : Value → St → Prop} (ha : Has σ a (.list vs)) (hn : PA ns vs) (h : Q (.bool (ns.contains k)) σ) : V c L n (compareOp .In (.int (k : Nat) t) (.ref a)) Q σ := by
 refine Fy (isI k) ha (fun y hy => ?_) ?_
 ·refine Ae (fun G_ hG_ => ?_)
  obtain ⟨j, hj, rfl⟩ := List.getElem_of_mem hy
  obtain ⟨i, _, t5, e5⟩ := hn.get (List.getElem?_eq_getElem hj)
  refine hG_ ?_
  clear hG_ G_
  rw [e5]
  exact EqV.ints
 ·rw [any_isI k hn]; exact h
theorem MV (hc : c.Ok) (he : Ag e L [((ofString "script"), .local), ((ofString "lead"), .local), ((ofString "insides"), .local), ((ofString "stars"), .cell), ((ofString "x"), .local), ((ofString "sign"), .cell), ((ofString "pieces"), .cell), ((ofString "pattern"), .local), ((ofString "star"), .local), ((ofString "text"), .local), ((ofString "steps"), .cell), ((ofString "names"), .local), ((ofString "means"), .local), ((ofString "n"), .cell), ((ofString "taken"), .local), ((ofString "pin"), .cell), ((ofString "due"), .local), ((ofString "len"), .globalImplicit), ((ofString "range"), .globalImplicit), ((ofString "object"), .globalImplicit), ((ofString "_join_translated_parts"), .globalImplicit), ((ofString "_translate"), .globalImplicit), ((ofString "_law_steps"), .globalImplicit), ((ofString "max"), .globalImplicit), ((ofString "_law_many"), .globalImplicit)] [((ofString "pin"), L + 1 + 1 + 1 + 1 + 1 + 1), ((ofString "n"), L + 1 + 1 + 1 + 1 + 1), ((ofString "steps"), L + 1 + 1 + 1 + 1), ((ofString "pieces"), L + 1 + 1 + 1), ((ofString "sign"), L + 1 + 1), ((ofString "stars"), L + 1)]) {ae : Addr} (F : D0 c ae (ofString "_law_ends") [(ofString "steps"), (ofString "name")] (Av 14) (Al 14)) (hlen : c.mg (ofString "len") = none) (hlen' : c.mb (ofString "len") = some (.builtin "len")) (hran : c.mg (ofString "range") = none) (hran' : c.mb (ofString "range") = some (.type "range"))
  {i : Nat} (hi : i < 5) {nv sv : List Value} {nr sr : Addr} {st : List Stp} {ti : Tok} {w1 w2 w3 w4 w5 w6 w7 w8 w9 wa wb c1 c2 c3 c4 c5 c6 : Option Value} {ff fs : Led} {Q : Flow → St → Prop} (hnr : (nr, D.list nv) ∈ ff) (hnv : Bk (AR i) nv) (hsr : (sr, D.list sv) ∈ ff) (hsv : AA (DZ ff) st sv)
  (hroom : ∀ w ∈ AR i, ∀ k, (DO w (st.take k) [(0, 0)]).length ≤ 1000)
  (hQ : ∀ tr tv ff', (∀ x ∈ ff, x ∈ ff') → (tr, D.list tv) ∈ ff' → Bk ((AR i).filter fun w => (Nx st w).contains i) tv → Q .next ⟨[((ofString "script"), w1), ((ofString "lead"), w2), ((ofString "insides"), w3), ((ofString "x"), w4), ((ofString "pattern"), w5), ((ofString "star"), w6), ((ofString "text"), w7), ((ofString "names"), some (.ref nr)), ((ofString "means"), w9), ((ofString "taken"), some (.ref tr)), ((ofString "due"), wb)], [(L + 1 + 1 + 1 + 1 + 1 + 1, .cell (c1)), (L + 1 + 1 + 1 + 1 + 1, .cell (some (.int (i : Nat) ti))), (L + 1 + 1 + 1 + 1, .cell (some (.ref sr))), (L + 1 + 1 + 1, .cell (c4)), (L + 1 + 1, .cell (c5)), (L + 1, .cell (c6))], ff', fs⟩) :
  V c L 3 (exec (sAt MT 0) e) Q ⟨[((ofString "script"), w1), ((ofString "lead"), w2), ((ofString "insides"), w3), ((ofString "x"), w4), ((ofString "pattern"), w5), ((ofString "star"), w6), ((ofString "text"), w7), ((ofString "names"), some (.ref nr)), ((ofString "means"), w9), ((ofString "taken"), wa), ((ofString "due"), wb)], [(L + 1 + 1 + 1 + 1 + 1 + 1, .cell (c1)), (L + 1 + 1 + 1 + 1 + 1, .cell (some (.int (i : Nat) ti))), (L + 1 + 1 + 1 + 1, .cell (some (.ref sr))), (L + 1 + 1 + 1, .cell (c4)), (L + 1 + 1, .cell (c5)), (L + 1, .cell (c6))], ff, fs⟩ := by
 have hl := hnv.length
 have hnl := CA i
 have h4 : 4 ^ i ≤ 4 ^ 4 := Nat.pow_le_pow_right (by exact Nat.succ_pos _) (by lia)
 refine Jd ?_
 refine' BK he ?cc1 (by tb_rel) ?cg1
 case cc1 => exact ⟨CH rfl, rfl, by decide, by decide, by dsimp only; repeat first | exact B5.nil | (apply B5.free; focus tb_rel) | (apply B5.other; focus decide), ⟨fun _ _ => by with_unfolding_all rfl, trivial⟩⟩
 with_reducible
  refine AJ (by assumption) (by tb_rel) (by tb_rel) ?_
 refine ⟨_, _, [nr], BP.list (.inl hnr), (fun x hx => .inl (by rw [List.mem_singleton.mp hx]; exact List.mem_map_of_mem (f := (·.1)) hnr)), fun C e' he' _ _ => ?_⟩
 have he' : Ag e' C [((ofString ".0"), .local), ((ofString "name"), .local), ((ofString "_law_ends"), .globalImplicit), ((ofString "n"), .cell), ((ofString "steps"), .cell)] [((ofString "steps"), L + 1 + 1 + 1 + 1), ((ofString "n"), L + 1 + 1 + 1 + 1 + 1)] := he'
 show Bw c C _ e' _ _ sizeLine _ _ _ ⟨[((ofString ".0"), none), ((ofString "name"), none)], [], [], _⟩
 refine Bg (fun j => opt (fun w => (Nx st w).contains i) (AR i)[j]?) (fun j y f => ∃ w, (AR i)[j]? = some w ∧ ∃ t, y = .str (S w) t) (by rw [sizeLine_eq]; exact Nat.lt_of_le_of_lt (Nat.le_trans (Nat.le_trans (Nat.le_of_eq hl.symm) (Nat.le_of_eq hnl)) h4) (by decide)) (fun j y f f' hf h => h) (fun j v w f3 hj hP K_ hK_ => ?_) (fun yv σ' hG hyv => ?_)
 ·obtain ⟨w, hw, t1, rfl⟩ := hnv.get hP
  rw [hw] at hK_
  have hwm := List.mem_of_getElem? hw
  have hwl := BI i w hwm
  clear he
  with_reducible
   refine C0 (by assumption) (by tb_rel) (by top_caught) ?_
   refine Bl ?_
   refine A4 ?_
   refine B4 (by assumption) (by tb_rel) (by tb_rel) (by top_args) ?_
   refine Q6 (by assumption) (by assumption) (by tb_rel) (by assumption) ?_
   refine HD (E_c (by assumption) (by tb_rel) (by tb_rel) (by top_args)) (E_l (by assumption) (by tb_rel) (by tb_rel)) ?_
  refine Hr (Hp.more (M4 hc F hlen hlen' hran hran' (fs := ff) hsr hsv (by lia) (hroom w hwm)) (by decide)) (fun p hp => .inr (.inr (List.mem_append_right _ (List.mem_append_left _ hp)))) (fun v nz hv => ?_)
  refine Ae (fun G_ hG_ => ?_)
  obtain ⟨r, ys, rfl, rfl, hys⟩ := hv
  refine hG_ ?_
  clear hG_ G_
  refine MU (.inr (.inl List.mem_cons_self)) hys ?_
  with_reducible
   refine A1 ?_
  refine Ab (fun h => ?_) (fun h => ?_)
  ·with_reducible
    refine Bj ?_
    refine hK_ _ _ ?_; clear hK_ K_
   refine ⟨h.symm, fun _ => ?_, fun h => nomatch h⟩
   with_reducible
    refine AJ (by assumption) (by tb_rel) (by tb_rel) ?_
   exact ⟨⟨_, _, rfl⟩, fun x hx => List.mem_cons_of_mem _ hx, w, rfl, _, rfl⟩
  ·exact hK_ _ _ ⟨h.symm, (fun h => nomatch h), fun _ => ⟨⟨_, _, rfl⟩, fun x hx => List.mem_cons_of_mem _ hx⟩⟩
 clear he'
 rw [← hl] at hyv
 have hy := BN (R := fun x v => ∃ t, v = Value.str (S x) t) [] hyv
 refine ⟨_, fun p hp => .inl hp, fun D => ?_⟩
 dsimp only
 with_reducible
  refine A8 (by assumption) (by tb_rel) (by top_caught) ?_
 refine ⟨_, _, _, Rem.head, hQ _ _ _ (fun x hx => ?_) List.mem_cons_self hy⟩
 repeat (first | assumption | refine List.mem_cons_of_mem _ ?_ | refine List.mem_append_right _ ?_)
end
noncomputable def isTx (y : List Nat) : Value → Bool
 | .str x _ => x == S y
 | _ => false
theorem Pn (w : List Nat) (pin s : Nat) (t u : Tok) : [Value.str (S []) t, Value.str (S [s]) u].any (isTx (at1 w pin)) = El w pin s := by
 show ((S [] == S (at1 w pin)) || ((S [s] == S (at1 w pin)) || false)) = _
 unfold El
 rw [Ga, Ga, Bool.or_false]
 rw [Bool.eq_iff_iff]
 simp only [Bool.or_eq_true, decide_eq_true_eq]
 rw [eq_comm, eq_comm (a := [s])]
section
variable {c : Cx} {L : Addr} {n : Nat} {σ : St} {e : Env}
theorem MW {a : Addr} {w : List Nat} {pin s : Nat} {t u v : Tok} {Q : Value → St → Prop} (ha : Has σ a (.tup [.str (S []) t, .str (S [s]) u])) (h : Q (.bool (El w pin s)) σ) : V c L n (compareOp .In (.str (S (at1 w pin)) v) (.ref a)) Q σ := by
 refine Ff (isTx (at1 w pin)) ha (fun y hy => ?_) (by rw [Pn]; exact h)
 rcases List.mem_cons.mp hy with rfl | hy
 ·show EqV _ _ _ (S [] == S _)
  rw [Ga]; exact EqV.strs
 ·rw [List.mem_singleton.mp hy]
  show EqV _ _ _ (S [s] == S _)
  rw [Ga]; exact EqV.strs
theorem law_due (hc : c.Ok) (he : Ag e L [((ofString "script"), .local), ((ofString "lead"), .local), ((ofString "insides"), .local), ((ofString "stars"), .cell), ((ofString "x"), .local), ((ofString "sign"), .cell), ((ofString "pieces"), .cell), ((ofString "pattern"), .local), ((ofString "star"), .local), ((ofString "text"), .local), ((ofString "steps"), .cell), ((ofString "names"), .local), ((ofString "means"), .local), ((ofString "n"), .cell), ((ofString "taken"), .local), ((ofString "pin"), .cell), ((ofString "due"), .local), ((ofString "len"), .globalImplicit), ((ofString "range"), .globalImplicit), ((ofString "object"), .globalImplicit), ((ofString "_join_translated_parts"), .globalImplicit), ((ofString "_translate"), .globalImplicit), ((ofString "_law_steps"), .globalImplicit), ((ofString "max"), .globalImplicit), ((ofString "_law_many"), .globalImplicit)] [((ofString "pin"), L + 1 + 1 + 1 + 1 + 1 + 1), ((ofString "n"), L + 1 + 1 + 1 + 1 + 1), ((ofString "steps"), L + 1 + 1 + 1 + 1), ((ofString "pieces"), L + 1 + 1 + 1), ((ofString "sign"), L + 1 + 1), ((ofString "stars"), L + 1)]) {am : Addr} (F : D0 c am (ofString "_law_many") [(ofString "pieces"), (ofString "stars"), (ofString "choices")] (Av 10) (Al 10)) (hlen : c.mg (ofString "len") = none) (hlen' : c.mb (ofString "len") = some (.builtin "len")) (hran : c.mg (ofString "range") = none) (hran' : c.mb (ofString "range") = some (.type "range"))
  (hsum : c.mg (ofString "sum") = none) (hsum' : c.mb (ofString "sum") = some (.builtin "sum"))
  {i pin s : Nat} (hi : i < 5) (hpin : pin < max i 1) (hs : s ∈ AV) {pcs : List (List Nat)} {stars : List Bool} {tk : List (List Nat)} {mv bv tv : List Value} {mr ta tr : Addr} {ti tp ts : Tok} {w1 w2 w3 w4 w5 w6 w7 w8 w9 wa wb c1 c2 c3 c4 c5 c6 : Option Value} {ff fs : Led} {Q : Flow → St → Prop}
  (hmr : (mr, D.list mv) ∈ ff) (hmv : AA (Da ff) pcs mv) (hta : (ta, D.list bv) ∈ ff) (hbv : AA (fun b v => v = Value.bool b) stars bv) (htr : (tr, D.list tv) ∈ ff) (htv : Bk tk tv)
  (hstars : stars.length ≤ 5) (hpcs : pcs.length ≤ 5) (htk : tk.length ≤ 256) (htk4 : ∀ w ∈ tk, w.length ≤ 4)
  (hdue : (tk.filter fun w => El w pin s).length = EC pcs stars ((List.range i).map fun k => if k = pin then [s] else AV))
  (hQ : ∀ wb ff', (∀ x ∈ ff, x ∈ ff') → Q .next ⟨[((ofString "script"), w1), ((ofString "lead"), w2), ((ofString "insides"), w3), ((ofString "x"), w4), ((ofString "pattern"), w5), ((ofString "star"), w6), ((ofString "text"), w7), ((ofString "names"), w8), ((ofString "means"), some (.ref mr)), ((ofString "taken"), some (.ref tr)), ((ofString "due"), wb)], [(L + 1 + 1 + 1 + 1 + 1 + 1, .cell (some (.int (pin : Nat) tp))), (L + 1 + 1 + 1 + 1 + 1, .cell (some (.int (i : Nat) ti))), (L + 1 + 1 + 1 + 1, .cell (c3)), (L + 1 + 1 + 1, .cell (c4)), (L + 1 + 1, .cell (some (.str (S [s]) ts))), (L + 1, .cell (some (.ref ta)))], ff', fs⟩) :
  V c L 3 (execs bodyIn e) Q ⟨[((ofString "script"), w1), ((ofString "lead"), w2), ((ofString "insides"), w3), ((ofString "x"), w4), ((ofString "pattern"), w5), ((ofString "star"), w6), ((ofString "text"), w7), ((ofString "names"), w8), ((ofString "means"), some (.ref mr)), ((ofString "taken"), some (.ref tr)), ((ofString "due"), wb)], [(L + 1 + 1 + 1 + 1 + 1 + 1, .cell (some (.int (pin : Nat) tp))), (L + 1 + 1 + 1 + 1 + 1, .cell (some (.int (i : Nat) ti))), (L + 1 + 1 + 1 + 1, .cell (c3)), (L + 1 + 1 + 1, .cell (c4)), (L + 1 + 1, .cell (some (.str (S [s]) ts))), (L + 1, .cell (some (.ref ta)))], ff, fs⟩ := by
 have hi62 : i < 2 ^ 62 := by exact Nat.lt_trans (by assumption) (by decide)
 have htl := htv.length
 refine AB ?_
 with_reducible
  refine A3 ?_
  refine Q6 (by assumption) (by assumption) (by tb_rel) (by assumption) ?_
  refine LC (E_l (by assumption) (by tb_rel) (by tb_rel)) ?_
  refine LC (E_c (by assumption) (by tb_rel) (by tb_rel) (by top_args)) ?_
  refine A0 ?_
 refine' BJ he ?cc1 ?cg1
 case cc1 => exact ⟨CH rfl, rfl, by decide, by decide, by dsimp only; repeat first | exact B5.nil | (apply B5.free; focus tb_rel) | (apply B5.other; focus decide), ⟨fun _ _ => by with_unfolding_all rfl, trivial⟩⟩
 with_reducible
  refine HE (by assumption) (by assumption) (by tb_rel) (by assumption) (by assumption) ?_
  refine AI ?_
  refine DV (E_c (by assumption) (by tb_rel) (by tb_rel) (by top_args)) ?_
  refine D4 ?_; intro _
 refine ⟨_, _, [], BP.upTo hi62 (by top_args), (fun _ h => nomatch h), fun C e' he' _ _ => ?_⟩
 have he' : Ag e' C [((ofString ".0"), .local), ((ofString "k"), .local), ((ofString "pin"), .cell), ((ofString "sign"), .cell)] [((ofString "sign"), L + 1 + 1), ((ofString "pin"), L + 1 + 1 + 1 + 1 + 1 + 1)] := he'
 show Bw c C _ e' _ _ sizeLine _ _ _ ⟨[((ofString ".0"), none), ((ofString "k"), none)], [], [], _⟩
 refine Bg (fun _ => true) (fun k y f => ∃ t, y = .str (S (if k = pin then [s] else AV)) t) (by rw [sizeLine_eq]; exact Nat.lt_trans hi (by decide)) (fun i y f f' hf h => h) (fun k v w f3 hk hP K_ hK_ => ?_) (fun yv σ' hG hyv => ?_)
 ·obtain ⟨t1, rfl⟩ := hP
  clear he
  with_reducible
   refine C0 (by assumption) (by tb_rel) (by top_caught) ?_
   refine Bj ?_
   refine hK_ _ _ ?_; clear hK_ K_
  refine ⟨rfl, fun _ => ?_, fun h => nomatch h⟩
  with_reducible
   refine BS ?_
   refine Ct (Aq (Ap (by assumption) (by tb_rel) (by tb_rel)) (KD (by assumption) (by tb_rel) (by tb_rel) (by top_args)) Hy) ?_
  by_cases hkp : k = pin
  ·refine A9 (by rw [hkp]; simp) ?_
   with_reducible
    refine B4 (by assumption) (by tb_rel) (by tb_rel) (by top_args) ?_
   rw [if_pos hkp]
   exact ⟨⟨_, _, rfl⟩, fun x hx => hx, _, rfl⟩
  ·refine Ad (by rw [beq_iff_eq]; lia) ?_
   with_reducible
    refine AP KB ?_; intro _
   rw [if_neg hkp]
   exact ⟨⟨_, _, rfl⟩, fun x hx => hx, _, rfl⟩
 clear he'
 have hy := Je (T := fun x v => ∃ t, v = Value.str (S x) t) hyv
 refine ⟨_, fun p hp => .inl hp, fun d1 => ?_⟩
 dsimp only
 with_reducible
  refine A2 ?_
 refine Am d1 Rem.head ?_
 refine Hr (Hp.more (M7 hc F hlen hlen' hran hran' hsum hsum' (fs := (d1, .list yv) :: ff) (List.mem_cons_of_mem _ hmr) (hmv.mono fun _ _ _ h => h.mono fun x hx => List.mem_cons_of_mem _ hx) (List.mem_cons_of_mem _ hta) hbv List.mem_cons_self hy hstars hpcs (by rw [List.length_map, List.length_range]; lia) (fun x hx => ?_)) (by decide)) (fun p hp => ?_) (fun v nz hv => ?_)
 ·obtain ⟨k, _, rfl⟩ := List.mem_map.mp hx
  split <;> simp [AV]
 ·rcases List.mem_cons.mp hp with rfl | hp
  ·exact .inr (.inl List.mem_cons_self)
  ·refine .inr (.inl ?_)
   repeat (first | assumption | refine List.mem_cons_of_mem _ ?_ | refine List.mem_append_right _ ?_)
 obtain ⟨td, rfl, rfl⟩ := hv
 rw [← hdue]
 clear hy hyv
 with_reducible
  refine A8 (by assumption) (by tb_rel) (by top_caught) ?_
  refine A7 ?_; intro K_ hK_
  refine Ci ?_; intro K_ hK_
  refine A4 ?_
  refine HE (by assumption) (by assumption) (by tb_rel) (by assumption) (by assumption) ?_
  refine AH ?_
  refine A0 ?_
 refine' BJ he ?cc2 ?cg2
 case cc2 => exact ⟨CH rfl, rfl, by decide, by decide, by dsimp only; repeat first | exact B5.nil | (apply B5.free; focus tb_rel) | (apply B5.other; focus decide), ⟨fun _ _ => by with_unfolding_all rfl, trivial⟩⟩
 with_reducible
  refine AJ (by assumption) (by tb_rel) (by tb_rel) ?_
 refine ⟨_, _, [tr], BP.list (vs := tv) (.inl (by repeat (first | assumption | refine List.mem_cons_of_mem _ ?_ | refine List.mem_append_right _ ?_))), (fun x hx => .inl (by rw [List.mem_singleton.mp hx]; refine List.mem_map_of_mem (f := (·.1)) (a := (tr, D.list tv)) ?_; repeat (first | assumption | refine List.mem_cons_of_mem _ ?_ | refine List.mem_append_right _ ?_))), fun C e' he' _ _ => ?_⟩
 have he' : Ag e' C [((ofString ".0"), .local), ((ofString "name"), .local), ((ofString "pin"), .cell), ((ofString "sign"), .cell)] [((ofString "sign"), L + 1 + 1), ((ofString "pin"), L + 1 + 1 + 1 + 1 + 1 + 1)] := he'
 show Bw c C _ e' _ _ sizeLine _ _ _ ⟨[((ofString ".0"), none), ((ofString "name"), none)], [], [], _⟩
 refine Bg (fun j => opt (fun w => El w pin s) tk[j]?) (fun j y f => ∃ w, tk[j]? = some w ∧ ∃ t, y = .str (S w) t) (by rw [sizeLine_eq]; exact Nat.lt_of_le_of_lt (Nat.le_trans (Nat.le_of_eq htl.symm) htk) (by decide)) (fun j y f f' hf h => h) (fun j v w f3 hj hP K_ hK_ => ?_) (fun zv σ2 hG hzv => ?_)
 ·obtain ⟨w, hw, t1, rfl⟩ := htv.get hP
  rw [hw] at hK_
  have hwl := htk4 w (List.mem_of_getElem? hw)
  have hws : w.length ≤ sizeLine := by rw [sizeLine_eq]; exact Nat.le_trans (by assumption) (by decide)
  clear he
  with_reducible
   refine C0 (by assumption) (by tb_rel) (by top_caught) ?_
   refine Bl ?_
   refine A4 ?_
   refine F3 (BL (Bs (by assumption) (by tb_rel) (by tb_rel)) (Ax (KD (by assumption) (by tb_rel) (by tb_rel) (by top_args))) (Ax (AF (KD (by assumption) (by tb_rel) (by tb_rel) (by top_args)) Ak)) (by assumption)) ?_; intro _
   refine Aw ?_
   refine A0 ?_
   refine AP D3 ?_; intro _
   refine DV (E_c (by assumption) (by tb_rel) (by tb_rel) (by top_args)) ?_
   refine A6 (by with_unfolding_all exact Nat.le_of_ble_eq_true rfl) ?_; intro _
  rw [EB]
  skip
  refine MW (by top_args) ?_
  with_reducible
   refine A1 ?_
  refine Ab (fun h => ?_) (fun h => ?_)
  ·with_reducible
    refine Bj ?_
    refine hK_ _ _ ?_; clear hK_ K_
   refine ⟨h.symm, fun _ => ?_, fun h => nomatch h⟩
   with_reducible
    refine AJ (by assumption) (by tb_rel) (by tb_rel) ?_
   exact ⟨⟨_, _, rfl⟩, fun x hx => by repeat (first | assumption | refine List.mem_cons_of_mem _ ?_), w, rfl, _, rfl⟩
  ·exact hK_ _ _ ⟨h.symm, (fun h => nomatch h), fun _ => ⟨⟨_, _, rfl⟩, fun x hx => by repeat (first | assumption | refine List.mem_cons_of_mem _ ?_)⟩⟩
 clear he'
 rw [← htl] at hzv
 have hz := BN (R := fun x v => ∃ t, v = Value.str (S x) t) [] hzv
 have hzl := hz.length
 have hfl : (tk.filter fun w => El w pin s).length ≤ tk.length := List.length_filter_le _ _
 refine ⟨_, fun p hp => .inl hp, fun D2 => ?_⟩
 dsimp only
 have hz62 : zv.length ≤ sizeLine := by rw [sizeLine_eq]; exact Nat.le_of_lt (Nat.lt_of_le_of_lt (Nat.le_trans (Nat.le_trans (Nat.le_of_eq hzl.symm) hfl) htk) (by decide))
 refine Am D2 Rem.head ?_
 with_reducible
  refine A2 ?_
 refine Gr (by top_args) (by exact Nat.lt_of_le_of_lt (by assumption) (by decide)) (fun tl => ?_)
 with_reducible
  refine AJ (by assumption) (by tb_rel) (by tb_rel) ?_
  refine GS ?_
  refine A1 ?_
  refine hK_ _ _ ?_; clear hK_ K_
 refine Ad (by rw [← hzl]; simp) ?_
 with_reducible
  refine Au ?_
  refine hK_ _ _ ?_; clear hK_ K_
  refine Au ?_
 refine hQ _ _ fun x hx => ?_
 repeat (first | assumption | refine List.mem_cons_of_mem _ ?_ | refine List.mem_append_right _ ?_)
end
theorem GO {α : Type} (d : α) (l : List α) : (List.range l.length).map (fun i => l[i]?.getD d) = l := by
 refine List.ext_getElem (by simp) fun i h1 h2 => ?_
 rw [List.getElem_map, List.getElem_range, List.getElem?_eq_getElem h2]; rfl
theorem Ly (i : Nat) : ((List.range (AR i).length).flatMap fun j => (List.range 4).map (Prod.mk j)).map (fun p => (AR i)[p.1]?.getD [] ++ [AV[p.2]?.getD 0]) = AR (i + 1) := by
 rw [List.map_flatMap]
 show _ = (AR i).flatMap fun w => AV.map fun s => w ++ [s]
 conv => rhs; rw [← GO [] (AR i)]
 rw [List.flatMap_map]
 refine congrArg (fun f => List.flatMap f _) (funext fun j => ?_)
 rw [List.map_map]
 rfl
section
variable {c : Cx} {L : Addr} {n : Nat} {σ : St} {e : Env}
theorem MX (hc : c.Ok) (he : Ag e L [((ofString "script"), .local), ((ofString "lead"), .local), ((ofString "insides"), .local), ((ofString "stars"), .cell), ((ofString "x"), .local), ((ofString "sign"), .cell), ((ofString "pieces"), .cell), ((ofString "pattern"), .local), ((ofString "star"), .local), ((ofString "text"), .local), ((ofString "steps"), .cell), ((ofString "names"), .local), ((ofString "means"), .local), ((ofString "n"), .cell), ((ofString "taken"), .local), ((ofString "pin"), .cell), ((ofString "due"), .local), ((ofString "len"), .globalImplicit), ((ofString "range"), .globalImplicit), ((ofString "object"), .globalImplicit), ((ofString "_join_translated_parts"), .globalImplicit), ((ofString "_translate"), .globalImplicit), ((ofString "_law_steps"), .globalImplicit), ((ofString "max"), .globalImplicit), ((ofString "_law_many"), .globalImplicit)] [((ofString "pin"), L + 1 + 1 + 1 + 1 + 1 + 1), ((ofString "n"), L + 1 + 1 + 1 + 1 + 1), ((ofString "steps"), L + 1 + 1 + 1 + 1), ((ofString "pieces"), L + 1 + 1 + 1), ((ofString "sign"), L + 1 + 1), ((ofString "stars"), L + 1)])
  {i : Nat} (hi : i < 5) {nv : List Value} {nr : Addr} {w1 w2 w3 w4 w5 w6 w7 w8 w9 wa wb c1 c2 c3 c4 c5 c6 : Option Value} {ff fs : Led} {Q : Flow → St → Prop} (hnr : (nr, D.list nv) ∈ ff) (hnv : Bk (AR i) nv)
  (hQ : ∀ nr nv ff', (∀ x ∈ ff, x ∈ ff') → (nr, D.list nv) ∈ ff' → Bk (AR (i + 1)) nv → Q .next ⟨[((ofString "script"), w1), ((ofString "lead"), w2), ((ofString "insides"), w3), ((ofString "x"), w4), ((ofString "pattern"), w5), ((ofString "star"), w6), ((ofString "text"), w7), ((ofString "names"), some (.ref nr)), ((ofString "means"), w9), ((ofString "taken"), wa), ((ofString "due"), wb)], [(L + 1 + 1 + 1 + 1 + 1 + 1, .cell (c1)), (L + 1 + 1 + 1 + 1 + 1, .cell (c2)), (L + 1 + 1 + 1 + 1, .cell (c3)), (L + 1 + 1 + 1, .cell (c4)), (L + 1 + 1, .cell (c5)), (L + 1, .cell (c6))], ff', fs⟩) :
  V c L 3 (exec (sAt MT 2) e) Q ⟨[((ofString "script"), w1), ((ofString "lead"), w2), ((ofString "insides"), w3), ((ofString "x"), w4), ((ofString "pattern"), w5), ((ofString "star"), w6), ((ofString "text"), w7), ((ofString "names"), some (.ref nr)), ((ofString "means"), w9), ((ofString "taken"), wa), ((ofString "due"), wb)], [(L + 1 + 1 + 1 + 1 + 1 + 1, .cell (c1)), (L + 1 + 1 + 1 + 1 + 1, .cell (c2)), (L + 1 + 1 + 1 + 1, .cell (c3)), (L + 1 + 1 + 1, .cell (c4)), (L + 1 + 1, .cell (c5)), (L + 1, .cell (c6))], ff, fs⟩ := by
 have hl := hnv.length
 have hnl := CA i
 have h4 : 4 ^ i ≤ 4 ^ 4 := Nat.pow_le_pow_right (by exact Nat.succ_pos _) (by lia)
 refine Jd ?_
 refine' BK he ?cc1 (by tb_rel) ?cg1
 case cc1 => exact ⟨Q2 rfl rfl, rfl, by decide, by decide, by dsimp only; repeat first | exact B5.nil | (apply B5.free; focus tb_rel) | (apply B5.other; focus decide), ⟨fun _ _ => by with_unfolding_all rfl, fun _ _ => by with_unfolding_all rfl, trivial⟩⟩
 with_reducible
  refine AJ (by assumption) (by tb_rel) (by tb_rel) ?_
 refine ⟨_, _, [nr], BP.list (.inl hnr), (fun x hx => .inl (by rw [List.mem_singleton.mp hx]; exact List.mem_map_of_mem (f := (·.1)) hnr)), fun C e' he' _ _ => ?_⟩
 have he' : Ag e' C [((ofString ".0"), .local), ((ofString "name"), .local), ((ofString "sign"), .local)] [] := he'
 show Bw c C _ e' _ _ sizeLine _ _ _ ⟨[((ofString ".0"), none), ((ofString "name"), none), ((ofString "sign"), none)], [], [], _⟩
 generalize Hq _ = OD
 refine Fz (fun σ => ∃ w1 w2 f, σ = ⟨[((ofString ".0"), none), ((ofString "name"), w1), ((ofString "sign"), w2)], [], f, OD⟩) (fun j σ => ∃ t w2 f, σ = ⟨[((ofString ".0"), none), ((ofString "name"), some (.str (S ((AR i)[j]?.getD [])) t)), ((ofString "sign"), w2)], [], f, OD⟩)
  (fun _ => 4) (fun j q y f => ∃ t, y = .str (S ((AR i)[j]?.getD [] ++ [AV[q]?.getD 0])) t) (b := 4) (fun j hj => Nat.le_refl _) (by rw [sizeLine_eq]; lia) (fun i j y f f' hf h => h) ⟨_, _, _, rfl⟩ (fun j σ h => ?_) (fun j v σ hj hP hG => ?_) (fun ys' σ' hG hys' => ?_)
 ·obtain ⟨t, w2, f, rfl⟩ := h; exact ⟨_, _, _, rfl⟩
 ·refine Ae (fun G_ hG_ => ?_)
  obtain ⟨w1, w2, f3, rfl⟩ := hG
  obtain ⟨w, hw, t1, rfl⟩ := hnv.get hP
  refine hG_ ?_
  clear hG_ G_
  have hwm := List.mem_of_getElem? hw
  have hwl := BI i w hwm
  rw [hw]
  clear he
  with_reducible
   refine C0 (by assumption) (by tb_rel) (by top_caught) ?_
   refine Bj ?_
  refine ⟨rfl, ?_⟩
  with_reducible
   refine AP KB ?_; intro _
  refine ⟨⟨_, _, _, rfl⟩, fun x hx => hx, _, [], BP.str, (fun _ h => nomatch h), fun q v' σ₆ hq hP' hG2 => ?_⟩
  refine Ae (fun G_ hG_ => ?_)
  obtain ⟨t2, w4, f4, rfl⟩ := hG2
  obtain ⟨ch, tc, hch, rfl⟩ := hP'
  refine hG_ ?_
  clear hG_ G_
  have hch' : AV[q]? = some ch := hch
  rw [hch']
  with_reducible
   refine C0 (by assumption) (by tb_rel) (by top_caught) ?_
   refine Bj ?_
  refine ⟨rfl, ?_⟩
  with_reducible
   refine Az ?_
   refine AJ (by assumption) (by tb_rel) (by tb_rel) ?_
   refine AJ (by assumption) (by tb_rel) (by tb_rel) ?_
  refine BX (by rw [sizeLine_eq]; simp only [Option.getD_some, List.length_cons, List.length_nil]; lia) (fun t5 => ?_)
  exact ⟨⟨_, _, _, rfl⟩, fun x hx => hx, _, rfl⟩
 clear he'
 rw [← hl] at hys'
 have hy := hys'.map (R' := fun x v => ∃ t, v = Value.str (S x) t) (fun p => (AR i)[p.1]?.getD [] ++ [AV[p.2]?.getD 0]) fun _ _ _ h => h
 rw [Ly] at hy
 refine ⟨_, fun p hp => .inl hp, fun d1 => ?_⟩
 dsimp only
 with_reducible
  refine A8 (by assumption) (by tb_rel) (by top_caught) ?_
 refine ⟨_, _, _, Rem.head, hQ _ _ _ (fun x hx => ?_) List.mem_cons_self hy⟩
 repeat (first | assumption | refine List.mem_cons_of_mem _ ?_ | refine List.mem_append_right _ ?_)
end
section
variable {c : Cx} {L : Addr} {n : Nat} {σ : St} {e : Env}
theorem MY {k : Nat} {t u : Tok} {Q : Value → St → Prop} (h : ∀ t, Q (.int ((max k 1 : Nat) : Int) t) σ) : V c L n (call (.builtin "max") [.int (k : Nat) t, .int 1 u]) Q σ :=
 L4 fun t => by
  have : max (k : Int) 1 = ((max k 1 : Nat) : Int) := by lia
  rw [this]; exact h t
theorem Lz (hc : c.Ok) (he : Ag e L [((ofString "script"), .local), ((ofString "lead"), .local), ((ofString "insides"), .local), ((ofString "stars"), .cell), ((ofString "x"), .local), ((ofString "sign"), .cell), ((ofString "pieces"), .cell), ((ofString "pattern"), .local), ((ofString "star"), .local), ((ofString "text"), .local), ((ofString "steps"), .cell), ((ofString "names"), .local), ((ofString "means"), .local), ((ofString "n"), .cell), ((ofString "taken"), .local), ((ofString "pin"), .cell), ((ofString "due"), .local), ((ofString "len"), .globalImplicit), ((ofString "range"), .globalImplicit), ((ofString "object"), .globalImplicit), ((ofString "_join_translated_parts"), .globalImplicit), ((ofString "_translate"), .globalImplicit), ((ofString "_law_steps"), .globalImplicit), ((ofString "max"), .globalImplicit), ((ofString "_law_many"), .globalImplicit)] [((ofString "pin"), L + 1 + 1 + 1 + 1 + 1 + 1), ((ofString "n"), L + 1 + 1 + 1 + 1 + 1), ((ofString "steps"), L + 1 + 1 + 1 + 1), ((ofString "pieces"), L + 1 + 1 + 1), ((ofString "sign"), L + 1 + 1), ((ofString "stars"), L + 1)]) {ae am : Addr} (Fe : D0 c ae (ofString "_law_ends") [(ofString "steps"), (ofString "name")] (Av 14) (Al 14)) (Fm : D0 c am (ofString "_law_many") [(ofString "pieces"), (ofString "stars"), (ofString "choices")] (Av 10) (Al 10))
  (hlen : c.mg (ofString "len") = none) (hlen' : c.mb (ofString "len") = some (.builtin "len")) (hran : c.mg (ofString "range") = none) (hran' : c.mb (ofString "range") = some (.type "range"))
  (hsum : c.mg (ofString "sum") = none) (hsum' : c.mb (ofString "sum") = some (.builtin "sum")) (hmax : c.mg (ofString "max") = none) (hmax' : c.mb (ofString "max") = some (.builtin "max"))
  {ins : List (List Nat)} {stars : List Bool} {st : List Stp} (hP : Ki ins stars st) (hstars : stars.length ≤ 5) (hins : ins.length ≤ 5)
  {nv sv mv bv : List Value} {nr sr mr ta : Addr} {w1 w2 w3 w4 w5 w6 w7 w8 w9 wa wb c1 c2 c3 c4 c5 c6 : Option Value} {ff fs : Led} {Q : Flow → St → Prop} (hnr : (nr, D.list nv) ∈ ff) (hnv : Bk (AR 0) nv) (hsr : (sr, D.list sv) ∈ ff) (hsv : AA (DZ ff) st sv)
  (hmr : (mr, D.list mv) ∈ ff) (hmv : AA (Da ff) (ins.map CW) mv) (hta : (ta, D.list bv) ∈ ff) (hbv : AA (fun b v => v = Value.bool b) stars bv)
  (hQ : ∀ nr wa wb c1 c2 c5 ff', Q .next ⟨[((ofString "script"), w1), ((ofString "lead"), w2), ((ofString "insides"), w3), ((ofString "x"), w4), ((ofString "pattern"), w5), ((ofString "star"), w6), ((ofString "text"), w7), ((ofString "names"), some (.ref nr)), ((ofString "means"), some (.ref mr)), ((ofString "taken"), wa), ((ofString "due"), wb)], [(L + 1 + 1 + 1 + 1 + 1 + 1, .cell (c1)), (L + 1 + 1 + 1 + 1 + 1, .cell (c2)), (L + 1 + 1 + 1 + 1, .cell (some (.ref sr))), (L + 1 + 1 + 1, .cell (c4)), (L + 1 + 1, .cell (c5)), (L + 1, .cell (some (.ref ta)))], ff', fs⟩) :
  V c L 3 (exec (Er 12) e) Q ⟨[((ofString "script"), w1), ((ofString "lead"), w2), ((ofString "insides"), w3), ((ofString "x"), w4), ((ofString "pattern"), w5), ((ofString "star"), w6), ((ofString "text"), w7), ((ofString "names"), some (.ref nr)), ((ofString "means"), some (.ref mr)), ((ofString "taken"), wa), ((ofString "due"), wb)], [(L + 1 + 1 + 1 + 1 + 1 + 1, .cell (c1)), (L + 1 + 1 + 1 + 1 + 1, .cell (c2)), (L + 1 + 1 + 1 + 1, .cell (some (.ref sr))), (L + 1 + 1 + 1, .cell (c4)), (L + 1 + 1, .cell (c5)), (L + 1, .cell (some (.ref ta)))], ff, fs⟩ := by
 refine Ed ?_
 with_reducible
  refine HE (by assumption) (by assumption) (by tb_rel) (by assumption) (by assumption) ?_
  refine AI ?_
  refine A0 ?_
  refine AC ?_; intro _
  refine A2 ?_
  refine D4 ?_; intro _
 refine ⟨_, _, [], BP.upTo (k := 5) (by decide) (by exact .inr (.inl List.mem_cons_self)), (fun _ h => nomatch h),
  fun i σ => Ex8 fun (nr : Addr) (nv : List Value) (wa wb c1 c2 c5 : Option Value) (f : Led) => Qg (σ = ⟨[((ofString "script"), w1), ((ofString "lead"), w2), ((ofString "insides"), w3), ((ofString "x"), w4), ((ofString "pattern"), w5), ((ofString "star"), w6), ((ofString "text"), w7), ((ofString "names"), some (.ref nr)), ((ofString "means"), some (.ref mr)), ((ofString "taken"), wa), ((ofString "due"), wb)], [(L + 1 + 1 + 1 + 1 + 1 + 1, .cell (c1)), (L + 1 + 1 + 1 + 1 + 1, .cell (c2)), (L + 1 + 1 + 1 + 1, .cell (some (.ref sr))), (L + 1 + 1 + 1, .cell (c4)), (L + 1 + 1, .cell (c5)), (L + 1, .cell (some (.ref ta)))], f, fs⟩) ((∀ x ∈ ff, x ∈ f)) ((nr, D.list nv) ∈ f) (Bk (AR i) nv), ?_, ?_, ?_⟩
 ·exact ⟨_, _, _, _, _, _, _, _, rfl, fun x hx => List.mem_cons_of_mem _ hx, List.mem_cons_of_mem _ hnr, hnv⟩
 ·intro i v σ₂ hi hPi hI K_ hK_
  refine Ae (fun G_ hG_ => ?_)
  obtain ⟨nr, nv, wa, wb, c1, c2, c5, f, rfl, hff, hnr, hnv⟩ := hI
  obtain ⟨ti, rfl⟩ := hPi
  refine hG_ ?_
  clear hG_ G_
  have h4 : 4 ^ i ≤ 4 ^ 4 := Nat.pow_le_pow_right (by exact Nat.succ_pos _) (by lia)
  with_reducible
   refine CK (by assumption) (by tb_rel) (by tb_rel) (by top_caught) ?_
   refine A7 ?_; intro K_ hK_
  refine MV (w8 := none) (c2 := none) (c3 := none) hc he Fe hlen hlen' hran hran' hi hnr hnv (hff _ hsr) (hsv.mono fun _ _ _ h => h.sub hff) (hP.room i hi) ?_
  intro tr tv f2 hf2 htr htv
  have hf02 : ∀ x ∈ ff, x ∈ f2 := fun x hx => hf2 x (hff x hx)
  refine hK_ _ _ ?_
  clear hK_ K_
  refine AB ?_
  refine Ed ?_
  with_reducible
   refine HE (by assumption) (by assumption) (by tb_rel) (by assumption) (by assumption) ?_
   refine AI ?_
   refine A0 ?_
   refine HE (by assumption) (by assumption) (by tb_rel) (by assumption) (by assumption) ?_
   refine AH ?_
   refine LC (E_c (by assumption) (by tb_rel) (by tb_rel) (by top_args)) ?_
   refine A0 ?_
   refine AC ?_; intro _
   refine A2 ?_
  refine MY (fun t8 => ?_)
  with_reducible
   refine A2 ?_
   refine D4 ?_; intro _
  refine ⟨_, _, [], BP.upTo (k := max i 1) (by lia) (by top_args), (fun _ h => nomatch h),
   fun p σ => Ex4 fun (wb c1 c5 : Option Value) (f' : Led) => σ = ⟨[((ofString "script"), w1), ((ofString "lead"), w2), ((ofString "insides"), w3), ((ofString "x"), w4), ((ofString "pattern"), w5), ((ofString "star"), w6), ((ofString "text"), w7), ((ofString "names"), some (.ref nr)), ((ofString "means"), some (.ref mr)), ((ofString "taken"), some (.ref tr)), ((ofString "due"), wb)], [(L + 1 + 1 + 1 + 1 + 1 + 1, .cell (c1)), (L + 1 + 1 + 1 + 1 + 1, .cell (some (.int (i : Nat) ti))), (L + 1 + 1 + 1 + 1, .cell (some (.ref sr))), (L + 1 + 1 + 1, .cell (c4)), (L + 1 + 1, .cell (c5)), (L + 1, .cell (some (.ref ta)))], f', fs⟩ ∧ (∀ x ∈ f2, x ∈ f'), ?_, ?_, ?_⟩
  ·exact ⟨_, _, _, _, rfl, fun x hx => List.mem_cons_of_mem _ hx⟩
  ·intro p v σ₃ hp hPp hI K_ hK_
   refine Ae (fun G_ hG_ => ?_)
   obtain ⟨wb, c1, c5, f3, rfl, hf3⟩ := hI
   obtain ⟨tp, rfl⟩ := hPp
   refine hG_ ?_
   clear hG_ G_
   with_reducible
    refine CK (by assumption) (by tb_rel) (by tb_rel) (by top_caught) ?_
    refine A7 ?_; intro K_ hK_
   refine Ed ?_
   with_reducible
    refine AP KB ?_; intro _
   refine ⟨_, _, [], BP.str, (fun _ h => nomatch h),
    fun q σ => Ex3 fun (wb c5 : Option Value) (f' : Led) => σ = ⟨[((ofString "script"), w1), ((ofString "lead"), w2), ((ofString "insides"), w3), ((ofString "x"), w4), ((ofString "pattern"), w5), ((ofString "star"), w6), ((ofString "text"), w7), ((ofString "names"), some (.ref nr)), ((ofString "means"), some (.ref mr)), ((ofString "taken"), some (.ref tr)), ((ofString "due"), wb)], [(L + 1 + 1 + 1 + 1 + 1 + 1, .cell (some (.int (p : Nat) tp))), (L + 1 + 1 + 1 + 1 + 1, .cell (some (.int (i : Nat) ti))), (L + 1 + 1 + 1 + 1, .cell (some (.ref sr))), (L + 1 + 1 + 1, .cell (c4)), (L + 1 + 1, .cell (c5)), (L + 1, .cell (some (.ref ta)))], f', fs⟩ ∧ (∀ x ∈ f2, x ∈ f'), ?_, ?_, ?_⟩
   ·exact ⟨_, _, _, rfl, hf3⟩
   ·intro q v σ₄ hq hPq hI K_ hK_
    refine Ae (fun G_ hG_ => ?_)
    obtain ⟨wb, c5, f4, rfl, hf4⟩ := hI
    obtain ⟨s, ts, hs, rfl⟩ := hPq
    refine hG_ ?_
    clear hG_ G_
    have hsm : s ∈ AV := List.mem_of_getElem? hs
    have hf04 : ∀ x ∈ ff, x ∈ f4 := fun x hx => hf4 x (hf02 x hx)
    have hfl : ((AR i).filter fun w => (Nx st w).contains i).length ≤ (AR i).length := List.length_filter_le _ _
    rw [CA] at hfl
    with_reducible
     refine CK (by assumption) (by tb_rel) (by tb_rel) (by top_caught) ?_
    refine law_due (w9 := none) (wa := none) (c1 := none) (c2 := none) (c5 := none) (c6 := none) hc he Fm hlen hlen' hran hran' hsum hsum' hi hp hsm (hf04 _ hmr) (hmv.mono fun _ _ _ h => h.mono hf04) (hf04 _ hta) hbv (hf4 _ htr) htv hstars (by rw [List.length_map]; exact hins) (by exact Nat.le_trans (by assumption) (by assumption))
     (fun w hw => by rw [BI i w (List.mem_filter.mp hw).1]; lia) (hP.due i hi p hp s hsm) ?_
    intro wb f5 hf5
    refine hK_ _ _ ?_
    exact ⟨_, _, _, rfl, fun x hx => hf5 x (hf4 x hx)⟩
   ·intro σ₄ hI
    refine Ae (fun G_ hG_ => ?_)
    obtain ⟨wb, c5, f4, rfl, hf4⟩ := hI
    refine hG_ ?_
    clear hG_ G_
    refine Au ?_
    refine hK_ _ _ ?_
    clear hK_ K_
    refine Au ?_
    refine hK_ _ _ ?_
    exact ⟨_, _, _, _, rfl, hf4⟩
  ·intro σ₃ hI
   refine Ae (fun G_ hG_ => ?_)
   obtain ⟨wb, c1, c5, f3, rfl, hf3⟩ := hI
   refine hG_ ?_
   clear hG_ G_
   refine Au ?_
   refine AB ?_
   refine MX (w8 := none) hc he hi (hf3 _ (hf2 _ hnr)) hnv ?_
   intro nr nv f4 hf4 hnr hnv
   refine Au ?_
   refine hK_ _ _ ?_
   exact ⟨_, _, _, _, _, _, _, _, rfl, fun x hx => hf4 x (hf3 x (hf02 x hx)), hnr, hnv⟩
 ·intro σ₂ hI
  refine Ae (fun G_ hG_ => ?_)
  obtain ⟨nr, nv, wa, wb, c1, c2, c5, f, rfl, hff, hnr, hnv⟩ := hI
  refine hG_ ?_
  clear hG_ G_
  refine Au ?_
  exact hQ _ _ _ _ _ _ _
end
theorem JT {ins : List (List Nat)} {stars : List Bool} (hl : stars.length = ins.length + 1) : (La ins stars).length ≤ 3 * stars.length + (ins.flatten.length + 6 * ins.length) := by
 rw [He]
 refine gen (ins.map B2 ++ [[]]) (fun ps hps => ?_)
 rw [← hps]
 have h1 : ∀ ks : List Nat, ((ks.map fun k => (if stars[k]?.getD false = true then List.replicate (1 + k % 3) 42 else []) ++ (ps[k]?.getD [])).flatten).length ≤ 3 * ks.length + ((ks.map fun k => ps[k]?.getD []).flatten).length := by
  intro ks
  induction ks with
  | nil => exact Nat.zero_le _
  | cons k r ih =>
   simp only [List.map_cons, List.flatten_cons, List.length_append, List.length_cons]
   have : (if stars[k]?.getD false = true then List.replicate (1 + k % 3) 42 else []).length ≤ 3 := by split <;> simp; lia
   lia
 have hpl : ps.length = stars.length := by rw [hps]; simp; exact Nat.le_antisymm (Nat.le_of_eq hl.symm) (Nat.le_of_eq hl)
 have h2 := h1 (List.range stars.length)
 rw [← hpl, GO [] ps, List.length_range, hpl] at h2
 have h3 : ps.flatten.length ≤ ins.flatten.length + 6 * ins.length := by
  rw [hps, List.flatten_append]
  simp only [List.flatten_cons, List.flatten_nil, List.append_nil]
  clear h1 h2 hpl hps hl
  induction ins with
  | nil => exact Nat.le_refl _
  | cons o r ih =>
   have := Df o
   simp only [List.map_cons, List.flatten_cons, List.length_append, List.length_cons]
   lia
 rw [← hpl] at h2 ⊢
 clear hpl; lia
theorem JU (ts : List Tk) (hr : ∀ rr, Tk.br rr ∈ ts → rr.length ≤ 195) : (As ts).length ≤ ts.length ∧ ∀ x, some x ∈ As ts → x.length ≤ 1000 := by
 unfold As
 have : ∀ (ts : List Tk) (acc : List BA), (∀ rr, Tk.br rr ∈ ts → rr.length ≤ 195) → (∀ x, some x ∈ acc → x.length ≤ 1000) → (ts.foldl Fi acc).length ≤ acc.length + ts.length ∧ ∀ x, some x ∈ ts.foldl Fi acc → x.length ≤ 1000 := by
  intro ts
  induction ts with
  | nil => exact fun acc _ h => ⟨Nat.le_refl _, h⟩
  | cons t r ih =>
   intro acc hr h
   have hr' : ∀ rr, Tk.br rr ∈ r → rr.length ≤ 195 := fun rr hm => hr rr (List.mem_cons_of_mem _ hm)
   have key : (Fi acc t).length ≤ acc.length + 1 ∧ ∀ x, some x ∈ Fi acc t → x.length ≤ 1000 := by
    cases t with
    | star =>
     show (if acc.getLast? = some none then acc else acc ++ [none]).length ≤ _ ∧ ∀ x, some x ∈ (if acc.getLast? = some none then acc else acc ++ [none]) → _
     split
     ·exact ⟨Nat.le_succ _, h⟩
     ·refine ⟨by simp, fun x hx => ?_⟩
      rcases List.mem_append.mp hx with hx | hx
      ·exact h x hx
      ·cases List.mem_singleton.mp hx
    | quest =>
     refine ⟨by simp [Fi], fun x hx => ?_⟩
     rcases List.mem_append.mp hx with hx | hx
     ·exact h x hx
     ·cases List.mem_singleton.mp hx; decide
    | br rr =>
     refine ⟨by simp [Fi], fun x hx => ?_⟩
     rcases List.mem_append.mp hx with hx | hx
     ·exact h x hx
     ·cases List.mem_singleton.mp hx
      exact HY (HX (hr rr List.mem_cons_self))
   obtain ⟨h1, h2⟩ := ih (Fi acc t) hr' key.2
   rw [List.foldl_cons, List.length_cons]
   exact ⟨by lia, h2⟩
 obtain ⟨h1, h2⟩ := this ts [] hr fun x hx => nomatch hx
 exact ⟨by simpa using h1, h2⟩
noncomputable def szP : List BA → Nat
 | [] => 0
 | some x :: r => x.length + szP r
 | none :: r => 7 + szP r
theorem JV : ∀ l : List BA, (A5 l).flatten.length + szP (Af l) = szP l
 | [] => rfl
 | some x :: r => by
  have := JV r
  simp only [A5, Af, szP, List.flatten_cons, List.length_append]; lia
 | none :: r => by simp [A5, Af, szP]
theorem GP : ∀ (fuel : Nat) (l : List BA), (groups fuel l).flatten.length ≤ szP l
 | 0, l => by simp [groups]
 | _ + 1, [] => by simp [groups]
 | _ + 1, some _ :: _ => by simp [groups]
 | fuel + 1, none :: r => by
  have h1 := JV r
  have h2 := GP fuel (Af r)
  simp only [groups, szP]
  split
  ·simp; exact Nat.le_of_lt (Nat.lt_of_lt_of_le (by decide) (Nat.le_add_right _ _))
  ·split
   ·simp only [List.flatten_cons, List.flatten_nil, List.length_append, List.length_cons, List.length_nil]; lia
   ·simp only [List.flatten_cons, List.length_append, List.length_cons, List.length_nil]; lia
theorem MZ : ∀ l : List BA, (∀ x, some x ∈ l → x.length ≤ 1000) → szP l ≤ l.length * 1000
 | [], _ => Nat.le_refl _
 | some x :: r, h => by
  have h1 := h x List.mem_cons_self
  have h2 := MZ r fun y hy => h y (List.mem_cons_of_mem _ hy)
  simp only [szP, List.length_cons]; lia
 | none :: r, h => by
  have h2 := MZ r fun y hy => h y (List.mem_cons_of_mem _ hy)
  simp only [szP, List.length_cons]; lia
theorem N0 {ps : List BA} (hl : ps.length ≤ 20) (h : ∀ x, some x ∈ ps → x.length ≤ 1000) : (EF ps).length ≤ 2 ^ 16 := by
 have h1 := JV ps
 have h2 := GP ps.length (Af ps)
 have h3 := MZ ps h
 unfold EF
 rw [List.flatten_append]
 simp only [List.length_append, List.length_cons, List.length_nil]
 lia
structure LawCx (c : Cx) (P cc ra aj atr a1 a2 ast ae am amn : Addr) : Prop where
 ok : c.Ok
 Fj : D0 c aj (ofString "_join_translated_parts") [(ofString "inp"), (ofString "STAR")] (Av 7) (Al 7)
 Ft : D0 c atr (ofString "_translate") [(ofString "pat"), (ofString "STAR"), (ofString "QUESTION_MARK")] (Av 6) (Al 6)
 F1 : D0 c a1 (ofString "_law_one") [(ofString "text"), (ofString "k")] (Av 11) (Al 11)
 F2 : D0 c a2 (ofString "_law_set") [(ofString "text"), (ofString "k")] (Av 12) (Al 12)
 Fs : D0 c ast (ofString "_law_steps") [(ofString "text")] (Av 13) (Al 13)
 Fe : D0 c ae (ofString "_law_ends") [(ofString "steps"), (ofString "name")] (Av 14) (Al 14)
 Fm : D0 c am (ofString "_law_many") [(ofString "pieces"), (ofString "stars"), (ofString "choices")] (Av 10) (Al 10)
 Fn : D0 c amn (ofString "_law_means") [(ofString "inside")] (Av 9) (Al 9)
 hcc : ∃ o fd, c.b.get? atr = some o ∧ o.data = .func fd ∧ fd.code = .ref cc
 C : CodeHd c.b cc P
 hPb : c.b.get? P = none
 hbi : c.b.BuiltinsAt c.mg P
 hra : F5 c.b ra
 hre : c.mg (ofString "_twin_re_1") = some (.ref ra)
 hlen : c.mg (ofString "len") = none
 hlen' : c.mb (ofString "len") = some (.builtin "len")
 hran : c.mg (ofString "range") = none
 hran' : c.mb (ofString "range") = some (.type "range")
 hsum : c.mg (ofString "sum") = none
 hsum' : c.mb (ofString "sum") = some (.builtin "sum")
 hmax : c.mg (ofString "max") = none
 hmax' : c.mb (ofString "max") = some (.builtin "max")
 hob : c.mg (ofString "object") = none
 hob' : c.mb (ofString "object") = some (.type "object")
theorem N1 {bs : List Bool} {vs : List Value} (h : AA (fun b v => v = Value.bool b) bs vs) (b : Bool) : AA (fun b v => v = Value.bool b) (bs ++ [b]) (vs ++ [.bool b]) := h.append (.cons rfl .nil)
section
variable {c : Cx} {P cc ra aj atr a1 a2 ast ae am amn : Addr}
theorem Po (K : LawCx c P cc ra aj atr a1 a2 ast ae am amn) {a : Addr} (F : D0 c a (ofString "law") [(ofString "script")] (Av 15) (Al 15)) {zs : List Int} {sv : List Value} (hz : Ints zs sv) (hzl : zs.length ≤ 63) {sa : Addr} {fs : Led} (hsa : (sa, D.list sv) ∈ fs) :
  Ka c P 4 (.ref a) [.ref sa] fs (fun v nz => v = .bool true) := by
 refine HU K.ok F MP rfl rfl rfl (by decide) (by decide) rfl (by decide) fun L e he0 _ => ?_
 have he : Ag e L [((ofString "script"), .local), ((ofString "lead"), .local), ((ofString "insides"), .local), ((ofString "stars"), .cell), ((ofString "x"), .local), ((ofString "sign"), .cell), ((ofString "pieces"), .cell), ((ofString "pattern"), .local), ((ofString "star"), .local), ((ofString "text"), .local), ((ofString "steps"), .cell), ((ofString "names"), .local), ((ofString "means"), .local), ((ofString "n"), .cell), ((ofString "taken"), .local), ((ofString "pin"), .cell), ((ofString "due"), .local), ((ofString "len"), .globalImplicit), ((ofString "range"), .globalImplicit), ((ofString "object"), .globalImplicit), ((ofString "_join_translated_parts"), .globalImplicit), ((ofString "_translate"), .globalImplicit), ((ofString "_law_steps"), .globalImplicit), ((ofString "max"), .globalImplicit), ((ofString "_law_many"), .globalImplicit)] [((ofString "pin"), L + 1 + 1 + 1 + 1 + 1 + 1), ((ofString "n"), L + 1 + 1 + 1 + 1 + 1), ((ofString "steps"), L + 1 + 1 + 1 + 1), ((ofString "pieces"), L + 1 + 1 + 1), ((ofString "sign"), L + 1 + 1), ((ofString "stars"), L + 1)] := he0
 clear he0
 have hc := K.ok
 have hsl := hz.length
 have hss : sv.length ≤ sizeLine := by rw [sizeLine_eq]; exact Nat.le_of_lt (Nat.lt_of_le_of_lt (Nat.le_trans (Nat.le_of_eq hsl.symm) hzl) (by decide))
 have hcut : cut sv none (some 64) = sv := by
  show List.drop 0 (List.take (Eu 64 sv.length) sv) = sv
  rw [show Eu 64 sv.length = sv.length from (Bb 64 _).trans (Nat.min_eq_right (by exact Nat.le_of_lt (Nat.lt_of_le_of_lt (Nat.le_trans (Nat.le_of_eq hsl.symm) hzl) (by decide)))), List.drop_zero, List.take_length]
 show W0 c P L 3 (execs (Av 15) e) _ ⟨[((ofString "script"), some (.ref sa)), ((ofString "lead"), none), ((ofString "insides"), none), ((ofString "x"), none), ((ofString "pattern"), none), ((ofString "star"), none), ((ofString "text"), none), ((ofString "names"), none), ((ofString "means"), none), ((ofString "taken"), none), ((ofString "due"), none)], [(L + 1 + 1 + 1 + 1 + 1 + 1, .cell (none)), (L + 1 + 1 + 1 + 1 + 1, .cell (none)), (L + 1 + 1 + 1 + 1, .cell (none)), (L + 1 + 1 + 1, .cell (none)), (L + 1 + 1, .cell (none)), (L + 1, .cell (none))], [], fs⟩
 refine K9 he (by tb_rel) ?_
 with_reducible
  refine BY ?_
  refine AJ (by assumption) (by tb_rel) (by tb_rel) ?_
  refine Ex ?_
  refine Cf ?_
  refine BE ?_
  refine AC ?_; intro _
  intro _
 refine Gs .none (.int _ _) hss (by top_args) (fun r => ?_)
 rw [hcut]
 refine ⟨_, by top_caught, ?_⟩
 refine Kf r Rem.head ?_
 refine AN ?_
 refine Pj (w1 := none) hc he hz (by exact Nat.le_trans (by assumption) (by decide)) List.mem_cons_self ?_
 intro t f1 hf1
 refine AN ?_
 refine law_two (w2 := none) hc he ?_
 intro t0 ta ia f2 hf2
 refine AN ?_
 refine law_for hc he K.hlen K.hlen' hz (by exact Nat.le_of_lt (Nat.lt_of_le_of_lt hzl (by decide))) (hf2 _ (hf1 _ List.mem_cons_self)) ?_
 intro w4 c5 iv tv f3 hiv htv
 refine gen (FV (Int.fmod (zs.headD 0) 2 == 0) (zs.drop 1)) (fun p hp => ?_)
 have hok := Kh (Int.fmod (zs.headD 0) 2 == 0) (zs.drop 1)
 rw [← hp] at hiv htv hok
 have hdl : (zs.drop 1).length ≤ 62 := by rw [List.length_drop]; clear hsl hss; omega
 refine Ae (fun G_ hG_ => ?_)
 obtain ⟨ok1, ok2, ok3, ok4, ok5⟩ := hok
 refine hG_ ?_
 clear hG_ G_
 have hivl := hiv.length
 have htvl := htv.length
 have hins : ∀ o ∈ p.1, o.length ≤ 186 := PH (by lia)
 have hins3 : ∀ o ∈ p.1, o.length ≤ 300 := fun o ho => by have := hins o ho; exact Nat.le_trans (by assumption) (by decide)
 refine AN ?_
 refine Pk (w2 := none) (w3 := none) (c6 := none) hc he (by rw [sizeLine_eq]; exact Nat.le_of_lt (Nat.lt_of_le_of_lt (Nat.le_trans (Nat.le_trans (Nat.le_of_eq htvl.symm) (Nat.le_of_eq ok1)) ok3) (by decide))) ?_
 intro b
 have hst2 := N1 htv b
 refine gen (p.2 ++ [b]) (fun stars hstars => ?_)
 rw [← hstars] at hst2
 have hstl : stars.length = p.1.length + 1 := by rw [hstars]; simp [ok1]
 have hst5 : stars.length ≤ 5 := by lia
 refine AN ?_
 refine Pl (w3 := none) hc he hiv hins3 ok3 List.mem_cons_self ?_
 intro pa pv f4 hf4 hpa hpv
 have hia := hf4 _ List.mem_cons_self
 have hta := hf4 _ (List.mem_cons_of_mem _ List.mem_cons_self)
 refine AN ?_
 refine law_six (c4 := none) (c6 := none) hc he K.hlen K.hlen' K.hran K.hran' hpv hst2 hins3 hstl ok3 hpa hta ?_
 intro tp wx c1x f5 hf5
 refine AN ?_
 refine MR hc he K.hob K.hob' ?_
 intro st f6 hf6
 have htlen := Lb (ins := p.1) hst5
 have htok := Mq (stars := stars) ok5
 have htbr := Mr (stars := stars) (n := 195) (by decide) (fun o ho => by have := hins o ho; exact Nat.le_trans (by assumption) (by decide))
 have hpat := JT hstl
 obtain ⟨hb1, hb2⟩ := JU (Cq p.1 stars) htbr
 have hnt := Pb (Cq p.1 stars)
 refine Du ?_
 refine MS (w5 := none) (w6 := none) hc he K.Fj K.Ft K.hcc K.C K.hPb K.hbi K.hra K.hre K.hlen K.hlen' K.hran K.hran' (ts := Cq p.1 stars) rfl htok htbr (show (La p.1 stars).length ≤ 900 from by lia) (by exact Nat.le_trans (by assumption) (by assumption)) hb2 hnt ?_
 intro tt f7 hf7
 refine Dt ?_
 obtain ⟨stp, hsteps, hlaw⟩ := MO hstl ok5
 have hjl := N0 (Nat.le_trans hb1 htlen) hb2
 have hjh := Lk (As (Cq p.1 stars))
 have hjt := Ll (As (Cq p.1 stars))
 refine gen (EF (As (Cq p.1 stars))) (fun x hx => ?_)
 rw [← hx] at hsteps hjl hjh hjt ⊢
 refine AB ?_
 refine Pm (w7 := none) hc he K.F1 K.F2 K.Fs K.hlen K.hlen' hjl hsteps ?_
 intro sr svs nz f8 hf8 hnz hsr hsv
 refine AB ?_
 refine law_ten (w7 := none) (c3 := none) hc he hjl hjh hjt ?_
 intro f9 hf9
 have up4 : ∀ x ∈ f4, x ∈ f9 := fun x hx => hf9 x (hf8 x (hf7 x (hf6 x (hf5 x hx))))
 refine AB ?_
 refine Lx (w3 := none) hc he K.Fn K.hlen K.hlen' hiv hins3 ok3 (up4 _ hia) ?_
 intro nr mr tn mv f10 hf10 hnr hmr hmv
 refine AB ?_
 refine Lz (w8 := none) (w9 := none) (c3 := none) (c6 := none) hc he K.Fe K.Fm K.hlen K.hlen' K.hran K.hran' K.hsum K.hsum' K.hmax K.hmax' hlaw hst5 (by exact Nat.le_trans (by assumption) (by decide)) hnr (.cons ⟨_, rfl⟩ .nil) (hf10 _ (hf9 _ (hnz _ hsr))) (hsv.mono fun _ _ _ h => h.sub fun x hx => hf10 _ (hf9 _ (hnz _ hx))) hmr hmv (hf10 _ (up4 _ hta)) hst2 ?_
 intro nr wa wb c1 c2 c5 f11
 refine AB ?_
 with_reducible
  refine BC ?_
  refine LF ?_
 exact ⟨_, [], rfl, rfl, fun p hp => nomatch hp⟩
end
noncomputable abbrev rI (n : Int) : Value := .int n 0
noncomputable def o35 : Obj := { cls := .type "tuple", data := .seq #[rI 14, rI 14, rI 4, rI 1, rI 1, rI 9, rI 0, rI 64, rI 0, rI 1342177280, rI 0, rI 0, rI 0, rI 0, rI 0, rI 17, rI 0, rI 13, rI 11, rI 9, rI 0, rI 64, rI 0, rI 1342177280, rI 0, rI 0, rI 0, rI 0, rI 0, rI 17, rI 1, rI 1] }
noncomputable def o36 : Obj := { cls := .type "re.Pattern", data := .fields #[.str (ofString "([&~|])") 283, .int 32 318, rI 1, .none, .none, .ref 35, rI 0] }
theorem LA {h h' : Heap} {x : PySem.Str} {v : Value} (e : h.nsMap mainGlobals x = some v) (k : ∀ b o, h.get? b = some o → h'.get? b = some o) : h'.nsMap mainGlobals x = some v := by
 unfold Heap.nsMap at e ⊢
 cases hg : h.get? mainGlobals with
 | none => rw [hg] at e; cases e
 | some o => rw [hg] at e; rw [k _ _ hg]; exact e
noncomputable def N2 : Hook where
 α := Option Value × Option Obj × Option Obj
 obs := fun s => (s.heap.nsMap mainGlobals (ofString "_twin_re_1"), s.heap.get? 35, s.heap.get? 36)
 val := fun _ => (some (.ref 36), some o35, some o36)
 says := fun _ h => h.nsMap mainGlobals (ofString "_twin_re_1") = some (.ref 36) ∧ h.get? 35 = some o35 ∧ h.get? 36 = some o36
 of := fun w s e => ⟨congrArg Prod.fst e, congrArg (·.2.1) e, congrArg (·.2.2) e⟩
 keeps := fun w h h' x k => ⟨LA x.1 k, k _ _ x.2.1, k _ _ x.2.2⟩
noncomputable def PO : Arguments := { posonlyargs := [], args := [], vararg := none, kwonlyargs := [], kw_defaults := [], kwarg := none, defaults := [] }
noncomputable def DE (i : Nat) : Arguments := match PX i with | some (_, a, _, _) => a | none => PO
noncomputable def Fa (p : Program) (name : PySem.Str) (i : Nat) : Prop := ((recsOf p).find? (fun d => d.name == name)).map (fun d => (d.params, d.body, d.scope)) = some (DE i, Av i, Al i)
noncomputable def CZ (i : Nat) (ps : List PySem.Str) : Prop := ∀ (name : PySem.Str) (body : List Stmt) (scope : Scope) (pm code doc : Value) (vs : List Value), vs.length = ps.length → bindArgs (docDef name (DE i) body scope pm code doc) ⟨vs, []⟩ = pure (ps.zip vs)
theorem PP {α : Type} : ∀ {vs : List α}, vs.length = 2 → ∃ a b, vs = [a, b] := fun {vs} h => by
 cases vs with
 | nil => cases h
 | cons a t => cases t with
  | nil => cases h
  | cons b u => cases u with
   | nil => exact ⟨a, b, rfl⟩
   | cons => cases h
theorem Pp {α : Type} : ∀ {vs : List α}, vs.length = 3 → ∃ a b c, vs = [a, b, c] := fun {vs} h => by
 cases vs with
 | nil => cases h
 | cons a t =>
  obtain ⟨b, c, rfl⟩ := PP (vs := t) (Nat.succ.inj h)
  exact ⟨a, b, c, rfl⟩
theorem Qb {i : Nat} {x : PySem.Str} (h : ∀ name body scope pm code doc a, bindArgs (docDef name (DE i) body scope pm code doc) ⟨[a], []⟩ = pure [(x, a)]) : CZ i [x] := fun n b s p c d vs hv => by
 obtain ⟨a, rfl⟩ := List.length_eq_one_iff.mp hv
 exact h n b s p c d a
theorem Pq {i : Nat} {x y : PySem.Str} (h : ∀ name body scope pm code doc a b, bindArgs (docDef name (DE i) body scope pm code doc) ⟨[a, b], []⟩ = pure [(x, a), (y, b)]) : CZ i [x, y] := fun n b s p c d vs hv => by
 obtain ⟨a, a2, rfl⟩ := PP hv
 exact h n b s p c d a a2
theorem bind3 {i : Nat} {x y z : PySem.Str} (h : ∀ name body scope pm code doc a b d, bindArgs (docDef name (DE i) body scope pm code doc) ⟨[a, b, d], []⟩ = pure [(x, a), (y, b), (z, d)]) : CZ i [x, y, z] := fun n b s p c d vs hv => by
 obtain ⟨a, a2, a3, rfl⟩ := Pp hv
 exact h n b s p c d a a2 a3
theorem bind_6 : CZ 6 [(ofString "pat"), (ofString "STAR"), (ofString "QUESTION_MARK")] := bind3 fun _ _ _ _ _ _ _ _ _ => by kernel_rfl
theorem bind_7 : CZ 7 [(ofString "inp"), (ofString "STAR")] := Pq fun _ _ _ _ _ _ _ _ => by kernel_rfl
theorem bind_9 : CZ 9 [(ofString "inside")] := Qb fun _ _ _ _ _ _ _ => by kernel_rfl
theorem bind_10 : CZ 10 [(ofString "pieces"), (ofString "stars"), (ofString "choices")] := bind3 fun _ _ _ _ _ _ _ _ _ => by kernel_rfl
theorem bind_11 : CZ 11 [(ofString "text"), (ofString "k")] := Pq fun _ _ _ _ _ _ _ _ => by kernel_rfl
theorem bind_12 : CZ 12 [(ofString "text"), (ofString "k")] := Pq fun _ _ _ _ _ _ _ _ => by kernel_rfl
theorem bind_13 : CZ 13 [(ofString "text")] := Qb fun _ _ _ _ _ _ _ => by kernel_rfl
theorem bind_14 : CZ 14 [(ofString "steps"), (ofString "name")] := Pq fun _ _ _ _ _ _ _ _ => by kernel_rfl
theorem bind_15 : CZ 15 [(ofString "script")] := Qb fun _ _ _ _ _ _ _ => by kernel_rfl
theorem CF {h : Heap} {P a : Addr} {o : Obj} (hP : h.get? P = some (tabObj #[])) (ha : h.get? a = some o) (ho : o ≠ tabObj #[]) : (hideAll h [P]).get? a = some o := by
 refine hideAll_get _ ha fun q => ?_
 rw [List.mem_singleton] at q
 subst q
 rw [ha] at hP
 exact ho (Option.some.inj hP)
theorem JW {h : Heap} {P a : Addr} {m : PySem.Str → Option Value} (hP : h.get? P = some (tabObj #[])) (hn : h.Ns a m) : (hideAll h [P]).Ns a m := by
 refine Ae (fun G_ hG_ => ?_)
 obtain ⟨o, es, ep, h1, h2, r⟩ := hn
 refine hG_ ?_
 clear hG_ G_
 exact ⟨o, es, ep, CF hP h1 (fun q => by rw [q] at h2; cases h2), h2, r⟩
theorem N3 {h : Heap} {P : Addr} {cd : Value} {q : PySem.Str} (hP : h.get? P = some (tabObj #[])) (hc : h.CodeRec cd q) : (hideAll h [P]).CodeRec cd q := by
 refine Ae (fun G_ hG_ => ?_)
 obtain ⟨c, o, vs, t, e, h1, h2, h3⟩ := hc
 refine hG_ ?_
 clear hG_ G_
 refine ⟨c, o, vs, t, e, CF hP h1 (fun z => ?_), h2, h3⟩
 rw [z] at h2
 cases h2
 cases h3
theorem Hk {prog p : Program} {w : World} {loose : List PySem.Str} {mean : ExcName → Option Value} {mg mb : PySem.Str → Option Value} {h : Heap} (T : Top p loose mean mg mb h) {P : Addr} (hP : h.get? P = some (tabObj #[]))
  {name : PySem.Str} {ps : List PySem.Str} {i : Nat} (e : Fa p name i) (hbd : CZ i ps) : ∃ a, D0 ⟨prog, w, hideAll h [P], mg, mb⟩ a name ps (Av i) (Al i) := by
 unfold Fa at e
 cases hf : (recsOf p).find? (fun d => d.name == name) with
 | none => rw [hf] at e; cases e
 | some d =>
  rw [hf] at e
  have e' := Option.some.inj e
  have e1 : d.params = DE i := congrArg (·.1) e'
  have e2 : d.body = Av i := congrArg (·.2.1) e'
  have e3 : d.scope = Al i := congrArg (·.2.2) e'
  have hn : d.name = name := by have := List.find?_some hf; simpa using this
  refine Ae (fun G_ hG_ => ?_)
  obtain ⟨a, o, pm, code, doc, h1, h2, h3, h4⟩ := T.fn d (List.mem_of_find?_eq_some hf)
  refine hG_ ?_
  clear hG_ G_
  rw [hn] at h1 h4
  refine ⟨a, h1, o, _, CF hP h2 (fun q => by rw [q] at h3; cases h3), h3, ?_, ?_, e3, rfl, rfl, rfl, rfl, rfl, ?_⟩
  ·rw [e1]; exact hbd _ _ _ _ _ _
  ·show FuncBody.stmts d.body = _; rw [e2]
  ·show (hideAll h [P]).CodeRec code d.name
   rw [hn]; exact N3 hP h4
theorem Jf {P : Params} {h : Heap} : ∀ {vs : List Value} {ds : List WData}, WellAll P h vs ds → WShape.hasItems [] ds .int = true → ∃ zs, Ints zs vs ∧ zs.length = ds.length
 | [], [], _, _ => ⟨[], .nil, rfl⟩
 | v :: vs, d :: ds, hw, hs => by
  cases hw with
  | cons h1 h2 =>
   simp only [WShape.hasItems, Bool.and_eq_true] at hs
   obtain ⟨i, rfl⟩ := hasW_int hs.1
   cases h1
   obtain ⟨zs, h3, h4⟩ := Jf h2 hs.2
   exact ⟨i :: zs, .cons ⟨_, rfl⟩ h3, by simp [h4]⟩
 | [], d :: ds, hw, _ => by cases hw
 | v :: vs, [], hw, _ => by cases hw
noncomputable abbrev G8 : List PySem.Str := [ofString "_twin_re_1", ofString "_special_chars_map"]
theorem G9 {p : Program} {loose : List PySem.Str} {mean : ExcName → Option Value} {mg mb : PySem.Str → Option Value} {h : Heap} (T : Top p loose mean mg mb h) {x : PySem.Str} {v : Value} (hx : x ≠ "__name__") (e : bootBuiltins x = some v) : mb x = some v := by rw [T.builtins x hx, e]
theorem none_of {p : Program} {loose : List PySem.Str} {mean : ExcName → Option Value} {mg mb : PySem.Str → Option Value} {h : Heap} (T : Top p loose mean mg mb h) {x : PySem.Str}
  (e : (decide (x ∉ startupNames) && decide (x ∉ loose) && decide (x ∉ (recsOf p).map (·.name)) && decide (x ∉ (litsOf p).map (·.1)) && decide (x ∉ (clssOf p loose).map (·.name))) = true) : mg x = none := by
 simp only [Bool.and_eq_true, decide_eq_true_eq] at e
 refine Ae (fun G_ hG_ => ?_)
 obtain ⟨⟨⟨⟨h1, h2⟩, h3⟩, h4⟩, h5⟩ := e
 refine hG_ ?_
 clear hG_ G_
 exact T.free x h1 h2 h3 h4 h5
theorem pat_of {h : Heap} {P : Addr} (hP : h.get? P = some (tabObj #[])) (h35 : h.get? 35 = some o35) (h36 : h.get? 36 = some o36) : F5 (hideAll h [P]) 36 :=
 ⟨o36, 35, o35, 0, _, _, CF hP h36 (fun q => by cases congrArg Obj.cls q), rfl, rfl, rfl, CF hP h35 (fun q => by cases congrArg Obj.cls q), by kernel_rfl⟩
theorem law_walk {q : Program} (w : World) (s₀ s₁ : Shared) (mg mb : PySem.Str → Option Value) {XP : (PySem.Str → Option Value) → Heap → Prop} (G : Ground q G8 [] XP w s₀ mg mb s₁.heap) (Y : N2.says w s₁.heap)
  (dj : Fa q (ofString "_join_translated_parts") 7) (dt : Fa q (ofString "_translate") 6) (d1 : Fa q (ofString "_law_one") 11) (d2 : Fa q (ofString "_law_set") 12) (ds : Fa q (ofString "_law_steps") 13) (de : Fa q (ofString "_law_ends") 14)
  (dm : Fa q (ofString "_law_many") 10) (dn : Fa q (ofString "_law_means") 9) (dl : Fa q (ofString "law") 15)
  (hfree : ∀ x ∈ [(ofString "len"), (ofString "range"), (ofString "sum"), (ofString "max"), (ofString "object")], (decide (x ∉ startupNames) && decide (x ∉ looseW q G8) && decide (x ∉ (recsOf q).map (·.name)) && decide (x ∉ (litsOf q).map (·.1)) && decide (x ∉ (clssOf q (looseW q G8)).map (·.name))) = true)
  {a : Addr} (hmg : mg (ofString "law") = some (.ref a)) (hg : s₁.gens = #[]) {args : List WData} {vals : List Value} (hpre : PySem.Challenge.rw_ko0024_01.row.toRowW.claim.pre args = true) (hwl : WellAll w.params s₁.heap vals args) :
  wpAny (model PySem.Challenge.rw_ko0024_01.row.toRowW.prog w) callerA (call (.ref a) vals) (fun v s' => GoodWG PySem.Challenge.rw_ko0024_01.row.toRowW.claim (classAt s₀.heap) (ExcName.means s₀.heap) args s₁ (.ok (.ret v)) s')
    (fun e s' => GoodWG PySem.Challenge.rw_ko0024_01.row.toRowW.claim (classAt s₀.heap) (ExcName.means s₀.heap) args s₁ (.error e) s') s₁ := by
 have T := G.T
 obtain ⟨hY1, hY2, hY3⟩ := Y
 obtain ⟨dT, hdT⟩ : ∃ d, (recsOf q).find? (fun d => d.name == (ofString "_translate")) = some d := by
  unfold Fa at dt
  cases hf : (recsOf q).find? (fun d => d.name == (ofString "_translate")) with
  | none => rw [hf] at dt; cases dt
  | some d => exact ⟨d, rfl⟩
 have hnT : dT.name = (ofString "_translate") := by have := List.find?_some hdT; simpa using this
 refine Ae (fun G_ hG_ => ?_)
 obtain ⟨aT, oT, fdT, cc, P, t1, t2, t3, t4, t5, t6⟩ := T.tab dT (List.mem_of_find?_eq_some hdT)
 refine hG_ ?_
 clear hG_ G_
 rw [hnT] at t1
 have hP : s₁.heap.get? P = some (tabObj #[]) := t6.2
 refine Ae (fun G_ hG_ => ?_)
 obtain ⟨atr, Ft⟩ := Hk (prog := PySem.Challenge.rw_ko0024_01.row.toRowW.prog) (w := w) T hP dt bind_6
 obtain ⟨aj, Fj⟩ := Hk (prog := PySem.Challenge.rw_ko0024_01.row.toRowW.prog) (w := w) T hP dj bind_7
 obtain ⟨a1, F1⟩ := Hk (prog := PySem.Challenge.rw_ko0024_01.row.toRowW.prog) (w := w) T hP d1 bind_11
 obtain ⟨a2, F2⟩ := Hk (prog := PySem.Challenge.rw_ko0024_01.row.toRowW.prog) (w := w) T hP d2 bind_12
 obtain ⟨ast, Fs⟩ := Hk (prog := PySem.Challenge.rw_ko0024_01.row.toRowW.prog) (w := w) T hP ds bind_13
 obtain ⟨ae, Fe⟩ := Hk (prog := PySem.Challenge.rw_ko0024_01.row.toRowW.prog) (w := w) T hP de bind_14
 obtain ⟨am, Fm⟩ := Hk (prog := PySem.Challenge.rw_ko0024_01.row.toRowW.prog) (w := w) T hP dm bind_10
 obtain ⟨amn, Fn⟩ := Hk (prog := PySem.Challenge.rw_ko0024_01.row.toRowW.prog) (w := w) T hP dn bind_9
 obtain ⟨al, Fl⟩ := Hk (prog := PySem.Challenge.rw_ko0024_01.row.toRowW.prog) (w := w) T hP dl bind_15
 refine hG_ ?_
 clear hG_ G_
 have hal : al = a := by have := Fl.glob; have e2 : some (Value.ref al) = some (Value.ref a) := this.symm.trans hmg; injection e2 with z; injection z
 have Fl := hal ▸ Fl
 have hat : atr = aT := by have := Ft.glob; have e2 : some (Value.ref atr) = some (Value.ref aT) := this.symm.trans t1; injection e2 with z; injection z
 have Ft := hat ▸ Ft
 have hCd : CodeHd s₁.heap cc P := CodeHd.of t5 t6
 have hC : CodeHd (hideAll s₁.heap [P]) cc P := by
  refine Ae (fun G_ hG_ => ?_)
  obtain ⟨o, vs, file, tf, flags, tg, inF, text, tt, k1, k2, r⟩ := hCd
  refine hG_ ?_
  clear hG_ G_
  exact ⟨o, vs, file, tf, flags, tg, inF, text, tt, CF hP k1 (fun z => by rw [z] at k2; cases k2), k2, r⟩
 have hnone := hideAll_none [P] (h := s₁.heap) (b := P) List.mem_cons_self
 have hmg36 : mg (ofString "_twin_re_1") = some (.ref 36) := by rw [T.g.eq_nsMap]; exact hY1
 have fr := fun x hx => none_of T (hfree x hx)
 have K : LawCx ⟨PySem.Challenge.rw_ko0024_01.row.toRowW.prog, w, hideAll s₁.heap [P], mg, mb⟩ P cc 36 aj aT a1 a2 ast ae am amn := by
  refine ⟨⟨JW hP T.g, JW hP T.b, ?_⟩, Fj, Ft, F1, F2, Fs, Fe, Fm, Fn, ?_, hC, hnone, ?_, pat_of hP hY2 hY3, hmg36,
   fr _ (by simp), G9 T (by decide) (by kernel_rfl), fr _ (by simp), G9 T (by decide) (by kernel_rfl), fr _ (by simp), G9 T (by decide) (by kernel_rfl), fr _ (by simp), G9 T (by decide) (by kernel_rfl), fr _ (by simp), G9 T (by decide) (by kernel_rfl)⟩
  ·obtain ⟨mc, n1, n2⟩ := T.nolimit
   exact ⟨mc, JW hP n1, n2⟩
  ·exact ⟨oT, fdT, CF hP t2 (fun z => by rw [z] at t3; cases t3), t3, t4⟩
  ·refine Ae (fun G_ hG_ => ?_)
   obtain ⟨bm, ob, m1, m2, m3, m4, m5, m6⟩ := T.bmain
   refine hG_ ?_
   clear hG_ G_
   refine ⟨bm, ob, m1, m2, fun z => ?_, fun z => ?_, CF hP m3 (fun z => by rw [z] at m6; cases m6), m4, m5, m6⟩
   ·refine Ae (fun G_ hG_ => ?_)
    obtain ⟨o, es, ep, g1, g2, _⟩ := T.g
    refine hG_ ?_
    clear hG_ G_
    rw [z, g1] at m3
    cases m3
    rw [g2] at m6; cases m6
   ·rw [z, hP] at m3
    cases m3
    cases m6
 have hsh : WShape.hasAll [] args [.list .int] = true := (Bool.and_eq_true_iff.mp hpre).1
 have hpc : PySem.Challenge.rw_ko0024_01.row.toRowW.pre.holds [] { args := args } = true := (Bool.and_eq_true_iff.mp hpre).2
 refine Ae (fun G_ hG_ => ?_)
 obtain ⟨d, r, rfl, hd, hr⟩ := hasAllW_cons hsh
 refine hG_ ?_
 clear hG_ G_
 cases hasAllW_nil hr
 obtain ⟨xs, rfl, hxs⟩ := hasW_list hd
 cases hwl with
 | cons hw1 hw2 =>
  cases hw2
  cases hw1 with
  | @list sa sv _ hsa hwa =>
   obtain ⟨zs, hz, hzl⟩ := Jf hwa hxs
   have h63 : zs.length ≤ 63 := by
    rw [hzl]
    obtain ⟨h1, _⟩ := holds_andW hpc
    have hc := condW_of h1 (by wtm_val)
    simp only [Bool.not_eq_true', decide_eq_false_iff_not] at hc
    lia
   have hspec := Po K Fl hz h63 (sa := sa) (fs := [(sa, D.list sv)]) List.mem_cons_self
   have hne : sa ≠ P := fun z => by rw [z, hP] at hsa; cases hsa
   refine wpAny_mono (hspec callerA s₁ (tabObj #[]) ⟨rfl, by decide, by decide⟩ (fun b o e => of_hideAll _ e) hnone hP ⟨#[], rfl, trivial⟩ (fun p hp => ?_) (.of_eq hg)) (fun v s' hp => ?_) (fun _ _ x => x.elim)
   ·rw [List.mem_singleton.mp hp]
    exact ⟨⟨_, hsa, 0, rfl⟩, hne⟩
   ·refine Ae (fun G_ hG_ => ?_)
    obtain ⟨g1, g2, g3, ⟨o', g4, ps, rfl, g5⟩, nz, g6, rfl⟩ := hp
    refine hG_ ?_
    clear hG_ G_
    refine ⟨.inl ⟨.bool true, .bool true, [], rfl, fun cls => rfl, .bool true, ?_, fun _ => ⟨List.nodup_nil, fun a h => nomatch h⟩⟩, ?_, g2, g1⟩
    ·exact postW_of (by wrow_shape) (by wtm_val) (by w_fin)
    ·have hcP : cc ≠ P := by obtain ⟨_, _, _, _, _, _, _, _, _, _, _, _, _, _, _, _, _, _, h⟩ := hCd; exact h
     have tb : ∀ qs, s'.heap.get? P = some (tabObj qs) → s'.heap.TableAt cc P qs := fun qs hq => by
      refine Ae (fun G_ hG_ => ?_)
      obtain ⟨⟨o, vs, c1, c2, c3, c4⟩, _⟩ := t6
      refine hG_ ?_
      clear hG_ G_
      exact ⟨⟨o, vs, g3 _ _ hcP c1, c2, c3, c4⟩, hq⟩
     refine (OldK.refl s₁.heap).step_table t6 t6 (more := ps) ?_ g3 ?_
     ·exact tb _ (by rw [g4]; simp)
     ·intro z
      refine Ae (fun G_ hG_ => ?_)
      obtain ⟨mc, ⟨o, es, ep, n1, n2, _⟩, _⟩ := T.nolimit
      refine hG_ ?_
      clear hG_ G_
      rw [← z, hP] at n1
      cases n1
      cases n2
noncomputable abbrev pwL : Program := PySem.Challenge.pw_ko0024_01
noncomputable def qv : Program := { pwL with main := { pwL.main with body := [0, 1, 3, 4, 6, 7, 9, 10, 11, 12, 13, 14, 15].filterMap fun i => pwL.main.body[i]? } }
noncomputable def xtL (s : Shared) : Bool := xlAt qv [] s && recOk [] s
noncomputable def LD (w : World) : Prop := Option.map (fun s => (openSeen qv G8 (importedModules pwL.main.body) xtL true s, N2.obs s)) (openEnds treeTable pwL w 3430) = some (openGood qv G8, N2.val w)
theorem run00 (w : World) : LD ((w.withFollow "special-get-raises" false).withFollow "comprehension-iter-twice" false) := by
 unfold LD
 kernel_rfl
theorem run01 (w : World) : LD ((w.withFollow "special-get-raises" true).withFollow "comprehension-iter-twice" false) := by
 unfold LD
 kernel_rfl
theorem run10 (w : World) : LD ((w.withFollow "special-get-raises" false).withFollow "comprehension-iter-twice" true) := by
 unfold LD
 kernel_rfl
theorem run11 (w : World) : LD ((w.withFollow "special-get-raises" true).withFollow "comprehension-iter-twice" true) := by
 unfold LD
 kernel_rfl
theorem runs_all (w : World) : LD w :=
 byRow2 "comprehension-iter-twice" (P := LD) (fun w => byRow2 "special-get-raises" (P := fun w => LD (w.withFollow "comprehension-iter-twice" false)) run00 run01 w)
  (fun w => byRow2 "special-get-raises" (P := fun w => LD (w.withFollow "comprehension-iter-twice" true)) run10 run11 w) w
theorem law_said : PySem.Challenge.rw_ko0024_01.wellSaid = true := by kernel_rfl
noncomputable def lawD : DefRec := match defOf qv (ofString "law") with | some (d, _) => d | none => ⟨(ofString "law"), PO, [], default, ⟨0, 0, 0, 0⟩⟩
theorem free_names : ([(ofString "len"), (ofString "range"), (ofString "sum"), (ofString "max"), (ofString "object")].all fun x => (decide (x ∉ startupNames) && decide (x ∉ looseW qv G8) && decide (x ∉ (recsOf qv).map (·.name)) && decide (x ∉ (litsOf qv).map (·.1)) && decide (x ∉ (clssOf qv (looseW qv G8)).map (·.name)))) = true := by kernel_rfl
end
end Mine
theorem PySem.Challenge.cw_ko0024_01_holds : PySem.Challenge.rw_ko0024_01.Holds := by
 refine holds_law Mine.law_said fun said => ?_
 refine W.holds_open (r := PySem.Challenge.rw_ko0024_01.row) (q := Mine.qv) (loose := Mine.G8) (Xt := Mine.xtL) (XP := XL Mine.qv []) (Yf := Mine.N2.obs) (Ya := Mine.N2.val) (YP := Mine.N2.says) (N := 3430) (d := Mine.lawD) (kwd := [])
  Mine.runs_all Mine.N2.of Mine.N2.keeps (fun s e => xl_of s (Bool.and_eq_true_iff.mp e).1) XL.keeps (by kernel_rfl) (by kernel_rfl) (by kernel_rfl) (fun s e => recFacts_of (Bool.and_eq_true_iff.mp e).2) rfl said (by kernel_rfl) ⟨rfl, rfl, rfl, rfl, rfl, by decide +kernel⟩ ⟨[.list []], by decide +kernel, by decide +kernel⟩ ?_
 intro w s₀ s₁ mg mb G Y fa o pm cd doc dV kV ho hd hcd hD hmg hg args vals as hpre hlay hrd hwl hlo
 exact Mine.law_walk w s₀ s₁ mg mb G Y (by unfold Mine.Fa; kernel_rfl) (by unfold Mine.Fa; kernel_rfl) (by unfold Mine.Fa; kernel_rfl) (by unfold Mine.Fa; kernel_rfl) (by unfold Mine.Fa; kernel_rfl) (by unfold Mine.Fa; kernel_rfl) (by unfold Mine.Fa; kernel_rfl) (by unfold Mine.Fa; kernel_rfl) (by unfold Mine.Fa; kernel_rfl)
  (List.all_eq_true.mp Mine.free_names) hmg hg hpre hwl
namespace Mine
