import PyProof.Rows.All
import Wide.All
import OpenK.AllK
import Wide.FinOn
import Lean
import PySem.Challenge.RW_rs0124_02
open PySem PySem.W PyProof.Rows
set_option Elab.async false
set_option maxRecDepth 100000
set_option linter.unusedVariables false
set_option linter.unusedSimpArgs false
namespace Mine

/-- what stays the same through the whole call -/
structure Sur where
  prog : Program
  w : World
  x : Shared
  h₁ : Heap
  T : Addr
  K : Frag
  mg : Str → Option Value
  mb : Str → Option Value

/-- surroundings of a level: nothing handled, room below -/
def Lv (k : Nat) : Around := { handled := none, depth := 310 + 10 * k, frames := none, guards := none, units := 50 + 100 * k }
def Sur.st (Z : Sur) (h : Heap) (tk : Nat) : Shared := ⟨h, Z.x.gens, Z.x.drawn, tk, Z.x.os⟩

theorem in_weaken {A A' : Around} {Γ : Ctx} (h : Γ.In A) (h1 : A.handled = A'.handled) (h2 : A.depth ≤ A'.depth) (h3 : A'.frames = none) (h4 : A'.guards = none) (h5 : A.units ≤ A'.units) : Γ.In A' :=
  ⟨h.1.trans h1, Nat.le_trans h.2.1 h2, (fun l e => by rw [h3] at e; cases e), (fun l e => by rw [h4] at e; cases e), Nat.le_trans h.2.2.2.2 h5⟩
theorem below_weaken {A A' : Around} {Γ : Ctx} (h : Γ.Below A) (h1 : A.handled = A'.handled) (h2 : A.depth ≤ A'.depth) (h3 : A'.frames = none) (h4 : A'.guards = none) (h5 : A.units ≤ A'.units) : Γ.Below A' :=
  ⟨h.1.trans h1, Nat.le_trans h.2.1 h2, (fun l e => by rw [h3] at e; cases e), (fun l e => by rw [h4] at e; cases e), Nat.le_trans h.2.2.2.2 h5⟩
theorem wpAny_weaken {α : Type} {M : Model} {A A' : Around} {t : Sem α} {Q : α → Shared → Prop} {E : Value → Shared → Prop} {s : Shared} (h : wpAny M A' t Q E s)
    (h1 : A.handled = A'.handled) (h2 : A.depth ≤ A'.depth) (h3 : A'.frames = none) (h4 : A'.guards = none) (h5 : A.units ≤ A'.units) : wpAny M A t Q E s :=
  fun Γ p hΓ => h Γ p (in_weaken hΓ h1 h2 h3 h4 h5)
theorem codeAny_weaken {M : Model} {A A' : Around} {c : Code} {R : Result → Shared → Prop} {s : Shared} (h : codeAny M A' c R s)
    (h1 : A.handled = A'.handled) (h2 : A.depth ≤ A'.depth) (h3 : A'.frames = none) (h4 : A'.guards = none) (h5 : A.units ≤ A'.units) : codeAny M A c R s :=
  fun Γ p hc hΓ => h Γ p hc (below_weaken hΓ h1 h2 h3 h4 h5)

/-- a tree, from a heap: it ends, raises nothing, Q of what it hands back and of the heap -/
structure W {α : Type} (Z : Sur) (k : Nat) (t : Sem α) (Q : α → Heap → Prop) (h : Heap) : Prop where
  run : ∀ tk, wpAny (model Z.prog Z.w) (Lv k) t (fun v s => ∃ h' tk', s = Z.st h' tk' ∧ Q v h') (fun _ _ => False) (Z.st h tk)
/-- a code, likewise -/
structure C (Z : Sur) (k : Nat) (c : Code) (R : Flow → Heap → Prop) (h : Heap) : Prop where
  run : ∀ tk, codeAny (model Z.prog Z.w) (Lv k) c (fun r s => ∃ f h' tk', r = .ok f ∧ s = Z.st h' tk' ∧ R f h') (Z.st h tk)

section
variable {α β : Type} {Z : Sur} {k : Nat} {h : Heap}
theorem W.pure {a : α} {Q : α → Heap → Prop} (q : Q a h) : W Z k (pure a) Q h := .mk fun tk => wpAny_pure ⟨h, tk, rfl, q⟩
theorem W.pure' {a : α} {Q : α → Heap → Prop} (q : Q a h) : W Z k (Sem.pure a) Q h := .mk fun tk => wpAny_pure ⟨h, tk, rfl, q⟩
theorem W.bind {m : Sem α} {f : α → Sem β} {Q : β → Heap → Prop} (q : W Z k m (fun a h' => W Z k (f a) Q h') h) : W Z k (m >>= f) Q h := .mk fun tk => wpAny_bind (wpAny_mono (q.run tk) (fun _ _ ⟨_, tk', e, w⟩ => e ▸ w.run tk') fun _ _ e => e.elim)
theorem W.bind' {m : Sem α} {f : α → Sem β} {Q : β → Heap → Prop} (q : W Z k m (fun a h' => W Z k (f a) Q h') h) : W Z k (m.bind f) Q h := W.bind q
theorem W.mono {t : Sem α} {Q Q' : α → Heap → Prop} (q : W Z k t Q h) (hq : ∀ a h', Q a h' → Q' a h') : W Z k t Q' h := .mk fun tk => wpAny_mono (q.run tk) (fun _ _ ⟨h', tk', e, w⟩ => ⟨h', tk', e, hq _ _ w⟩) fun _ _ e => e
theorem W.up {k' : Nat} {t : Sem α} {Q : α → Heap → Prop} (q : W Z k' t Q h) (hk : k ≤ k') : W Z k t Q h := .mk fun tk => wpAny_weaken (q.run tk) rfl (by show 310 + 10 * k ≤ 310 + 10 * k'; omega) rfl rfl (by show 50 + 100 * k ≤ 50 + 100 * k'; omega)
theorem C.up {k' : Nat} {c : Code} {R : Flow → Heap → Prop} (q : C Z k' c R h) (hk : k ≤ k') : C Z k c R h := .mk fun tk => codeAny_weaken (q.run tk) rfl (by show 310 + 10 * k ≤ 310 + 10 * k'; omega) rfl rfl (by show 50 + 100 * k ≤ 50 + 100 * k'; omega)
theorem C.mono {c : Code} {R R' : Flow → Heap → Prop} (q : C Z k c R h) (hq : ∀ f h', R f h' → R' f h') : C Z k c R' h := .mk fun tk => codeAny_mono (q.run tk) fun _ _ ⟨f, h', tk', e, e', w⟩ => ⟨f, h', tk', e, e', hq _ _ w⟩
theorem W.holding {vs : List Value} {m : Sem α} {Q : α → Heap → Prop} (q : W Z k m Q h) : W Z k (holding vs m) Q h := .mk fun tk => wpAny_holding (q.run tk)
theorem W.standAt {p : Pos} {Q : Unit → Heap → Prop} (q : Q () h) : W Z k (standAt p) Q h := .mk fun tk => wpAny_standAt ⟨h, tk, rfl, q⟩
theorem W.rule {t : String} {Q : Unit → Heap → Prop} (q : Q () h) : W Z k (rule t) Q h := .mk fun tk => wpAny_rule ⟨h, tk, rfl, q⟩
theorem W.point {Q : Unit → Heap → Prop} (q : Q () h) : W Z k point Q h := .mk fun tk => wpAny_point ⟨h, tk, rfl, q⟩
theorem W.load {a : Addr} {o : Obj} {Q : Obj → Heap → Prop} (ho : h.get? a = some o) (q : Q o h) : W Z k (load a) Q h := .mk fun tk => wpAny_load ho ⟨h, tk, rfl, q⟩
theorem W.ite_true {c : Prop} [Decidable c] {a b : Sem α} {Q : α → Heap → Prop} (hc : c) (q : W Z k a Q h) : W Z k (if c then a else b) Q h := by rw [if_pos hc]; exact q
theorem W.ite_false {c : Prop} [Decidable c] {a b : Sem α} {Q : α → Heap → Prop} (hc : ¬ c) (q : W Z k b Q h) : W Z k (if c then a else b) Q h := by rw [if_neg hc]; exact q
theorem W.of_eq {t t' : Sem α} {Q : α → Heap → Prop} (e : t = t') (q : W Z k t' Q h) : W Z k t Q h := e ▸ q
theorem W.exec {c : Code} {Q : Flow → Heap → Prop} (q : C Z k c Q h) : W Z k (PySem.run c) Q h := .mk fun tk =>
  wpAny_run (codeAny_mono (q.run tk) fun r s' ⟨f, h', tk', e, e', w⟩ => by subst e; exact ⟨h', tk', e', w⟩)
theorem W.call {f : Value} {pos : List Value} {kw : List (Str × Value)} {Q : Value → Heap → Prop} (q : C Z k (.call f ⟨pos, kw⟩) (fun f h' => ∃ v, f = .ret v ∧ Q v h') h) : W Z k (PySem.call f pos kw) Q h := .mk fun tk =>
  wpAny_call (codeAny_mono (q.run tk) fun r s' ⟨f, h', tk', e, e', v, ev, w⟩ => by subst e; subst ev; exact ⟨h', tk', e', w⟩)
end

/-! ## the ledger -/
inductive Ob where
  | obj (o : Obj)
  | ns (al : List (Str × Option Value))
  | lst (xs : List Value)
  | cell (v : Option Value)
  | dct (al : List (Str × Option Value))
  | rcd (ty : String) (vs : Array Value)

def Loc := List (Str × Option Value)
def locMap (al : List (Str × Option Value)) (x : Str) : Option Value := (al.lookup x).join

def locCount (al : List (Str × Option Value)) : Nat := (al.filter fun p => p.2.isSome).length
def Ob.At (h : Heap) (a : Addr) : Ob → Prop
  | .obj o => h.get? a = some o
  | .ns al => (al.map (·.1)).Nodup ∧ h.Ns a (locMap al)
  | .lst xs => ∃ n, h.get? a = some { cls := .type "list", data := .seq xs.toArray n }
  | .cell v => h.IsCell a v
  | .dct al => (al.map (·.1)).Nodup ∧ ∃ es n, h.get? a = some { cls := .type "dict", data := .dict es n } ∧ StrKeys es ∧ (∀ x, nsFind es x = locMap al x) ∧ es.size = locCount al
  | .rcd ty vs => ∃ o, h.get? a = some o ∧ o.cls = .type ty ∧ o.data = .fields vs

theorem Ob.At.lt {h : Heap} {a : Addr} : ∀ {o : Ob}, o.At h a → a < h.objs.size
  | .obj _, e => Heap.lt_size e
  | .ns _, e => Heap.Ns.lt e.2
  | .lst _, ⟨_, e⟩ => Heap.lt_size e
  | .cell _, e => Heap.IsCell.lt e
  | .dct _, ⟨_, _, _, e, _⟩ => Heap.lt_size e
  | .rcd _ _, ⟨_, e, _⟩ => Heap.lt_size e
theorem Ob.At.congr {h h' : Heap} {a : Addr} (e : h'.get? a = h.get? a) : ∀ {o : Ob}, o.At h a → o.At h' a
  | .obj _, x => e.trans x
  | .ns _, ⟨n, o, es, ep, x, r⟩ => ⟨n, o, es, ep, e.trans x, r⟩
  | .lst _, ⟨n, x⟩ => ⟨n, e.trans x⟩
  | .cell _, ⟨o, x, r⟩ => ⟨o, e.trans x, r⟩
  | .dct _, ⟨n, es, ep, x, r⟩ => ⟨n, es, ep, e.trans x, r⟩
  | .rcd _ _, ⟨o, x, r⟩ => ⟨o, e.trans x, r⟩
theorem Ob.At.keeps {h h' : Heap} {a : Addr} (e : ∀ b o, h.get? b = some o → h'.get? b = some o) : ∀ {o : Ob}, o.At h a → o.At h' a
  | .obj _, x => e _ _ x
  | .ns _, ⟨n, o, es, ep, x, r⟩ => ⟨n, o, es, ep, e _ _ x, r⟩
  | .lst _, ⟨n, x⟩ => ⟨n, e _ _ x⟩
  | .cell _, ⟨o, x, r⟩ => ⟨o, e _ _ x, r⟩
  | .dct _, ⟨n, es, ep, x, r⟩ => ⟨n, es, ep, e _ _ x, r⟩
  | .rcd _ _, ⟨o, x, r⟩ => ⟨o, e _ _ x, r⟩

theorem Ob.At.keepsAt {h h' : Heap} {a : Addr} (e : ∀ o, h.get? a = some o → h'.get? a = some o) : ∀ {o : Ob}, o.At h a → o.At h' a
  | .obj _, x => e _ x
  | .ns _, ⟨n, o, es, ep, x, r⟩ => ⟨n, o, es, ep, e _ x, r⟩
  | .lst _, ⟨n, x⟩ => ⟨n, e _ x⟩
  | .cell _, ⟨o, x, r⟩ => ⟨o, e _ x, r⟩
  | .dct _, ⟨n, es, ep, x, r⟩ => ⟨n, es, ep, e _ x, r⟩
  | .rcd _ _, ⟨o, x, r⟩ => ⟨o, e _ x, r⟩
theorem Ob.At.some {h : Heap} {a : Addr} : ∀ {o : Ob}, o.At h a → ∃ x, h.get? a = Option.some x
  | .obj o, e => ⟨o, e⟩
  | .ns _, ⟨_, o, _, _, e, _⟩ => ⟨o, e⟩
  | .lst _, ⟨_, e⟩ => ⟨_, e⟩
  | .cell _, ⟨o, e, _⟩ => ⟨o, e⟩
  | .dct _, ⟨_, _, _, e, _⟩ => ⟨_, e⟩
  | .rcd _ _, ⟨o, e, _⟩ => ⟨o, e⟩
abbrev Led := List (Addr × Ob)

structure St (Z : Sur) (h : Heap) (l : Led) : Prop where
  old : ∀ b o, b ≠ Z.T → Z.h₁.get? b = some o → h.get? b = some o
  at_ : ∀ p ∈ l, p.2.At h p.1
  nd : (l.map (·.1)).Nodup
  lo : ∀ p ∈ l, p.1 = Z.T ∨ Z.h₁.objs.size ≤ p.1
  la : (0 < Z.h₁.objs.size ∧ Z.T ≠ Z.h₁.objs.size - 1) ∧ ∃ o, h.get? (Z.h₁.objs.size - 1) = some o

inductive Upd : Led → Addr → Ob → Ob → Led → Prop
  | here {l : Led} {a : Addr} {o o' : Ob} : Upd ((a, o) :: l) a o o' ((a, o') :: l)
  | there {l l' : Led} {a : Addr} {o o' : Ob} {p : Addr × Ob} : Upd l a o o' l' → Upd (p :: l) a o o' (p :: l')
theorem Upd.mem {l l' : Led} {a : Addr} {o o' : Ob} (U : Upd l a o o' l') : (a, o) ∈ l := by
  induction U with
  | here => exact .head _
  | there _ ih => exact .tail _ ih
theorem Upd.keys {l l' : Led} {a : Addr} {o o' : Ob} (U : Upd l a o o' l') : l'.map (·.1) = l.map (·.1) := by
  induction U with
  | here => rfl
  | there _ ih => simp [ih]
theorem Upd.cases' {l l' : Led} {a : Addr} {o o' : Ob} (U : Upd l a o o' l') (nd : (l.map (·.1)).Nodup) : ∀ p ∈ l', p = (a, o') ∨ (p ∈ l ∧ p.1 ≠ a) := by
  induction U with
  | @here l a o o' =>
    intro p hp
    rcases List.mem_cons.mp hp with rfl | hp
    · exact .inl rfl
    · refine .inr ⟨.tail _ hp, fun e => ?_⟩
      rw [List.map_cons, List.nodup_cons] at nd
      exact nd.1 (List.mem_map.mpr ⟨p, hp, e⟩)
  | @there l l' a o o' q U ih =>
    intro p hp
    rw [List.map_cons, List.nodup_cons] at nd
    rcases List.mem_cons.mp hp with rfl | hp
    · refine .inr ⟨.head _, fun e => nd.1 ?_⟩
      have : (a : Addr) ∈ l.map (·.1) := List.mem_map.mpr ⟨_, U.mem, rfl⟩
      exact e ▸ this
    · rcases ih nd.2 p hp with h | ⟨h, n⟩
      · exact .inl h
      · exact .inr ⟨.tail _ h, n⟩

section
variable {Z : Sur} {h h' : Heap} {l l' : Led}
theorem St.sz (D : St Z h l) : Z.h₁.objs.size ≤ h.objs.size := by
  obtain ⟨⟨h0, _⟩, o, e⟩ := D.la
  have : Z.h₁.objs.size - 1 < h.objs.size := Heap.lt_size e
  omega
theorem St.upd {a : Addr} {o o' : Ob} (D : St Z h l) (U : Upd l a o o' l') (hs : Heap.SameBut a h h') (ha : o'.At h' a) : St Z h' l' := by
  have hm := U.mem
  refine ⟨fun b ob hb e => ?_, fun p hp => ?_, by rw [U.keys]; exact D.nd, fun p hp => ?_, D.la.1, ?_⟩
  · have hne : b ≠ a := by
      rcases D.lo _ hm with e' | e'
      · exact fun x => hb (x.trans e')
      · exact Nat.ne_of_lt (Nat.lt_of_lt_of_le (Heap.lt_size e) e')
    exact (hs.2 b hne).trans (D.old b ob hb e)
  · rcases U.cases' D.nd p hp with rfl | ⟨h1, h2⟩
    · exact ha
    · exact (D.at_ p h1).congr (hs.2 _ h2)
  · rcases U.cases' D.nd p hp with rfl | ⟨h1, _⟩
    · exact D.lo (a, o) hm
    · exact D.lo p h1
  · by_cases e : Z.h₁.objs.size - 1 = a
    · exact e ▸ ha.some
    · obtain ⟨o, ho⟩ := D.la.2
      exact ⟨o, (hs.2 _ e).trans ho⟩
theorem St.grow (D : St Z h l) (hk : ∀ b o, h.get? b = some o → h'.get? b = some o) : St Z h' l :=
  ⟨fun b o hb e => hk _ _ (D.old b o hb e), fun p hp => (D.at_ p hp).keeps hk, D.nd, D.lo, D.la.1, let ⟨o, e⟩ := D.la.2; ⟨o, hk _ _ e⟩⟩
theorem St.cons {a : Addr} {o : Ob} (D : St Z h l) (hk : ∀ b o, h.get? b = some o → h'.get? b = some o) (ha : o.At h' a) (hn : h.objs.size ≤ a) : St Z h' ((a, o) :: l) := by
  have D' := D.grow hk
  refine ⟨D'.old, fun p hp => ?_, ?_, fun p hp => ?_, D'.la⟩
  · rcases List.mem_cons.mp hp with rfl | hp
    · exact ha
    · exact D'.at_ p hp
  · rw [List.map_cons, List.nodup_cons]
    refine ⟨fun hm => ?_, D.nd⟩
    obtain ⟨p, hp, e⟩ := List.mem_map.mp hm
    have := (D.at_ p hp).lt
    rw [e] at this
    exact absurd this (Nat.not_lt.mpr hn)
  · rcases List.mem_cons.mp hp with rfl | hp
    · exact .inr (Nat.le_trans D.sz hn)
    · exact D'.lo p hp
theorem St.alloc {o : Obj} (D : St Z h l) (hf : o.isFreed = false) : St Z (h.push o) ((h.objs.size, .obj o) :: l) :=
  D.cons (fun _ _ e => Heap.get?_push_of_some _ e) (Heap.get?_push_size _ hf) (Nat.le_refl _)
theorem St.sub (D : St Z h l) (s : List.Sublist l' l) : St Z h l' :=
  ⟨D.old, fun p hp => D.at_ p (s.subset hp), D.nd.sublist (s.map _), fun p hp => D.lo p (s.subset hp), D.la⟩
theorem St.perm (D : St Z h l) (s : l.Perm l') : St Z h l' :=
  ⟨D.old, fun p hp => D.at_ p (s.mem_iff.mpr hp), (s.map _).nodup_iff.mp D.nd, fun p hp => D.lo p (s.mem_iff.mpr hp), D.la⟩
theorem St.get {a : Addr} {o : Obj} (D : St Z h l) (hm : (a, .obj o) ∈ l) : h.get? a = some o := D.at_ _ hm
theorem St.list {a : Addr} {xs : List Value} (D : St Z h l) (hm : (a, .lst xs) ∈ l) : h.IsList a xs.toArray := let ⟨n, e⟩ := D.at_ _ hm; ⟨_, e, rfl, n, rfl⟩
theorem St.top {a : Addr} {o : Obj} (D : St Z h l) (e : Z.h₁.get? a = some o) (hT : a ≠ Z.T) : h.get? a = some o := D.old a o hT e
/-- several objects changed at once -/
theorem St.swap {c c' r : Led} (D : St Z h (c ++ r)) (hk : ∀ b o, b ∉ c.map (·.1) → h.get? b = some o → h'.get? b = some o) (hc : (c'.map (·.1)).Sublist (c.map (·.1))) (ha : ∀ p ∈ c', p.2.At h' p.1) : St Z h' (c' ++ r) := by
  have hlo : ∀ b ∈ c.map (·.1), b = Z.T ∨ Z.h₁.objs.size ≤ b := fun b hb => by
    obtain ⟨p, hp, rfl⟩ := List.mem_map.mp hb
    exact D.lo p (List.mem_append_left _ hp)
  have hnd := D.nd
  rw [List.map_append] at hnd
  have hdis := List.nodup_append.mp hnd
  refine ⟨fun b o hb e => hk b o (fun hm => ?_) (D.old b o hb e), fun p hp => ?_, ?_, fun p hp => ?_, D.la.1, ?_⟩
  · rcases hlo b hm with x | x
    · exact hb x
    · exact absurd (Heap.lt_size e) (Nat.not_lt.mpr x)
  · rcases List.mem_append.mp hp with hp | hp
    · exact ha p hp
    · refine (D.at_ p (List.mem_append_right _ hp)).keepsAt fun o e => hk _ o (fun hm => ?_) e
      exact hdis.2.2 _ hm _ (List.mem_map_of_mem hp) rfl
  · rw [List.map_append]
    exact List.nodup_append.mpr ⟨hdis.1.sublist hc, hdis.2.1, fun a ha b hb => hdis.2.2 a (hc.subset ha) b hb⟩
  · rcases List.mem_append.mp hp with hp | hp
    · exact hlo _ (hc.subset (List.mem_map_of_mem hp))
    · exact D.lo p (List.mem_append_right _ hp)
  · obtain ⟨⟨h0, h1⟩, o, e⟩ := D.la
    refine ⟨o, hk _ o (fun hm => ?_) e⟩
    rcases hlo _ hm with x | x
    · exact h1 x.symm
    · omega
/-- one object lost -/
theorem St.lose {a : Addr} {o : Ob} (D : St Z h ((a, o) :: l)) (hk : Heap.ExtBut a h h') : St Z h' l :=
  St.swap (c := [(a, o)]) (c' := []) D (fun b o hb e => hk b o (by simpa using hb) e) (List.nil_sublist _) (fun p hp => nomatch hp)
end
inductive Pick : Led → Addr × Ob → Led → Prop
  | here {l : Led} {p : Addr × Ob} : Pick (p :: l) p l
  | there {l l' : Led} {p q : Addr × Ob} : Pick l p l' → Pick (q :: l) p (q :: l')
theorem Pick.perm {l l' : Led} {p : Addr × Ob} (x : Pick l p l') : l.Perm (p :: l') := by
  induction x with
  | here => exact .refl _
  | there _ ih => exact (ih.cons _).trans (.swap ..)
theorem St.front {Z : Sur} {h : Heap} {l l' : Led} {p : Addr × Ob} (D : St Z h l) (x : Pick l p l') : St Z h (p :: l') := D.perm x.perm
theorem St.tail {Z : Sur} {h : Heap} {l : Led} {p : Addr × Ob} (D : St Z h (p :: l)) : St Z h l := D.sub (List.sublist_cons_self ..)
theorem St.drop {Z : Sur} {h : Heap} {l l' : Led} {p : Addr × Ob} (D : St Z h l) (x : Pick l p l') : St Z h l' := (D.front x).tail

/-! ## names -/
theorem lookup_of_mem {β : Type} : ∀ {al : List (Str × β)}, (al.map (·.1)).Nodup → ∀ {x : Str} {v : β}, (x, v) ∈ al → al.lookup x = some v
  | [], _, _, _, h => nomatch h
  | (y, w) :: r, nd, x, v, h => by
    rw [List.map_cons, List.nodup_cons] at nd
    rw [List.lookup_cons]
    rcases List.mem_cons.mp h with e | h'
    · cases e; simp
    · have : (x == y) = false := by
        apply beq_eq_false_iff_ne.mpr
        rintro rfl
        exact nd.1 (List.mem_map.mpr ⟨(x, v), h', rfl⟩)
      rw [this]; exact lookup_of_mem nd.2 h'
inductive Put : List (Str × Option Value) → Str → Value → List (Str × Option Value) → Prop
  | here {r : List (Str × Option Value)} {x : Str} {o : Option Value} {v : Value} : Put ((x, o) :: r) x v ((x, some v) :: r)
  | there {r r' : List (Str × Option Value)} {x : Str} {p : Str × Option Value} {v : Value} : Put r x v r' → Put (p :: r) x v (p :: r')
theorem Put.keys {al al' : List (Str × Option Value)} {x : Str} {v : Value} (P : Put al x v al') : al'.map (·.1) = al.map (·.1) := by
  induction P with
  | here => rfl
  | there _ ih => simp [ih]
theorem Put.mem {al al' : List (Str × Option Value)} {x : Str} {v : Value} (P : Put al x v al') : x ∈ al.map (·.1) := by
  induction P with
  | here => simp
  | there _ ih => simp only [List.map_cons]; exact .tail _ ih
theorem Put.map {al al' : List (Str × Option Value)} {x : Str} {v : Value} (P : Put al x v al') (nd : (al.map (·.1)).Nodup) : locMap al' = fun y => if y = x then some v else locMap al y := by
  funext y
  induction P with
  | @here r x o v =>
    unfold locMap
    rw [List.lookup_cons, List.lookup_cons]
    by_cases e : y = x
    · subst e; simp
    · have : (y == x) = false := beq_eq_false_iff_ne.mpr e
      rw [this, if_neg e]
  | @there r r' x p v P ih =>
    rw [List.map_cons, List.nodup_cons] at nd
    have ih := ih nd.2
    obtain ⟨z, w⟩ := p
    unfold locMap at ih ⊢
    rw [List.lookup_cons, List.lookup_cons]
    by_cases e : y = z
    · subst e
      have hne : y ≠ x := fun e => nd.1 (e ▸ P.mem)
      simp [hne]
    · have : (y == z) = false := beq_eq_false_iff_ne.mpr e
      simp only [this]
      exact ih
theorem Put.count {al al' : List (Str × Option Value)} {x : Str} {v : Value} (P : Put al x v al') (nd : (al.map (·.1)).Nodup) : locCount al' = if (locMap al x).isSome then locCount al else locCount al + 1 := by
  induction P with
  | @here r x o v =>
    have : locMap ((x, o) :: r) x = o := by unfold locMap; rw [List.lookup_cons]; simp
    rw [this]
    unfold locCount
    cases o <;> simp
  | @there r r' x p v P ih =>
    rw [List.map_cons, List.nodup_cons] at nd
    have ih := ih nd.2
    obtain ⟨z, w⟩ := p
    have hne : x ≠ z := fun e => nd.1 (e ▸ P.mem)
    have : locMap ((z, w) :: r) x = locMap r x := by
      unfold locMap
      rw [List.lookup_cons, beq_eq_false_iff_ne.mpr hne]
    rw [this]
    unfold locCount at ih ⊢
    cases w <;> simp only [List.filter_cons, Option.isSome_none, Option.isSome_some, if_true, Bool.false_eq_true, if_false, List.length_cons, ih] <;> split <;> omega
section
variable {Z : Sur} {k : Nat} {h : Heap} {l l' : Led} {env : Env}
theorem W.loadLocal {x : Str} {al : List (Str × Option Value)} {v : Value} {Q : Value → Heap → Prop} (D : St Z h l) (hm : (env.locals, .ns al) ∈ l) (hx : (x, some v) ∈ al)
    (hk : env.scope.kind = .function) (hl : env.kindOf x = some .local) (q : Q v h) : W Z k (loadName env x) Q h := .mk fun tk => by
  obtain ⟨nd, hn⟩ := D.at_ _ hm
  refine wpAny_loadName_local (s := Z.st h tk) hk hl hn ?_ ⟨h, tk, rfl, q⟩
  unfold locMap
  rw [lookup_of_mem nd hx]; rfl
theorem W.storeLocal {x : Str} {al al' : List (Str × Option Value)} {v : Value} {Q : Unit → Heap → Prop} (D : St Z h l) (hp : Put al x v al') (U : Upd l env.locals (.ns al) (.ns al') l')
    (hk : env.scope.kind = .function) (hl : env.kindOf x = some .local) (q : ∀ h', St Z h' l' → Q () h') : W Z k (storeName env x v) Q h := .mk fun tk => by
  obtain ⟨nd, hn⟩ := D.at_ _ U.mem
  refine wpAny_storeName_local (s := Z.st h tk) hl hn (fun h' hn' hs => ⟨h', tk + 1, rfl, q h' (D.upd U hs ⟨by rw [hp.keys]; exact nd, ?_⟩)⟩) (by rw [hk]; rfl)
  rw [hp.map nd]; exact hn'
end
end Mine

namespace Mine
section
variable {α β : Type} {Z : Sur} {k : Nat} {h : Heap} {env : Env}
theorem W.cps {t : Sem α} {P : α → Heap → Prop} {Q' : α → Shared → Prop} (q : W Z k t P h) (hq : ∀ a h' tk', P a h' → Q' a (Z.st h' tk')) (tk : Nat) :
    wpAny (model Z.prog Z.w) (Lv k) t Q' (fun _ _ => False) (Z.st h tk) :=
  wpAny_mono (q.run tk) (fun _ _ ⟨h', tk', e, w⟩ => e ▸ hq _ _ _ w) fun _ _ e => e
theorem w_operate {vs : List Value} {m : Sem Value} {Q : Value → Heap → Prop} (q : W Z k m Q h) : W Z k (operate vs m) Q h := .mk fun tk Γ p hΓ => by rw [Sem.wp_operate]; exact q.run tk Γ p hΓ
theorem w_release {vs keep : List Value} {Q : Unit → Heap → Prop} (q : Q () h) : W Z k (release vs keep) Q h := .mk fun tk Γ p hΓ => by rw [Sem.wp_release]; exact ⟨h, tk, rfl, q⟩
theorem w_bindName {x : Str} {v : Value} {Q : Unit → Heap → Prop} (q : W Z k (storeName env x v) Q h) : W Z k (bindName env x v) Q h := .mk fun tk => wpAny_bindName (q.run tk)

/-! statements -/
theorem w_execs_nil {Q : Flow → Heap → Prop} (q : Q .next h) : W Z k (execs [] env) Q h := W.pure q
theorem w_execs_cons {st : Stmt} {rest : List Stmt} {Q : Flow → Heap → Prop} (q : W Z k (exec st env) (fun f h' => match f with | .next => W Z k (execs rest env) Q h' | f => Q f h') h) :
    W Z k (execs (st :: rest) env) Q h := by
  rw [PySem.execs_cons]
  refine W.bind (W.mono q fun f h' w => ?_)
  cases f <;> first | exact w | exact W.pure w
theorem w_Pass {pos : Pos} {Q : Flow → Heap → Prop} (q : Q .next h) : W Z k (exec (.Pass pos) env) Q h := .mk fun tk => wpAny_Pass ⟨h, tk, rfl, q⟩
theorem w_Continue {pos : Pos} {Q : Flow → Heap → Prop} (q : Q .cont h) : W Z k (exec (.Continue pos) env) Q h := .mk fun tk => wpAny_Continue ⟨h, tk, rfl, q⟩
theorem w_Return {e : Expr} {pos : Pos} {Q : Flow → Heap → Prop} (q : W Z k (eval e env) (fun v => Q (.ret v)) h) : W Z k (exec (.Return (some e) pos) env) Q h := .mk fun tk =>
  wpAny_Return_some (q.cps (fun _ h' tk' w => ⟨h', tk', rfl, w⟩) tk)
theorem w_Expr {e : Expr} {pos : Pos} {Q : Flow → Heap → Prop} (q : W Z k (eval e env) (fun v h' => match v with | .ref _ => False | _ => Q .next h') h)
    (hi : interactive env = false) (hs : swapsWith e none pos.line env = pure false) : W Z k (exec (.Expr e pos) env) Q h := .mk fun tk =>
  wpAny_Expr (q.cps (fun v h' tk' w => by cases v <;> first | exact ⟨h', tk', rfl, w⟩ | exact w) tk) hi hs
theorem w_AssignName {x : Str} {pos' pos : Pos} {e : Expr} {Q : Flow → Heap → Prop} (q : W Z k (eval e env) (fun v h' => W Z k (storeName env x v) (fun _ => Q .next) h') h)
    (hs : swapsWith e (some (.Name x pos')) pos.line env = pure false) : W Z k (exec (.Assign [.Name x pos'] e pos) env) Q h := .mk fun tk =>
  wpAny_Assign_Name (q.cps (fun v h' tk' w => w.cps (fun _ h'' tk'' w' => ⟨h'', tk'', rfl, w'⟩) tk') tk) hs
theorem w_AugName {x : Str} {pos' pos : Pos} {op : Operator} {e : Expr} {Q : Flow → Heap → Prop}
    (q : W Z k (loadName env x) (fun old h₁ => W Z k (eval e env) (fun v h₂ => W Z k (inplaceOp op old v) (fun r h₃ => W Z k (storeName env x r) (fun _ => Q .next) h₃) h₂) h₁) h) :
    W Z k (exec (.AugAssign (.Name x pos') op e pos) env) Q h := .mk fun tk =>
  wpAny_AugAssign_Name (q.cps (fun _ _ tk₁ w => w.cps (fun _ _ tk₂ w => w.cps (fun _ _ tk₃ w => w.cps (fun _ h' tk' w => ⟨h', tk', rfl, w⟩) tk₃) tk₂) tk₁) tk)
theorem w_If {test : Expr} {body orelse : List Stmt} {pos : Pos} {Q : Flow → Heap → Prop}
    (q : W Z k (isTrue test env (eval test env)) (fun b h' => if b then W Z k (execs body env) Q h' else W Z k (execs orelse env) Q h') h) : W Z k (exec (.If test body orelse pos) env) Q h := by
  show W Z k (do PySem.standAt pos; if ← isTrue test env (eval test env) then execs body env else execs orelse env) Q h
  refine W.bind (W.standAt (W.bind (W.mono q fun b h' w => ?_)))
  cases b <;> exact w
theorem w_While {test : Expr} {body orelse : List Stmt} {pos : Pos} {Q : Flow → Heap → Prop} (q : C Z k (.whileLoop test body orelse env) Q h) : W Z k (exec (.While test body orelse pos) env) Q h := .mk fun tk =>
  wpAny_While (codeAny_mono (q.run tk) fun r s' ⟨f, h', tk', e, e', w⟩ => by subst e; exact ⟨h', tk', e', w⟩)

/-! expressions -/
theorem w_int {i : Int} {n : Nat} {pos : Pos} {Q : Value → Heap → Prop} (q : ∀ t, Q (.int i t) h) : W Z k (eval (.Constant (.int i) n pos) env) Q h := .mk fun tk => wpAny_Constant_int ⟨h, tk + 1, rfl, q _⟩
theorem w_str {x : Str} {n : Nat} {pos : Pos} {Q : Value → Heap → Prop} (q : ∀ t, Q (.str x t) h) : W Z k (eval (.Constant (.str x) n pos) env) Q h := .mk fun tk => Calls.Constant_str ⟨h, tk + 1, rfl, q _⟩
theorem w_none {n : Nat} {pos : Pos} {Q : Value → Heap → Prop} (q : Q .none h) : W Z k (eval (.Constant .none n pos) env) Q h := .mk fun tk => wpAny_Constant_none ⟨h, tk, rfl, q⟩
theorem w_bool {b : Bool} {n : Nat} {pos : Pos} {Q : Value → Heap → Prop} (q : Q (.bool b) h) : W Z k (eval (.Constant (.bool b) n pos) env) Q h := .mk fun tk => wpAny_Constant_bool ⟨h, tk, rfl, q⟩
theorem w_Name {x : Str} {pos : Pos} {Q : Value → Heap → Prop} (q : W Z k (loadName env x) Q h) (hd : (x == ("__debug__" : Str)) = false) : W Z k (eval (.Name x pos) env) Q h := .mk fun tk => wpAny_Name (q.run tk) hd
theorem w_BinOp {l r : Expr} {op : Operator} {pos : Pos} {Q : Value → Heap → Prop} (q : W Z k (eval l env) (fun a h₁ => W Z k (eval r env) (fun b h₂ => W Z k (binaryOp op a b) Q h₂) h₁) h) :
    W Z k (eval (.BinOp l op r pos) env) Q h := .mk fun tk => wpAny_BinOp (q.cps (fun _ _ tk₁ w => w.cps (fun _ _ tk₂ w => w.run tk₂) tk₁) tk)
theorem w_Compare {l r : Expr} {op : CmpOp} {pos : Pos} {Q : Value → Heap → Prop} (q : W Z k (eval l env) (fun a h₁ => W Z k (eval r env) (fun b h₂ => W Z k (compareOp op a b) Q h₂) h₁) h)
    (hm : behindInMarks op r = false) : W Z k (eval (.Compare l [op] [r] pos) env) Q h := .mk fun tk => wpAny_Compare1 (q.cps (fun _ _ tk₁ w => w.cps (fun _ _ tk₂ w => w.run tk₂) tk₁) tk) hm
theorem w_isCompare {l r : Expr} {op : CmpOp} {pos : Pos} {whole : Sem Value} {Q : Bool → Heap → Prop}
    (q : W Z k (eval l env) (fun a h₁ => W Z k (eval r env) (fun b h₂ => W Z k (compareOp op a b) (fun c h₃ => W Z k (truthy c) Q h₃) h₂) h₁) h)
    (hm : behindInMarks op r = false) : W Z k (isTrue (.Compare l [op] [r] pos) env whole) Q h := .mk fun tk =>
  wpAny_isTrue_Compare1 (q.cps (fun _ _ tk₁ w => w.cps (fun _ _ tk₂ w => w.cps (fun _ _ tk₃ w => w.run tk₃) tk₂) tk₁) tk) hm
theorem w_isNot {e : PySem.Expr} {pos : Pos} {whole : Sem Value} {Q : Bool → Heap → Prop} (q : W Z k (isTrue e env (eval e env)) (fun b => Q !b) h) : W Z k (isTrue (.UnaryOp .Not e pos) env whole) Q h := by
  show W Z k (do return !(← isTrue e env (eval e env))) Q h
  exact W.bind (W.mono q fun b h' w => W.pure w)
theorem w_isAnd_nil {pos : Pos} {whole : Sem Value} {Q : Bool → Heap → Prop} (q : Q true h) : W Z k (isTrue (.BoolOp .And [] pos) env whole) Q h := W.pure q
theorem w_isBool {op : BoolOp} {vs : List PySem.Expr} {pos : Pos} {whole : Sem Value} {Q : Bool → Heap → Prop} (q : W Z k (allTrue op vs env) Q h) : W Z k (isTrue (.BoolOp op vs pos) env whole) Q h := q
theorem w_and_nil {Q : Bool → Heap → Prop} (q : Q true h) : W Z k (allTrue .And [] env) Q h := W.pure q
theorem w_or_nil {Q : Bool → Heap → Prop} (q : Q false h) : W Z k (allTrue .Or [] env) Q h := W.pure q
theorem w_and_cons {e : PySem.Expr} {rest : List PySem.Expr} {Q : Bool → Heap → Prop} (q : W Z k (isTrue e env (eval e env)) (fun b h' => if b then W Z k (allTrue .And rest env) Q h' else Q false h') h) :
    W Z k (allTrue .And (e :: rest) env) Q h := by
  show W Z k (do match BoolOp.And, ← isTrue e env (eval e env) with | .And, false => PySem.Sem.pure false | .Or, true => PySem.Sem.pure true | _, _ => allTrue .And rest env) Q h
  refine W.bind (W.mono q fun b h' w => ?_)
  cases b with
  | false => exact W.pure' w
  | true => exact w
theorem w_or_cons {e : PySem.Expr} {rest : List PySem.Expr} {Q : Bool → Heap → Prop} (q : W Z k (isTrue e env (eval e env)) (fun b h' => if b then Q true h' else W Z k (allTrue .Or rest env) Q h') h) :
    W Z k (allTrue .Or (e :: rest) env) Q h := by
  show W Z k (do match BoolOp.Or, ← isTrue e env (eval e env) with | .And, false => PySem.Sem.pure false | .Or, true => PySem.Sem.pure true | _, _ => allTrue .Or rest env) Q h
  refine W.bind (W.mono q fun b h' w => ?_)
  cases b with
  | false => exact w
  | true => exact W.pure' w
/-- any other expression as a test -/
theorem w_isValue {e : PySem.Expr} {whole : Sem Value} {Q : Bool → Heap → Prop} (he : isTrue e env whole = (do let v ← whole; PySem.standAt e.pos; PySem.holding [v] (truthy v)))
    (q : W Z k whole (fun v h' => W Z k (truthy v) Q h') h) : W Z k (isTrue e env whole) Q h := by
  rw [he]
  exact W.bind (W.mono q fun v h' w => W.bind (W.standAt (W.holding w)))
theorem w_truthy_bool {b : Bool} {Q : Bool → Heap → Prop} (q : Q b h) : W Z k (truthy (.bool b)) Q h := .mk fun tk => wpAny_truthy_bool ⟨h, tk, rfl, q⟩
theorem w_IfExp {t a b : PySem.Expr} {pos : Pos} {Q : Value → Heap → Prop} (q : W Z k (isTrue t env (eval t env)) (fun c h' => if c then W Z k (eval a env) Q h' else W Z k (eval b env) Q h') h) :
    W Z k (eval (.IfExp t a b pos) env) Q h := by
  show W Z k (do if ← isTrue t env (eval t env) then eval a env else eval b env) Q h
  refine W.bind (W.mono q fun c h' w => ?_)
  cases c <;> exact w
theorem w_Call {f : PySem.Expr} {args : List PySem.Expr} {pos : Pos} {Q : Value → Heap → Prop} (he : eval (.Call f args [] pos) env = (do callWith pos (← eval f env) [] (backTo pos (starEach args env)) []))
    (q : W Z k (eval f env) (fun v h' => W Z k (callWith pos v [] (backTo pos (starEach args env)) []) Q h') h) : W Z k (eval (.Call f args [] pos) env) Q h := by
  rw [he]
  exact W.bind q
/-- the arguments, one by one -/
theorem w_args_nil {Q : List Value → Heap → Prop} (q : Q [] h) : W Z k (spliced []) Q h := .mk fun tk => Calls.spliced_nil ⟨h, tk, rfl, q⟩
theorem w_args_cons {x : Sem Value} {rest : List (Bool × Sem Value)} {Q : List Value → Heap → Prop} (q : W Z k x (fun v h₁ => W Z k (spliced rest) (fun vs h₂ => Q (v :: vs) h₂) h₁) h) :
    W Z k (spliced ((false, x) :: rest)) Q h := .mk fun tk => Calls.spliced_cons (q.cps (fun _ _ tk₁ w => w.cps (fun _ h' tk' w => ⟨h', tk', rfl, w⟩) tk₁) tk)
theorem w_arg {e : Expr} {rest : List Expr} {pos : Pos} {Q : List Value → Heap → Prop} (he : starEach (e :: rest) env = (false, eval e env) :: starEach rest env)
    (q : W Z k (eval e env) (fun v h₁ => W Z k (spliced (backTo pos (starEach rest env))) (fun vs h₂ => Q (v :: vs) h₂) h₁) h) : W Z k (spliced (backTo pos (starEach (e :: rest) env))) Q h := by
  rw [he]
  exact w_args_cons q
theorem w_arg_nil {pos : Pos} {Q : List Value → Heap → Prop} (q : Q [] h) : W Z k (spliced (backTo pos (starEach [] env))) Q h := w_args_nil q
theorem w_evalArgs {f : Value} {args : List (Bool × Sem Value)} {Q : Args → Heap → Prop} (hp : args.any (·.1) = false) (q : W Z k (spliced args) (fun vs h' => Q ⟨vs, []⟩ h') h) :
    W Z k (evalArgs f true args []) Q h := by
  cases args with
  | nil =>
    unfold PySem.evalArgs
    refine W.bind (W.mono q fun vs h' w => W.bind (W.pure (W.holding ?_)))
    exact W.bind (W.pure (W.bind (W.pure (W.pure w))))
  | cons a rest =>
    obtain ⟨b, x⟩ := a
    have : b = false := by simp only [List.any_cons, Bool.or_eq_false_iff] at hp; exact hp.1
    subst this
    exact .mk fun tk => Calls.evalArgs_plain (q.cps (fun _ h' tk' w => ⟨h', tk', rfl, w⟩) tk)
theorem w_withBuiltin {pos : Pos} {id : String} {first : List Value} {args : List (Bool × Sem Value)} {Q : Value → Heap → Prop} (hp : args.any (·.1) = false)
    (q : W Z k (spliced args) (fun vs h' => W Z k (PySem.call (.builtin id) (first ++ vs)) Q h') h) : W Z k (callWith pos (.builtin id) first args []) Q h := .mk fun tk =>
  Calls.callWith_builtin hp ((w_evalArgs (Q := fun a h' => W Z k (PySem.call (.builtin id) (first ++ a.pos) a.kw) Q h') hp q).cps (fun _ _ tk₁ w => w.run tk₁) tk)
theorem w_withFunction {pos : Pos} {a : Addr} {o : Obj} {fd : FuncData} {first : List Value} {args : List (Bool × Sem Value)} {Q : Value → Heap → Prop} (hp : args.any (·.1) = false)
    (q : W Z k (spliced args) (fun vs h' => (h'.get? a = some o ∧ o.data = .func fd) ∧ W Z k (PySem.call (.ref a) (first ++ vs)) Q h') h) : W Z k (callWith pos (.ref a) first args []) Q h := .mk fun tk =>
  Calls.callWith_function (o := o) (fd := fd) ((w_evalArgs (Q := fun x h' => (h'.get? a = some o ∧ o.data = .func fd) ∧ W Z k (PySem.call (.ref a) (first ++ x.pos) x.kw) Q h') hp q).cps (fun _ _ tk₁ w => ⟨w.1, w.2.run tk₁⟩) tk)

/-! loops -/
theorem notedOff {e : Value} {s : Shared} {M : Model} {A : Around} {E : Value → Shared → Prop} (x : False) : notedBy M A env E e s := x.elim
theorem c_whileLoop {test : PySem.Expr} {body orelse : List Stmt} {R : Flow → Heap → Prop} (I : Nat → Heap → Prop)
    (turn : ∀ n h, I n h → W Z k (isTrue test env (eval test env)) (fun b h₂ =>
      if b then W Z k (execs body env) (fun f h₃ => match f with | .next | .cont => ∃ m, m < n ∧ I m h₃ | .brk => R .next h₃ | .ret v => R (.ret v) h₃) h₂
      else W Z k (execs orelse env) R h₂) h) (n : Nat) (hI : I n h) : C Z k (.whileLoop test body orelse env) R h := .mk fun tk => by
  refine codeAny_whileLoop (fun n s => ∃ h tk, s = Z.st h tk ∧ I n h) ?_ n ⟨h, tk, rfl, hI⟩
  rintro n _ ⟨h, tk, rfl, hI⟩
  refine wpAny_mono ((turn n h hI).run tk) ?_ fun _ _ e => e.elim
  rintro b _ ⟨h₂, tk₂, rfl, w⟩
  cases b with
  | false => exact wpAny_mono (w.run tk₂) (fun f _ ⟨h', tk', e, r⟩ => ⟨f, h', tk', rfl, e, r⟩) fun _ _ e => e.elim
  | true =>
    refine wpAny_mono (w.run tk₂) ?_ fun _ _ e => e.elim
    rintro f _ ⟨h₃, tk₃, rfl, r⟩
    cases f with
    | next => obtain ⟨m, hm, hI⟩ := r; exact ⟨m, hm, h₃, tk₃, rfl, hI⟩
    | cont => obtain ⟨m, hm, hI⟩ := r; exact ⟨m, hm, h₃, tk₃, rfl, hI⟩
    | brk => exact ⟨_, h₃, tk₃, rfl, rfl, r⟩
    | ret v => exact ⟨_, h₃, tk₃, rfl, rfl, r⟩
theorem c_forLoop {target : PySem.Expr} {it : Value} {body orelse : List Stmt} {R : Flow → Heap → Prop} (I : Nat → Heap → Prop)
    (turn : ∀ n h, I n h → W Z k (pyNext it) (fun r h₁ => match r with
      | Option.none => W Z k (execs orelse env) R h₁
      | some v => W Z k (assign target env v) (fun _ h₂ => W Z k (execs body env) (fun f h₃ => match f with | .next | .cont => ∃ m, m < n ∧ I m h₃ | .brk => R .next h₃ | .ret v => R (.ret v) h₃) h₂) h₁) h)
    (n : Nat) (hI : I n h) (ht : ∀ v, letOwnedTupleGo target it v = PySem.Sem.pure ()) : C Z k (.forLoop target it body orelse env) R h := .mk fun tk => by
  refine codeAny_forLoop (fun n s => ∃ h tk, s = Z.st h tk ∧ I n h) ?_ n ⟨h, tk, rfl, hI⟩ ht
  rintro n _ ⟨h, tk, rfl, hI⟩
  refine wpAny_mono ((turn n h hI).run tk) ?_ fun _ _ e => e.elim
  rintro r _ ⟨h₁, tk₁, rfl, w⟩
  cases r with
  | none => exact wpAny_mono (w.run tk₁) (fun f _ ⟨h', tk', e, r⟩ => ⟨f, h', tk', rfl, e, r⟩) fun _ _ e => e.elim
  | some v =>
    refine wpAny_mono (w.run tk₁) ?_ fun _ _ e => e.elim
    rintro _ _ ⟨h₂, tk₂, rfl, w⟩
    refine wpAny_mono (w.run tk₂) ?_ fun _ _ e => e.elim
    rintro f _ ⟨h₃, tk₃, rfl, r⟩
    cases f with
    | next => obtain ⟨m, hm, hI⟩ := r; exact ⟨m, hm, h₃, tk₃, rfl, hI⟩
    | cont => obtain ⟨m, hm, hI⟩ := r; exact ⟨m, hm, h₃, tk₃, rfl, hI⟩
    | brk => exact ⟨_, h₃, tk₃, rfl, rfl, r⟩
    | ret v => exact ⟨_, h₃, tk₃, rfl, rfl, r⟩
theorem w_For {target iter : PySem.Expr} {body orelse : List Stmt} {pos : Pos} {Q : Flow → Heap → Prop} (hf : ∀ x, foldedSetIterable iter env x = PySem.Sem.pure x)
    (q : W Z k (eval iter env) (fun x h₁ => W Z k (pyIter x) (fun it h₂ => C Z k (.forLoop target it body orelse env) Q h₂) h₁) h) : W Z k (exec (.For target iter body orelse pos) env) Q h := by
  show W Z k (do PySem.standAt pos; let x ← foldedSetIterable iter env (← eval iter env); PySem.standAt iter.pos; runOwn (.forLoop target (← PySem.holding [x] (pyIter x)) body orelse env) env) Q h
  refine W.bind (W.standAt (W.bind (W.mono q fun x h₁ w => ?_)))
  rw [hf]
  refine W.bind (W.pure' (W.bind (W.standAt (W.bind (W.holding (W.mono w fun it h₂ w => ?_))))))
  exact .mk fun tk => wpAny_runOwn (codeAny_mono (w.run tk) fun r s' ⟨f, h', tk', e, e', w⟩ => by subst e; exact ⟨h', tk', e', w⟩)
end
end Mine

namespace Mine
/-- what the call finds at the top -/
structure Good (Z : Sur) : Prop where
  lim : Z.h₁.NoLimit
  g : Z.h₁.Ns mainGlobals Z.mg
  b : Z.h₁.Ns builtinsNs Z.mb
  kx : Z.K.In Z.h₁
  kT : Z.K.lookup Z.T = none
  hT : mainGlobals ≠ Z.T ∧ builtinsNs ≠ Z.T ∧ cStatics ≠ Z.T
section
variable {Z : Sur} {h h' : Heap} {l l' : Led} {k : Nat} {env : Env}
theorem St.ns {a : Addr} {m : Str → Option Value} (D : St Z h l) (hn : Z.h₁.Ns a m) (ha : a ≠ Z.T) : h.Ns a m :=
  let ⟨o, es, ep, e, r⟩ := hn; ⟨o, es, ep, D.old _ _ ha e, r⟩
theorem St.lim (D : St Z h l) (G : Good Z) : h.NoLimit :=
  let ⟨mc, hn, e⟩ := G.lim; ⟨mc, D.ns hn G.hT.2.2, e⟩
theorem St.inK (D : St Z h l) (G : Good Z) : Z.K.In h := fun a o e => D.old a o (fun ha => by subst ha; rw [G.kT] at e; cases e) (G.kx a o e)
theorem St.global (D : St Z h l) (G : Good Z) : h.Ns mainGlobals Z.mg := D.ns G.g G.hT.1
theorem St.builtins (D : St Z h l) (G : Good Z) : h.Ns builtinsNs Z.mb := D.ns G.b G.hT.2.1

theorem w_global {x : Str} {pos : Pos} {v : Value} {Q : Value → Heap → Prop} (G : Good Z) (D : St Z h l) (hv : Z.mg x = some v) (q : Q v h) (hk : env.scope.kind = .function) (hx : env.kindOf x = some .globalImplicit)
    (hg : env.globals = mainGlobals) (hd : (x == ("__debug__" : Str)) = false) : W Z k (eval (.Name x pos) env) Q h := .mk fun tk =>
  Calls.Name_function_global hk hx (Calls.loadGlobal_global (by rw [hg]; exact D.global G) hv ⟨h, tk, rfl, q⟩) hd
theorem w_builtin {x : Str} {pos : Pos} {v : Value} {Q : Value → Heap → Prop} (G : Good Z) (D : St Z h l) (hn : Z.mg x = none) (hv : Z.mb x = some v) (q : Q v h) (hk : env.scope.kind = .function) (hx : env.kindOf x = some .globalImplicit)
    (hg : env.globals = mainGlobals) (hb : env.builtins = builtinsNs) (hd : (x == ("__debug__" : Str)) = false) : W Z k (eval (.Name x pos) env) Q h := .mk fun tk =>
  Calls.Name_function_global hk hx (Calls.loadGlobal_builtin (by rw [hg]; exact D.global G) hn (by rw [hb]; exact D.builtins G) hv ⟨h, tk, rfl, q⟩) hd
theorem w_cellName {x : Str} {pos : Pos} {c : Addr} {v : Value} {Q : Value → Heap → Prop} (D : St Z h l) (hm : (c, .cell (some v)) ∈ l) (q : Q v h) (hk : env.scope.kind = .function)
    (hl : env.kindOf x = some .cell) (hc : env.cells.lookup x = some c) (hd : (x == ("__debug__" : Str)) = false) : W Z k (eval (.Name x pos) env) Q h := .mk fun tk =>
  wpAny_Name (wpAny_loadName_cell hk hl hc (D.at_ _ hm) ⟨h, tk, rfl, q⟩) hd
theorem w_freeName {x : Str} {pos : Pos} {c : Addr} {v : Value} {Q : Value → Heap → Prop} (D : St Z h l) (hm : (c, .cell (some v)) ∈ l) (q : Q v h) (hk : env.scope.kind = .function)
    (hl : env.kindOf x = some .free) (hc : env.cells.lookup x = some c) (hd : (x == ("__debug__" : Str)) = false) (hcd : (x == ("__classdict__" : Str)) = false) : W Z k (eval (.Name x pos) env) Q h := .mk fun tk =>
  wpAny_Name (wpAny_loadName_free hk hl hc (D.at_ _ hm) ⟨h, tk, rfl, q⟩ hcd) hd
theorem w_localName {x : Str} {pos : Pos} {al : List (Str × Option Value)} {v : Value} {Q : Value → Heap → Prop} (D : St Z h l) (hm : (env.locals, .ns al) ∈ l) (hx : (x, some v) ∈ al) (q : Q v h)
    (hk : env.scope.kind = .function) (hl : env.kindOf x = some .local) (hd : (x == ("__debug__" : Str)) = false) : W Z k (eval (.Name x pos) env) Q h :=
  w_Name (W.loadLocal D hm hx hk hl q) hd

theorem w_store {x : Str} {al al' : List (Str × Option Value)} {v : Value} {Q : Unit → Heap → Prop} (D : St Z h l) (hm : (env.locals, .ns al) ∈ l) (hp : Put al x v al') (U : Upd l env.locals (.ns al) (.ns al') l')
    (hk : env.scope.kind = .function) (hl : env.kindOf x = some .local) (q : ∀ h', St Z h' l' → Q () h') : W Z k (storeName env x v) Q h := W.storeLocal D hp U hk hl q

/-! a def of the text called -/
theorem lookup_none_of {β : Type} {al : List (Str × β)} {x : Str} (h : x ∉ al.map (·.1)) : al.lookup x = none := by
  induction al with
  | nil => rfl
  | cons p r ih =>
    rw [List.map_cons, List.mem_cons, not_or] at h
    rw [List.lookup_cons, beq_eq_false_iff_ne.mpr h.1]
    exact ih h.2
theorem lookup_reverse {β : Type} {al : List (Str × β)} (nd : (al.map (·.1)).Nodup) (x : Str) : al.reverse.lookup x = al.lookup x := by
  by_cases hx : x ∈ al.map (·.1)
  · obtain ⟨⟨y, v⟩, hp, rfl⟩ := List.mem_map.mp hx
    rw [lookup_of_mem nd hp, lookup_of_mem (by rw [List.map_reverse]; exact (List.reverse_perm _).nodup_iff.mpr nd) (List.mem_reverse.mpr hp)]
  · rw [lookup_none_of hx, lookup_none_of (by rw [List.map_reverse, List.mem_reverse]; exact hx)]
theorem lookup_map_some {β : Type} (al : List (Str × β)) (x : Str) : (al.map fun b => (b.1, some b.2)).lookup x = (al.lookup x).map some := by
  induction al with
  | nil => rfl
  | cons p r ih =>
    rw [List.map_cons, List.lookup_cons, List.lookup_cons]
    split <;> simp_all
theorem lookup_map_none (more : List Str) (x : Str) : ((more.map fun y => (y, (none : Option Value))).lookup x).join = none := by
  induction more with
  | nil => rfl
  | cons p r ih =>
    rw [List.map_cons, List.lookup_cons]
    split <;> simp_all
def frameOf (binds : List (Str × Value)) (more : List Str) : List (Str × Option Value) := (binds.map fun b => (b.1, some b.2)) ++ more.map fun y => (y, none)
theorem frame_map {binds : List (Str × Value)} {more : List Str} (nd : (binds.map (·.1) ++ more).Nodup) : locMap (frameOf binds more) = fun x => binds.reverse.lookup x := by
  funext x
  unfold locMap frameOf
  rw [List.lookup_append, lookup_map_some, lookup_reverse (List.nodup_append.mp nd).1]
  cases q : binds.lookup x with
  | some v => simp
  | none => simp [lookup_map_none]
theorem frame_nd {binds : List (Str × Value)} {more : List Str} (nd : (binds.map (·.1) ++ more).Nodup) : ((frameOf binds more).map (·.1)).Nodup := by
  unfold frameOf
  have : ((binds.map fun b => (b.1, some b.2)) ++ more.map fun y => (y, (none : Option Value))).map (·.1) = binds.map (·.1) ++ more := by simp [List.map_append, Function.comp_def]
  rw [this]; exact nd
/-- what the arguments are bound to -/
structure Binds (Z : Sur) (h : Heap) (fd : FuncData) (args : Args) (binds : List (Str × Value)) : Prop where
  out : ∀ tk, BindsTo (Z.st h tk) fd args binds
theorem Binds.of {fd : FuncData} {args : Args} {binds : List (Str × Value)} (e : bindArgs fd args = pure binds) : Binds Z h fd args binds := ⟨fun tk => BindsTo.of_eq e⟩
theorem c_callFn {fd : FuncData} {body : List Stmt} {a : Addr} {o : Obj} {args : Args} {Q : Value → Heap → Prop} (binds : List (Str × Value)) (names more : List Str) (al : List (Str × Option Value)) (G : Good Z) (D : St Z h l)
    (ho : h.get? a = some o) (hdata : o.data = .func fd) (hcd : h.CodeRec fd.code fd.qualname) (hbody : fd.body = .stmts body) (hbind : Binds Z h fd args binds) (hb : binds.map (·.1) = names) (hal : frameOf binds more = al)
    (hcell : (fd.scope.names.all fun x => x.2 != .cell) = true) (hloc : (names.all fun x => fd.scope.names.lookup x == some .local) = true) (hnd : (names ++ more).Nodup) (hk : k < 60)
    (hco : fd.scope.isCoroutine = false) (hgen : fd.scope.isGenerator = false) (hkd : fd.scope.kind = .function)
    (q : ∀ L h₀, St Z h₀ ((L, .ns al) :: l) → W Z (k + 1) (execs body (callEnv fd L a)) (fun f h' => Q (match f with | .ret v => v | _ => .none) h') h₀) :
    C Z k (.call (.ref a) args) (fun f h' => ∃ v, f = .ret v ∧ Q v h') h := .mk fun tk => by
  subst hb hal
  refine codeAny_call_def (s := Z.st h tk) (show 310 + 10 * k < 1000 by omega) ho hdata (D.lim G) hcd hbody (hbind.out tk) (fun x hx => by simpa using List.all_eq_true.mp hcell x hx)
    (fun x hx => by simpa using List.all_eq_true.mp hloc x.1 (List.mem_map_of_mem hx)) (fun h₀ hn hkeep => ?_) hco hgen hkd
  have hlt := hn.lt
  have D' : St Z h₀ ((h.objs.size, .ns (frameOf binds more)) :: l) := D.cons hkeep ⟨frame_nd hnd, by rw [frame_map hnd]; exact hn⟩ (Nat.le_refl _)
  refine wpAny_weaken (A' := Lv (k + 1)) (wpAny_mono ((q _ _ D').run _) ?_ fun _ _ e => e.elim) rfl ?_ rfl rfl ?_
  · rintro f _ ⟨h', tk', rfl, w⟩
    exact ⟨_, h', tk', rfl, rfl, _, rfl, w⟩
  · show 310 + 10 * k + 1 ≤ 310 + 10 * (k + 1); omega
  · show 50 + 100 * k + 3 ≤ 50 + 100 * (k + 1); omega
end
end Mine

namespace Mine
section
variable {Z : Sur} {h h' : Heap} {l l' : Led} {k : Nat} {env : Env}
/-! attributes of an instance of the text's own class -/
theorem lookIn_ns {o : Obj} {es : Array DictEntry} {ep : Nat} {m : Str → Option Value} (hd : o.data = .dict es ep) (sk : StrKeys es) (hm : ∀ name, nsFind es name = m name) (x : Str) : lookIn x o = some (m x) := by
  unfold lookIn
  rw [hd, ← hm x]
  unfold nsFind findBy
  dsimp only
  rw [← Array.find?_toList]
  cases q : es.toList.find? (fun e => e.key.isStr x) with
  | some e => rfl
  | none =>
    have : es.toList.any (·.refKey) = false := by
      rw [List.any_eq_false]
      intro e he
      obtain ⟨n, t, hk⟩ := sk e (by simpa using he)
      simp [DictEntry.refKey, hk]
    rw [this]; rfl
/-- a word laid into a dict of texts -/
theorem nsSet_d {M : Model} {A : Around} {E : Value → Shared → Prop} {s : Shared} {a : Addr} {es : Array DictEntry} {ep : Nat} {name : Str} {v : Value} {Q : Unit → Shared → Prop} (ho : s.heap.get? a = some { cls := .type "dict", data := .dict es ep })
    (sk : StrKeys es) (q : ∀ h' es' ep', h'.get? a = some { cls := .type "dict", data := .dict es' ep' } → StrKeys es' → (∀ x, nsFind es' x = if x = name then some v else nsFind es x) → es'.size = (if (nsFind es name).isSome then es.size else es.size + 1) → Heap.SameBut a s.heap h' →
      Q () { s with heap := h', toks := s.toks + 1 }) : wpAny M A (nsSet a name v) Q E s := fun Γ p _ => by
  simp only [nsSet, strHash, Sem.wp_bind', Sem.wp_cmd_ask, Sem.wp_pure', Sem.wp_cmd_mkText]
  rw [Sem.wp_loadPart_of M Γ _ p { s with toks := s.toks + 1 } (o := { cls := .type "dict", data := .dict es ep }) _ ho]
  have hany : es.any (·.refKey) = false := by
    rw [Array.any_eq_false']; intro e he; obtain ⟨n, t, h⟩ := sk e he; simp [DictEntry.refKey, h]
  simp only [aRefKeyMayBeTheName_eq, aRefKeyMayBeTheNameByArray, hany, Bool.and_false, Bool.false_eq_true, if_false, Sem.wp_cmd_updatePart]
  refine ⟨by rw [ho]; rfl, ?_⟩
  have hf : nsFind es name = (es.find? fun e => e.key.isStr name).map (·.val) := rfl
  cases hi : es.findIdx? (·.key.isStr name) with
  | some i =>
    have hsome : (nsFind es name).isSome = true := by
      rw [hf, Option.isSome_map]
      cases hq : es.find? (fun e => e.key.isStr name) with
      | some _ => rfl
      | none =>
        rw [Array.find?_eq_none] at hq
        obtain ⟨hlt, hp, _⟩ := Array.findIdx?_eq_some_iff_getElem.mp hi
        exact absurd hp (by simpa using hq _ (Array.getElem_mem hlt))
    refine q _ (es.modify i fun e => { e with val := v }) ep (Heap.get?_update_self _ ho ?_ |>.trans ?_) (sk.modify _ _) (fun x => findBy_modify (fun n v => v.isStr n) Value.isStr_inj es name x v i hi) (by rw [hsome]; simp) (Heap.SameBut.update ..)
    · simp only [Obj.putName_eq, Obj.putNameByArray, hi]; rfl
    · simp only [Obj.putName_eq, Obj.putNameByArray, hi]
  | none =>
    have hnone : (nsFind es name).isSome = false := by
      rw [hf, Option.isSome_map]
      cases hq : es.find? (fun e => e.key.isStr name) with
      | none => rfl
      | some e =>
        have h1 := Array.mem_of_find?_eq_some hq
        have h2 := Array.find?_some hq
        have h3 := (Array.findIdx?_eq_none_iff.mp hi) e h1
        simp_all
    refine q _ (es.push ⟨PyData.keyHash M.w.params name, .str name s.toks, v⟩) (ep + 1) (Heap.get?_update_self _ ho ?_ |>.trans ?_) (sk.push _ _ _ _) (fun x => ?_) (by rw [hnone]; simp) (Heap.SameBut.update ..)
    · simp only [Obj.putName_eq, Obj.putNameByArray, hi]; rfl
    · simp only [Obj.putName_eq, Obj.putNameByArray, hi]; rfl
    · exact findBy_push (fun n v => v.isStr n) es name x _ _ v (fun y => by
        show (name == y) = decide (y = name)
        by_cases h : y = name
        · subst h; simp
        · have : ¬ name = y := fun e => h e.symm
          simp [h, this]) hi
structure Inst (Z : Sur) (l : Led) (x C dx : Addr) (al : List (Str × Option Value)) : Prop where
  o : (x, .obj (instObj C dx)) ∈ l
  d : (dx, .dct al) ∈ l
theorem w_getAttr {x C dx : Addr} {al : List (Str × Option Value)} {name : Str} {e : Bool} {v : Value} {attr : Option Value} {Q : Value → Heap → Prop} (G : Good Z) (D : St Z h l) (I : Inst Z l x C dx al) (hx : (name, some v) ∈ al)
    (hg : plainGet Z.K C name = true) (hh : hasDictIn Z.K C = true) (ha : findIn Z.K (.ref C) name = some attr) (hn : noGet Z.K attr = true) (hv : handedIn v = true) (q : Q v h) :
    W Z k (getAttr (.ref x) name e) Q h := .mk fun tk => by
  obtain ⟨nd, es, ep, ho, sk, hm, _⟩ := D.at_ _ I.d
  have hi : InstAt h x (instObj C dx) C (some _) := ⟨D.get I.o, rfl, rfl, ho⟩
  refine get_value (s := Z.st h tk) (D.inK G) hi (plainGet_of hg).1 (findObj_own hh ha hn ?_) hv ⟨h, tk + 1, rfl, q⟩
  rw [lookIn_ns rfl sk hm]
  unfold locMap
  rw [lookup_of_mem nd hx]; rfl
theorem w_getMeth {x C dx f : Addr} {al : List (Str × Option Value)} {name : Str} {pl : Sem Bool} {Q : Value × List Value → Heap → Prop} (G : Good Z) (D : St Z h l) (I : Inst Z l x C dx al) (hx : name ∉ al.map (·.1))
    (hg : plainGet Z.K C name = true) (hf : findIn Z.K (.ref C) name = some (some (.ref f))) (ht : isFn Z.K (.ref f) = true) (q : Q (.ref f, [.ref x]) h) : W Z k (getMethod (.ref x) name pl) Q h := .mk fun tk => by
  obtain ⟨nd, es, ep, ho, sk, hm, _⟩ := D.at_ _ I.d
  have hi : InstAt h x (instObj C dx) C (some _) := ⟨D.get I.o, rfl, rfl, ho⟩
  refine method_fn (s := Z.st h tk) (D.inK G) hi (plainGet_of hg).1 (plainGet_of hg).2 hf (beq_iff_eq.mp ht) ?_ ⟨h, tk, rfl, q⟩
  show (lookIn name _).map _ = _
  rw [lookIn_ns rfl sk hm]
  unfold locMap
  rw [lookup_none_of hx]; rfl
theorem w_setAttr {x C dx : Addr} {al al' : List (Str × Option Value)} {name : Str} {v : Value} {Q : Unit → Heap → Prop} (G : Good Z) (D : St Z h l) (I : Inst Z l x C dx al) (hp : Put al name v al') (U : Upd l dx (.dct al) (.dct al') l')
    (hs : findIn Z.K (.ref C) "__setattr__" = some (some (.builtin "object.__setattr__"))) (ho : plainOver Z.K C = true) (ht : takerIn Z.K C name = some none) (hh : hasDictIn Z.K C = true) (hlen : al'.length ≤ 1000)
    (q : ∀ h', St Z h' l' → Q () h') : W Z k (setAttr (.ref x) name v) Q h := .mk fun tk => by
  obtain ⟨nd, es, ep, hg, sk, hm, hz⟩ := D.at_ _ I.d
  have hi : InstAt h x (instObj C dx) C (some _) := ⟨D.get I.o, rfl, rfl, hg⟩
  have X := D.inK G
  refine set_plain (s := Z.st h tk) X hi hs (osa_open (s := Z.st h (tk + 1)) X hi ho ht fun b => ?_)
  obtain ⟨cd, hc, hd'⟩ := any_some hh
  dsimp only
  refine wpAny_bind (wpAny_pure (wpAny_bind (wpAny_bind (wpAny_loadPart (s := Z.st h (tk + 1)) (D.get I.o) (wpAny_bind ((looks_clsIn X hc).here ?_))))))
  rw [hd']
  refine wpAny_pure (a := some dx) (wpAny_bind (wpAny_pure (wpAny_bind ?_)))
  refine nsSet_d hg sk fun h' es' ep' hg' sk' hm' hz' hs' => ?_
  have hsz : es'.size = locCount al' := by rw [hp.count nd, hz', hz, ← hm name]
  have hle : locCount al' ≤ al'.length := List.length_filter_le ..
  refine wpAny_bind (wpAny_lookBehind (s := Z.st h' (tk + 1 + 1)) hg' (pastItsLine_dict (by rw [hsz, sizeLine_eq]; omega)) ?_)
  refine wpAny_pure ⟨h', _, rfl, q h' (D.upd U hs' ⟨by rw [hp.keys]; exact nd, es', ep', hg', sk', fun x => ?_, hsz⟩)⟩
  rw [hm', hp.map nd, hm]
end
end Mine

namespace Mine
section
variable {Z : Sur} {h h' : Heap} {l l' : Led} {k : Nat} {env : Env}
theorem w_Attribute {value : Expr} {attr : Str} {pos : Pos} {Q : Value → Heap → Prop} (q : W Z k (eval value env) (fun o h₁ => W Z k (getAttr o attr true) Q h₁) h)
    (he : eval (.Attribute value attr pos) env = (do
      let o ← eval value env
      standAt pos.atName
      let r ← holding [o] (getAttr o attr true)
      letTemporaryGo value o r
      pure r)) : W Z k (eval (.Attribute value attr pos) env) Q h := .mk fun tk =>
  Attribute_any_ (q.cps (fun _ _ tk₁ w => w.run tk₁) tk) he
theorem w_AssignAttr {o e : Expr} {attr : Str} {pos' pos : Pos} {Q : Flow → Heap → Prop} (q : W Z k (eval e env) (fun v h₁ => W Z k (eval o env) (fun ov h₂ => W Z k (setAttr ov attr v) (fun _ => Q .next) h₂) h₁) h)
    (hs : swapsWith e (some (.Attribute o attr pos')) pos.line env = pure false) : W Z k (exec (.Assign [.Attribute o attr pos'] e pos) env) Q h := .mk fun tk =>
  plainObj_wpAny_Assign_Attribute (q.cps (fun _ _ tk₁ w => w.cps (fun _ _ tk₂ w => w.cps (fun _ h' tk' w => ⟨h', tk', rfl, w⟩) tk₂) tk₁) tk) hs
theorem w_AugAttr {o e : Expr} {attr : Str} {tpos pos : Pos} {op : Operator} {Q : Flow → Heap → Prop}
    (q : W Z k (eval o env) (fun ov h₁ => W Z k (getAttr ov attr true) (fun old h₂ => W Z k (eval e env) (fun v h₃ => W Z k (inplaceOp op old v) (fun new h₄ => W Z k (setAttr ov attr new) (fun _ => Q .next) h₄) h₃) h₂) h₁) h) :
    W Z k (exec (.AugAssign (.Attribute o attr tpos) op e pos) env) Q h := .mk fun tk =>
  wpAny_AugAssign_AttributeAny (q.cps (fun _ _ t₁ w => w.cps (fun _ _ t₂ w => w.cps (fun _ _ t₃ w => w.cps (fun _ _ t₄ w => w.cps (fun _ h' tk' w => ⟨h', tk', rfl, w⟩) t₄) t₃) t₂) t₁) tk)
theorem w_AugSub {o i e : Expr} {tpos pos : Pos} {op : Operator} {Q : Flow → Heap → Prop}
    (q : W Z k (eval o env) (fun ov h₁ => W Z k (eval i env) (fun iv h₂ => W Z k (getItem ov iv) (fun old h₃ => W Z k (eval e env) (fun v h₄ => W Z k (inplaceOp op old v) (fun new h₅ => W Z k (setItem ov iv new) (fun _ => Q .next) h₅) h₄) h₃) h₂) h₁) h)
    (hi : ∀ ov iv new, augStore i ov iv new = (do holding [new, ov, iv] (setItem ov iv new); release [new, ov, iv] []; pure .next)) :
    W Z k (exec (.AugAssign (.Subscript o i tpos) op e pos) env) Q h := .mk fun tk =>
  wpAny_AugAssign_SubscriptAny (q.cps (fun _ _ t₁ w => w.cps (fun _ _ t₂ w => w.cps (fun _ _ t₃ w => w.cps (fun _ _ t₄ w => w.cps (fun _ _ t₅ w => w.cps (fun _ h' tk' w => ⟨h', tk', rfl, w⟩) t₅) t₄) t₃) t₂) t₁) tk) hi
theorem w_Subscript {value slice : Expr} {pos : Pos} {Q : Value → Heap → Prop} (q : W Z k (eval value env) (fun o h₁ => W Z k (eval slice env) (fun i h₂ => W Z k (subscriptTail value slice o i) Q h₂) h₁) h) :
    W Z k (eval (.Subscript value slice pos) env) Q h := .mk fun tk => Subscript_ (q.cps (fun _ _ t₁ w => w.cps (fun _ _ t₂ w => w.run t₂) t₁) tk)
/-- a method's call: what is called, then with what -/
theorem w_CallMeth {o : Expr} {name : Str} {apos pos : Pos} {args : List Expr} {Q : Value → Heap → Prop}
    (he : eval (.Call (.Attribute o name apos) args [] pos) env = (do let ov ← eval o env; standAt apos.atName; methodCall o name apos pos env ov args.length (backTo pos (starEach args env)) []))
    (hf : methodCallForm args.length (backTo pos (starEach args env)) [] = true) (hl : (apos.endLine == pos.line) = true)
    (q : W Z k (eval o env) (fun ov h₁ => ∀ pl, W Z k (getMethod ov name pl) (fun fv h₂ => W Z k (callWith pos fv.1 fv.2 (backTo pos (starEach args env)) []) Q h₂) h₁) h) :
    W Z k (eval (.Call (.Attribute o name apos) args [] pos) env) Q h := by
  rw [he]
  refine W.bind (W.mono q fun ov h₁ w => W.bind (W.standAt ?_))
  unfold methodCall
  rw [hf]
  refine W.bind (W.holding (W.mono (w _) fun fv h₂ w => ?_))
  obtain ⟨f, first⟩ := fv
  have hp : methodCallPos true o env apos pos = pure pos := by unfold methodCallPos; simp [hl]
  show W Z k (do let callPos ← methodCallPos true o env apos pos; callWith callPos f first (backTo pos (starEach args env)) []) Q h₂
  rw [hp]
  exact W.bind (W.pure w)
theorem w_getMethodT {v : Value} {T : String} {name : Str} {id : String} {pl : Sem Bool} {Q : Value × List Value → Heap → Prop} (hT : ∀ tk, (Z.st h tk).TypeIs v T) (pa : PlainAttrs T) (slot : Slot T name id)
    (hty : typeOf (.builtin id) = pure (.type "method_descriptor")) (hd : ∀ a, v = .ref a → ∃ o, h.get? a = some o ∧ o.dict = none) (q : Q (.builtin id, [v]) h) : W Z k (getMethod v name pl) Q h := .mk fun tk =>
  getMethod_builtin (s := Z.st h tk) (hT tk) pa slot hty hd ⟨h, tk, rfl, q⟩
theorem w_strMethod {x : Str} {t : Tok} {name : Str} {id : String} {pl : Sem Bool} {Q : Value × List Value → Heap → Prop} (slot : Slot "str" name id)
    (hty : typeOf (.builtin id) = pure (.type "method_descriptor")) (q : Q (.builtin id, [.str x t]) h) : W Z k (getMethod (.str x t) name pl) Q h :=
  w_getMethodT (fun tk => typeIs_str _ x t) PySem.F.plainAttrs_str slot hty (fun a e => by cases e) q
theorem w_listMethod {a : Addr} {xs : List Value} {name : Str} {id : String} {pl : Sem Bool} {Q : Value × List Value → Heap → Prop} (D : St Z h l) (hm : (a, .lst xs) ∈ l) (slot : Slot "list" name id)
    (hty : typeOf (.builtin id) = pure (.type "method_descriptor")) (q : Q (.builtin id, [.ref a]) h) : W Z k (getMethod (.ref a) name pl) Q h := by
  obtain ⟨n, e⟩ := D.at_ _ hm
  exact w_getMethodT (fun tk => ⟨_, e, rfl⟩) PySem.F.plainAttrs_list slot hty (fun b eb => by cases eb; exact ⟨_, e, rfl⟩) q
theorem w_append {a : Addr} {xs : List Value} {v : Value} {Q : Value → Heap → Prop} (D : St Z h l) (U : Upd l a (.lst xs) (.lst (xs ++ [v])) l') (hz : xs.length ≤ 1000000) (q : ∀ h', St Z h' l' → Q .none h') :
    W Z k (call (.builtin "list.append") [.ref a, v]) Q h := .mk fun tk => by
  refine wpAny_list_append_plain (s := Z.st h tk) (items := xs.toArray) (D.at_ _ U.mem) (fun h' hl' hs => ⟨h', tk, rfl, q h' (D.upd U hs ?_)⟩) (by simp only [List.size_toArray, sizeLine_eq]; omega)
  rw [show xs.toArray.push v = (xs ++ [v]).toArray by simp] at hl'
  exact hl'
/-! texts, ints -/
variable {x y : Str} {t u : Tok} {a b : Int}
theorem w_addStr {Q : Value → Heap → Prop} (hz : x.length + y.length ≤ sizeLine) (q : ∀ t', Q (.str (x ++ y) t') h) : W Z k (binaryOp .Add (.str x t) (.str y u)) Q h := .mk fun tk => add_str (fun t' tk' => ⟨h, tk', rfl, q t'⟩) hz
theorem w_iaddStr {Q : Value → Heap → Prop} (hz : x.length + y.length ≤ sizeLine) (q : ∀ t', Q (.str (x ++ y) t') h) : W Z k (inplaceOp .Add (.str x t) (.str y u)) Q h := .mk fun tk => iadd_str (fun t' tk' => ⟨h, tk', rfl, q t'⟩) hz
theorem w_eqStr {Q : Value → Heap → Prop} (q : Q (.bool (x == y)) h) : W Z k (compareOp .Eq (.str x t) (.str y u)) Q h := .mk fun tk => eq_str ⟨h, tk, rfl, q⟩
theorem w_neStr {Q : Value → Heap → Prop} (q : Q (.bool (x != y)) h) : W Z k (compareOp .NotEq (.str x t) (.str y u)) Q h := .mk fun tk => ne_str ⟨h, tk, rfl, q⟩
theorem w_inStr {Q : Value → Heap → Prop} (q : Q (.bool !(Builtin.Str.occurrences x y 0 x.length 1).isEmpty) h) : W Z k (compareOp .In (.str y u) (.str x t)) Q h := .mk fun tk => in_str ⟨h, tk, rfl, q⟩
theorem w_lenStr {Q : Value → Heap → Prop} (hz : x.length ≤ sizeLine) (q : ∀ t', Q (.int x.length t') h) : W Z k (call (.builtin "len") [.str x t]) Q h := .mk fun tk =>
  len_str (by rw [sizeLine_eq] at hz; omega) ⟨h, tk + 1 + 1, rfl, q _⟩
theorem w_addInt {Q : Value → Heap → Prop} (q : ∀ t', Q (.int (a + b) t') h) : W Z k (binaryOp .Add (.int a t) (.int b u)) Q h := .mk fun tk => add_int ⟨h, tk + 1, rfl, q _⟩
theorem w_iaddInt {Q : Value → Heap → Prop} (q : ∀ t', Q (.int (a + b) t') h) : W Z k (inplaceOp .Add (.int a t) (.int b u)) Q h := .mk fun tk => wpAny_iadd_int ⟨h, tk + 1, rfl, q _⟩
theorem w_getList {a : Addr} {xs : List Value} {i : Int} {t : Tok} {v : Value} {Q : Value → Heap → Prop} (D : St Z h l) (hm : (a, .lst xs) ∈ l) (h0 : 0 ≤ i) (hi : i < 1000000) (hx : xs[i.toNat]? = some v) (q : Q v h) :
    W Z k (getItem (.ref a) (.int i t)) Q h := .mk fun tk => wpAny_getItem_list (s := Z.st h tk) (D.list hm) h0 (by omega) (by simpa using hx) ⟨h, tk, rfl, q⟩
theorem w_truthyList {a : Addr} {xs : List Value} {Q : Bool → Heap → Prop} (D : St Z h l) (hm : (a, .lst xs) ∈ l) (hz : xs.length ≤ 1000000) (q : Q (!xs.isEmpty) h) : W Z k (truthy (.ref a)) Q h := .mk fun tk =>
  wpAny_truthy_list (s := Z.st h tk) (D.list hm) (by simp only [List.size_toArray]; omega) ⟨h, tk + 1 + 1, rfl, by simpa using q⟩
end
end Mine

namespace Mine
/-! attributes that a def bears -/
theorem lk_fn_ga : typeLookup (.type "function") "__getattribute__" = pure (some (.builtin "object.__getattribute__")) := by rw [typeLookup_type, builtinLookup_eq_fast]; kernel_rfl
theorem lk_fn_gattr : typeLookup (.type "function") "__getattr__" = pure none := by rw [typeLookup_type, builtinLookup_eq_fast]; kernel_rfl
theorem lk_fn_read : typeLookup (.type "function") "read" = pure none := by rw [typeLookup_type, builtinLookup_eq_fast]; kernel_rfl
theorem sub_fn_object : isSubtype (.type "function") (.type "object") = pure true := by rw [isSubtype_type]; kernel_rfl
theorem slot_fn_ga : Slot "function" "__getattribute__" "object.__getattribute__" :=
  .of (owner := "object") (n := "__getattribute__") lk_fn_ga (by decide +kernel) (by decide +kernel) (by decide +kernel) (.inl (by rw [find?_eq_fast]; kernel_rfl)) sub_fn_object
theorem args_object_ga (a b : Value) : argsOk "object.__getattribute__" ⟨[a, b], []⟩ := by first | rfl | (unfold argsOk; rfl) | exact PySem.F.args_object_getattribute_2 a b
section
variable {Z : Sur} {h h' : Heap} {l l' : Led} {k : Nat} {env : Env}
theorem w_fnGet {a d : Addr} {fd : FuncData} {al : List (Str × Option Value)} {e : Bool} {v : Value} {Q : Value → Heap → Prop} (D : St Z h l) (ho : (a, .obj { cls := .type "function", dict := some d, data := .func fd }) ∈ l)
    (hd : (d, .dct al) ∈ l) (hx : (("read" : Str), some v) ∈ al) (hv : handedIn v = true) (q : Q v h) : W Z k (getAttr (.ref a) "read" e) Q h := .mk fun tk => by
  have hg := D.get ho
  obtain ⟨nd, es, ep, hdo, sk, hm, _⟩ := D.at_ _ hd
  have hT : ∀ tk, (Z.st h tk).TypeIs (.ref a) "function" := fun tk => ⟨_, hg, rfl⟩
  unfold getAttr getAttrBy
  refine wpAny_bind (wpAny_mkText (wpAny_holding (wpAny_bind (wpAny_typeOf (hT _) (wpAny_bind (wpAny_of_eq lk_fn_ga ?_))))))
  show wpAny _ _ (getAttrByItsOwn _ _ _ _ _ _) _ _ _
  unfold getAttrByItsOwn
  refine wpAny_bind (wpAny_pure (wpAny_bind (wpAny_attempt ?_)))
  show wpAny _ _ (callGetattribute _ _ _ _) _ _ _
  have hc : callGetattribute (.ref a) (.str "read" tk) (.builtin "object.__getattribute__") e = boundAndCalled (.builtin "object.__getattribute__") (.ref a) (.str "read" tk) := by
    unfold callGetattribute; cases e <;> rfl
  show wpAny _ _ (callGetattribute (.ref a) (.str "read" tk) (.builtin "object.__getattribute__") e) _ _ _
  rw [hc]
  unfold boundAndCalled
  refine wpAny_bind (wpAny_of_eq (slot_fn_ga.bind _) ?_)
  refine wpAny_call_entry slot_fn_ga (hT _) PySem.F.entry_object_getattribute ?_ (args_object_ga _ _)
  unfold Builtin.«object.__getattribute__»
  refine wpAny_bind (wpAny_pure (wpAny_bind (wpAny_pure (wpAny_bind (wpAny_typeOf (hT _) (wpAny_bind ?_))))))
  unfold Builtin.ObjectAttr.find
  refine wpAny_bind (wpAny_of_eq lk_fn_read (wpAny_bind (wpAny_pure (wpAny_bind (wpAny_pure ?_)))))
  unfold Builtin.ObjectAttr.ownThenClass
  refine wpAny_bind ?_
  show wpAny _ _ (do Builtin.ObjectAttr.inDict "read" (← Builtin.ObjectAttr.ownDict a)) _ _ _
  refine wpAny_bind ?_
  unfold Builtin.ObjectAttr.ownDict
  refine wpAny_bind (wpAny_loadPart hg ?_)
  unfold instanceDict
  refine wpAny_bind (wpAny_loadPart hg (wpAny_bind (wpAny_pure (wpAny_pure ?_))))
  refine wpAny_nsGet (m := locMap al) ⟨_, es, ep, hdo, rfl, sk, hm⟩ ?_
  have : locMap al "read" = some v := by unfold locMap; rw [lookup_of_mem nd hx]; rfl
  rw [this]
  refine wpAny_bind (wpAny_rule (wpAny_pure (wpAny_pure ⟨v, rfl, ?_⟩)))
  show wpAny _ _ (handedOut v) _ _ _
  rw [handedOut_of hv]
  exact wpAny_pure ⟨h, _, rfl, q⟩
end
end Mine

namespace Mine
section
variable {Z : Sur} {h h' : Heap} {l l' : Led} {k : Nat} {env : Env}
theorem w_fnMeth {a d : Addr} {fd : FuncData} {al : List (Str × Option Value)} {pl : Sem Bool} {v : Value} {Q : Value × List Value → Heap → Prop} (D : St Z h l) (ho : (a, .obj { cls := .type "function", dict := some d, data := .func fd }) ∈ l)
    (hd : (d, .dct al) ∈ l) (hx : (("read" : Str), some v) ∈ al) (hv : handedIn v = true) (q : Q (v, []) h) : W Z k (getMethod (.ref a) "read" pl) Q h := by
  have hg := D.get ho
  have hT : ∀ tk, (Z.st h tk).TypeIs (.ref a) "function" := fun tk => ⟨_, hg, rfl⟩
  unfold getMethod
  refine W.bind (.mk fun tk => wpAny_specialOf (hT tk) lk_fn_ga ⟨h, tk, rfl, ?_⟩)
  dsimp only
  rw [PySem.F.canon_object_ga, if_neg (by decide)]
  refine W.bind (.mk fun tk => wpAny_specialOf (hT tk) lk_fn_gattr ⟨h, tk, rfl, ?_⟩)
  refine W.bind (.mk fun tk => wpAny_specialOf (hT tk) lk_fn_read ⟨h, tk, rfl, ?_⟩)
  dsimp only
  exact W.bind (W.mono (w_fnGet D ho hd hx hv (Q := fun r h' => r = v ∧ h' = h) ⟨rfl, rfl⟩) fun r h' e => by obtain ⟨rfl, rfl⟩ := e; exact W.pure q)
/-- a bound method as a value -/
theorem w_bound {x C dx f : Addr} {al : List (Str × Option Value)} {name : Str} {e : Bool} {Q : Value → Heap → Prop} (G : Good Z) (D : St Z h l) (I : Inst Z l x C dx al) (hx : name ∉ al.map (·.1))
    (hg : plainGet Z.K C name = true) (hh : hasDictIn Z.K C = true) (ha : findIn Z.K (.ref C) name = some (some (.ref f))) (hf : isFn Z.K (.ref f) = true)
    (hgf : specialIn Z.K (.ref f) "__get__" = some (some (.builtin "function.__get__"))) (ht : takesIn Z.K (.ref f) = some false) (hc : copiedNames.contains name = false)
    (q : ∀ m h', St Z h' ((m, .obj (methodObj (.ref f) (.ref x))) :: l) → Q (.ref m) h') : W Z k (getAttr (.ref x) name e) Q h := .mk fun tk => by
  obtain ⟨nd, es, ep, ho, sk, hm, _⟩ := D.at_ _ I.d
  have hi : InstAt h x (instObj C dx) C (some _) := ⟨D.get I.o, rfl, rfl, ho⟩
  refine get_bind (s := Z.st h tk) (D.inK G) hi (plainGet_of hg).1 (findObj_fn hh ha hgf ht hc ?_) (plainGet_of hg).2 (wpAny_call (fn_get (s := Z.st h (tk + 1)) (D.inK G) (beq_iff_eq.mp hf) ?_))
  · rw [lookIn_ns rfl sk hm]
    unfold locMap
    rw [lookup_none_of hx]; rfl
  · exact handed_on rfl ⟨_, tk + 1, rfl, q _ _ (D.alloc rfl)⟩
/-! iter(f, end): its making, its turns -/
theorem kind_iter : builtinKind "iter" = none := by decide +kernel
theorem plain_iter : plainId "iter" = true := by decide +kernel
theorem entry_iter : entryFor table "iter" = some Builtin.«iter» := entryFor_of_tree (by kernel_rfl)
theorem args_iter_2 (a b : Value) : argsOk "iter" ⟨[a, b], []⟩ := by unfold argsOk; kernel_rfl
theorem lk_method_call : typeLookup (.type "method") "__call__" = pure (some (.builtin "method.__call__")) := by rw [typeLookup_type, builtinLookup_eq_fast]; kernel_rfl
theorem lk_ci_next : typeLookup (.type "callable_iterator") "__next__" = pure (some (.builtin "callable_iterator.__next__")) := by rw [typeLookup_type, builtinLookup_eq_fast]; kernel_rfl
theorem lk_ci_iter : typeLookup (.type "callable_iterator") "__iter__" = pure (some (.builtin "callable_iterator.__iter__")) := by rw [typeLookup_type, builtinLookup_eq_fast]; kernel_rfl
theorem sub_ci : isSubtype (.type "callable_iterator") (.type "callable_iterator") = pure true := by rw [isSubtype_type]; kernel_rfl
theorem slot_ci_next : Slot "callable_iterator" "__next__" "callable_iterator.__next__" :=
  .of (owner := "callable_iterator") (n := "__next__") lk_ci_next (by decide +kernel) (by decide +kernel) (by decide +kernel) (.inl (by rw [find?_eq_fast]; kernel_rfl)) sub_ci
theorem slot_ci_iter : Slot "callable_iterator" "__iter__" "callable_iterator.__iter__" :=
  .of (owner := "callable_iterator") (n := "__iter__") lk_ci_iter (by decide +kernel) (by decide +kernel) (by decide +kernel) (.inl (by rw [find?_eq_fast]; kernel_rfl)) sub_ci
theorem entry_ci_next : entryFor table "callable_iterator.__next__" = some Builtin.«callable_iterator.__next__» := entryFor_of_tree (by kernel_rfl)
theorem args_ci_next (a : Value) : argsOk "callable_iterator.__next__" ⟨[a], []⟩ := by unfold argsOk; kernel_rfl
abbrev ciObj (m : Value) (s : Value) (b : Bool) : Obj := { cls := .type "callable_iterator", data := .fields #[m, s, .bool b] }
theorem w_iter2 {m f x : Addr} {s : Value} {Q : Value → Heap → Prop} (D : St Z h l) (hm : (m, .obj (methodObj (.ref f) (.ref x))) ∈ l) (q : ∀ it h', St Z h' ((it, .obj (ciObj (.ref m) s false)) :: l) → Q (.ref it) h') :
    W Z k (call (.builtin "iter") [.ref m, s]) Q h := .mk fun tk => by
  refine Calls.call_function_entry kind_iter plain_iter entry_iter (args_iter_2 _ _) ?_
  unfold Builtin.«iter»
  refine wpAny_bind (wpAny_pure ?_)
  dsimp only
  refine wpAny_bind (wpAny_specialOf (T := "method") ⟨_, D.get hm, rfl⟩ lk_method_call ?_)
  refine wpAny_bind (wpAny_rule (wpAny_bind (wpAny_newObj_type ?_)))
  exact wpAny_pure ⟨_, rfl, _, tk, rfl, q _ _ (D.alloc rfl)⟩
end
end Mine

namespace Mine
theorem entry_ci_iter : entryFor table "callable_iterator.__iter__" = some Builtin.«dict_keyiterator.__iter__» := entryFor_alias (id' := "dict_keyiterator.__iter__") (by kernel_rfl) rfl (by decide +kernel) (by kernel_rfl)
theorem args_ci_iter (a : Value) : argsOk "callable_iterator.__iter__" ⟨[a], []⟩ := by unfold argsOk; kernel_rfl
section
variable {Z : Sur} {h h' : Heap} {l l' : Led} {k : Nat} {env : Env}
theorem w_ciIter {it : Addr} {m s : Value} {b : Bool} {Q : Value → Heap → Prop} (D : St Z h l) (hi : (it, .obj (ciObj m s b)) ∈ l) (q : Q (.ref it) h) : W Z k (pyIter (.ref it)) Q h := .mk fun tk => by
  have hT : (Z.st h tk).TypeIs (.ref it) "callable_iterator" := ⟨_, D.get hi, rfl⟩
  refine wpAny_pyIter_slot hT slot_ci_iter (wpAny_call_entry slot_ci_iter hT entry_ci_iter ?_ (args_ci_iter _))
  show wpAny _ _ (ret (.ref it)) _ _ _
  exact wpAny_pure ⟨_, rfl, "callable_iterator", _, hT, slot_ci_next.lookup, h, tk, rfl, q⟩
theorem w_ciNext {it m f x : Addr} {sn : Str} {ts : Tok} {of : Obj} {fd : FuncData} {Q : Option Value → Heap → Prop} (D : St Z h l) (hi : (it, .obj (ciObj (.ref m) (.str sn ts) false)) ∈ l) (hm : (m, .obj (methodObj (.ref f) (.ref x))) ∈ l)
    (hf : h.get? f = some of) (hfd : of.data = .func fd)
    (q : C Z (k + 1) (.call (.ref f) ⟨[.ref x], []⟩) (fun fl h₁ => ∃ r tr l₁, fl = .ret (.str r tr) ∧ St Z h₁ l₁ ∧ (m, .obj (methodObj (.ref f) (.ref x))) ∈ l₁ ∧ h₁.get? f = some of ∧
      (r ≠ sn → (it, .obj (ciObj (.ref m) (.str sn ts) false)) ∈ l₁ ∧ Q (some (.str r tr)) h₁) ∧
      (r = sn → ∃ l₂, Upd l₁ it (.obj (ciObj (.ref m) (.str sn ts) false)) (.obj (ciObj .none .none true)) l₂ ∧ ∀ h₂, St Z h₂ l₂ → Q none h₂)) h) : W Z k (pyNext (.ref it)) Q h := .mk fun tk => by
  have ho := D.get hi
  have hT : (Z.st h tk).TypeIs (.ref it) "callable_iterator" := ⟨_, ho, rfl⟩
  unfold pyNext
  refine wpAny_bind (wpAny_attempt (wpAny_callSpecial?_slot (name := Str.ofString "__next__") hT slot_ci_next (wpAny_call_entry slot_ci_next hT entry_ci_next ?_ (args_ci_next _))))
  unfold Builtin.«callable_iterator.__next__»
  refine wpAny_bind (wpAny_pure ?_)
  refine wpAny_bind (wpAny_field ho rfl (x := .bool false) rfl ?_)
  rw [if_neg (by decide)]
  refine wpAny_bind (wpAny_field ho rfl (x := .ref m) rfl ?_)
  refine wpAny_bind (wpAny_attempt ?_)
  unfold callOutOfASlot
  have be : ∀ {A : Around} {E : Value → Shared → Prop} {h₁ : Heap} {tk₁ : Nat} {R : Bool → Shared → Prop}, h₁.get? m = some (methodObj (.ref f) (.ref x)) → h₁.get? f = some of → R true (Z.st h₁ tk₁) → wpAny (model Z.prog Z.w) A (borrowsExactly (.ref m)) R E (Z.st h₁ tk₁) := by
    intro A E h₁ tk₁ R e1 e2 r
    unfold borrowsExactly
    refine wpAny_bind (wpAny_load e1 ?_)
    dsimp only
    rw [if_pos (by decide)]
    refine wpAny_bind (wpAny_load e2 ?_)
    rw [hfd]
    exact wpAny_pure r
  refine wpAny_bind (be (D.get hm) hf ?_)
  rw [if_pos rfl]
  unfold callBorrowed
  refine X.x_call ?_ (by intro e; cases e)
  refine codeAny_mono (codeAny_weaken (A' := Lv (k + 1)) (method_call (s := Z.st h tk) (D.get hm) (q.run tk)) rfl (by show 310 + 10 * k ≤ 310 + 10 * (k + 1); omega) rfl rfl (by show 50 + 100 * k + 1 ≤ 50 + 100 * (k + 1); omega)) ?_
  rintro _ _ ⟨_, h₁, tk₁, rfl, rfl, r, tr, l₁, rfl, D₁, hm₁, hf₁, qa, qb⟩
  refine wpAny_pure ?_
  dsimp only
  have hi₁ : h₁.get? it = some (ciObj (.ref m) (.str sn ts) false) := by
    by_cases e : r = sn
    · obtain ⟨l₂, U, _⟩ := qb e
      exact D₁.get U.mem
    · exact D₁.get (qa e).1
  refine wpAny_bind (wpAny_field hi₁ rfl (x := .bool false) rfl ?_)
  rw [if_neg (by decide)]
  refine wpAny_bind (wpAny_field hi₁ rfl (x := .str sn ts) rfl ?_)
  refine wpAny_bind (wpAny_holding (wpAny_eqBool_str ?_))
  by_cases e : r = sn
  · obtain ⟨l₂, U, q₂⟩ := qb e
    rw [decide_eq_true (show sn = r from e.symm)]
    rw [if_neg (by decide)]
    refine wpAny_bind (wpAny_rule (wpAny_bind ?_))
    refine wpAny_bind (wpAny_field hi₁ rfl (x := .ref m) rfl (wpAny_bind ?_))
    unfold slotLetsGo
    refine wpAny_bind (be (D₁.get hm₁) hf₁ ?_)
    rw [if_pos rfl]
    refine wpAny_pure ?_
    refine wpAny_bind (wpAny_setField hi₁ rfl (Nat.le_of_ble_eq_true rfl) ?_)
    have e1 : (h₁.update it (Obj.mapFields (·.setIfInBounds 0 .none))).get? it = some { cls := .type "callable_iterator", data := .fields #[.none, .str sn ts, .bool false] } := Heap.get?_update_self _ hi₁ rfl
    refine wpAny_bind (wpAny_setField (s := Z.st _ tk₁) e1 rfl (Nat.le_of_ble_eq_true rfl) ?_)
    have e2 := Heap.get?_update_self (Obj.mapFields (·.setIfInBounds 1 .none)) e1 rfl
    refine wpAny_setField (s := Z.st _ tk₁) e2 rfl (Nat.le_of_ble_eq_true rfl) ?_
    have e3 := Heap.get?_update_self (Obj.mapFields (·.setIfInBounds 2 (.bool true))) e2 rfl
    have sb : Heap.SameBut it h₁ (((h₁.update it (Obj.mapFields (·.setIfInBounds 0 .none))).update it (Obj.mapFields (·.setIfInBounds 1 .none))).update it (Obj.mapFields (·.setIfInBounds 2 (.bool true)))) :=
      ((Heap.SameBut.update ..).trans (Heap.SameBut.update ..)).trans (Heap.SameBut.update ..)
    have D₂ : St Z _ l₂ := D₁.upd U sb e3
    unfold Builtin.SmallTypes.stopIteration
    refine wpAny_bind ?_
    simp only [newExc, newTuple]
    refine wpAny_bind (wpAny_newObj_type ?_ (by size_fits))
    refine wpAny_bind (m := firstArgMember _ _) (wpAny_of_eq (a := Value.none) (by first | rfl | (simp only [firstArgMember]; rfl)) ?_)
    refine wpAny_newObj_type ?_ (by size_fits)
    simp only [raiseNew]
    refine wpAny_bind (wpAny_handled ?_)
    rw [show (Lv k).in1.handled = none from rfl]
    refine wpAny_bind (wpAny_pure (wpAny_throw ?_))
    refine wpAny_bind (wpAny_isInstance (T := "StopIteration") (b := true) ⟨_, Heap.get?_push_size _ rfl, rfl⟩ isSubtype_stop ?_)
    refine wpAny_pure ⟨_, tk₁, rfl, q₂ _ (D₂.grow fun b o eb => Heap.get?_push_of_some _ (Heap.get?_push_of_some _ eb))⟩
  · rw [decide_eq_false (show ¬ sn = r from fun z => e z.symm)]
    rw [if_pos (by decide)]
    exact wpAny_pure ⟨_, rfl, wpAny_pure ⟨h₁, tk₁, rfl, (qa e).2⟩⟩
end
end Mine

namespace Mine
/-- a text by its signs' numbers -/
def S (cs : List Nat) : Str := ⟨cs.toArray⟩
theorem S_inj {a b : List Nat} : S a = S b ↔ a = b := by
  constructor
  · intro e
    have := congrArg (fun x : Str => x.cps.toList) e
    simpa [S] using this
  · rintro rfl; rfl
theorem S_len (a : List Nat) : (S a).length = a.length := by show a.toArray.size = _; simp
theorem S_app (a b : List Nat) : S a ++ S b = S (a ++ b) := by
  apply Str.ext'
  rw [Str.cps_append]
  simp [S]
theorem S_eq (a b : List Nat) : (S a == S b) = decide (a = b) := by
  by_cases h : a = b
  · subst h; simp
  · rw [decide_eq_false h]
    exact beq_eq_false_iff_ne.mpr fun e => h (S_inj.mp e)
theorem S_ne (a b : List Nat) : (S a != S b) = decide (a ≠ b) := by
  unfold bne
  rw [S_eq]
  by_cases h : a = b <;> simp [h]
theorem S_of (x : Str) : x = S x.cps.toList := by apply Str.ext'; simp [S]
theorem filterMap_range (cs : List Nat) : ∀ (n i : Nat), i + n ≤ cs.length → ((List.range n).map fun k => i + k).filterMap (fun j => cs[j]?) = (cs.drop i).take n
  | 0, i, _ => by simp
  | n + 1, i, h => by
    rw [List.range_succ, List.map_append, List.filterMap_append, filterMap_range cs n i (by omega)]
    have : i + n < cs.length := by omega
    rw [List.take_add_one]
    simp [this]
theorem slice_nn (cs : List Nat) (i j : Nat) : Txt.slice (S cs) (some (i : Int)) (some (j : Int)) = S ((cs.drop i).take (j - i)) := by
  have hidx : Builtin.Str.strSliceIndices (some (i : Int)) (some (j : Int)) 1 (S cs).length = (List.range (min j cs.length - min i cs.length)).map fun k => min i cs.length + k := by
    unfold Builtin.Str.strSliceIndices sliceRange
    rw [S_len]
    have h1 : ¬ ((i : Int) < 0) := by omega
    have h2 : ¬ ((j : Int) < 0) := by omega
    simp only [h1, h2, if_false, show (1 : Int) > 0 from by decide, if_true]
    have e1 : max 0 (min (i : Int) cs.length) = ((min i cs.length : Nat) : Int) := by omega
    have e2 : max 0 (min (j : Int) cs.length) = ((min j cs.length : Nat) : Int) := by omega
    rw [e1, e2]
    by_cases hlt : ((min i cs.length : Nat) : Int) < ((min j cs.length : Nat) : Int)
    · rw [if_pos hlt]
      have : ((((min j cs.length : Nat) : Int) - ((min i cs.length : Nat) : Int) + 1 - 1) / 1).toNat = min j cs.length - min i cs.length := by omega
      rw [this]
      apply List.map_congr_left
      intro k _
      omega
    · rw [if_neg hlt]
      have : min j cs.length - min i cs.length = 0 := by omega
      rw [this]; rfl
  have key : ((Builtin.Str.strSliceIndices (some (i : Int)) (some (j : Int)) 1 (S cs).length).filterMap ((S cs).cps[·]?)) = (cs.drop i).take (j - i) := by
    rw [hidx]
    have : (fun j : Nat => (S cs).cps[j]?) = fun j => cs[j]? := by funext j; simp [S]
    rw [this, filterMap_range cs _ _ (by omega)]
    by_cases hi : i ≤ cs.length
    · rw [Nat.min_eq_left hi]
      apply List.take_eq_take_iff.mpr
      rw [List.length_drop]; omega
    · have e1 : min i cs.length = cs.length := by omega
      rw [e1, List.drop_of_length_le (Nat.le_refl _), List.drop_of_length_le (by omega)]
      simp
  unfold Txt.slice
  split
  · rename_i hc
    have hl := congrArg List.length hidx
    simp only [List.length_map, List.length_range] at hl
    have hn : (Builtin.Str.strSliceIndices (some (i : Int)) (some (j : Int)) 1 (S cs).length).length = (S cs).length := by
      simp only [Bool.and_eq_true, beq_iff_eq] at hc
      exact hc.2
    rw [hl, S_len] at hn
    apply S_inj.mpr
    by_cases h0 : cs.length = 0
    · have : cs = [] := List.length_eq_zero_iff.mp h0
      subst this; simp
    · have hi : i = 0 := by omega
      subst hi
      rw [List.drop_zero, List.take_of_length_le (by omega)]
  · rw [key]; rfl
section
variable {Z : Sur} {h h' : Heap} {l l' : Led} {k : Nat} {env : Env}
def SlicePost (Z : Sur) (Q : Value → Heap → Prop) (o a b : Value) (h : Heap) : Prop :=
  ∃ l x t i j, St Z h l ∧ o = .str x t ∧ a = partValue i ∧ b = partValue j ∧ x.length ≤ sizeLine ∧ ∀ t' h', St Z h' l → Q (.str (Txt.slice x (i.map (·.1)) (j.map (·.1))) t') h'
theorem St.push (D : St Z h l) (o : Obj) : St Z (h.push o) l := D.grow fun _ _ e => Heap.get?_push_of_some _ e
theorem w_SubSlice {v : Expr} {lo hi : Option Expr} {p pos : Pos} {Q : Value → Heap → Prop}
    (q : W Z k (eval v env) (fun o h₁ => W Z k (evalPart lo env) (fun a h₂ => W Z k (evalPart hi env) (fun b h₃ => SlicePost Z Q o a b h₃) h₂) h₁) h)
    (ht : ∀ o r, letTemporaryGo v o r = pure ()) : W Z k (eval (.Subscript v (.Slice lo hi none p) pos) env) Q h := .mk fun tk => by
  refine wpAny_Subscript_str_slice (q.cps (fun o h₁ t₁ w => w.cps (fun a h₂ t₂ w => w.cps (fun b h₃ t₃ w => ?_) t₂) t₁) tk) ht
  obtain ⟨l, x, t, i, j, D, rfl, rfl, rfl, hz, q⟩ := w
  refine ⟨x, t, i, j, rfl, rfl, rfl, post_val_or_str ⟨Nat.le_trans (Txt.slice_le x _ _) hz, fun t' k' => ⟨_, k', rfl, q t' _ (D.push _)⟩⟩⟩
theorem w_part_some {e : Expr} {Q : Value → Heap → Prop} (q : W Z k (eval e env) Q h) : W Z k (evalPart (some e) env) Q h := q
theorem w_part_none {Q : Value → Heap → Prop} (q : Q .none h) : W Z k (evalPart none env) Q h := W.pure q
/-- an item of a list or a text at a written or reckoned place -/
theorem w_subList {value slice : Expr} {a : Addr} {xs : List Value} {i : Int} {t : Tok} {v : Value} {Q : Value → Heap → Prop} (D : St Z h l) (hm : (a, .lst xs) ∈ l) (h0 : 0 ≤ i) (hi : i < 1000000) (hx : xs[i.toNat]? = some v) (q : Q v h)
    (hs : subscripted slice false (.ref a) (.int i t) = operate [.ref a, .int i t] (getItem (.ref a) (.int i t))) (hg : ∀ r, letTemporaryGo value (.ref a) r = pure ()) : W Z k (subscriptTail value slice (.ref a) (.int i t)) Q h := .mk fun tk =>
  subscriptTail_builtin (D.list hm).typeIs PySem.F.slot_list_getitem.lookup ((w_getList D hm h0 hi hx q).run tk) hs hg
theorem w_setList {a : Addr} {xs : List Value} {i : Int} {t : Tok} {v : Value} {Q : Unit → Heap → Prop} (D : St Z h l) (hm : (a, .lst xs) ∈ l) (h0 : 0 ≤ i) (hi : i.toNat < xs.length) (hz : Nat.ble xs.length 1000000 = true) (U : Upd l a (.lst xs) (.lst (xs.set i.toNat v)) l')
    (q : ∀ h', St Z h' l' → Q () h') : W Z k (setItem (.ref a) (.int i t) v) Q h := .mk fun tk => by
  have hz := Nat.le_of_ble_eq_true hz
  obtain ⟨n, ho⟩ := D.at_ _ U.mem
  have hl : (Z.st h tk).heap.IsList a xs.toArray := D.list U.mem
  unfold setItem
  try with_reducible refine wpAny_holding ?_
  first | refine wpAny_bind (wpAny_pure ?_) | skip
  refine wpAny_bind (wpAny_sequenceKey hl.typeIs (by decide) ?_)
  refine wpAny_bind (wpAny_callSpecial?_slot (name := Str.ofString "__setitem__") hl.typeIs slot_list_setitem (wpAny_call_entry slot_list_setitem hl.typeIs entry_list_setitem ?_ (args_list_setitem _ _ _)))
  show wpAny _ _ (Builtin.List.listSubscript? (.int i t) >>= _) _ _ _
  refine wpAny_bind (wpAny_listSubscript_int (fitsIndex_of h0 (by omega)) ?_)
  obtain ⟨j, rfl⟩ := Int.eq_ofNat_of_zero_le h0
  have hj : j < xs.length := by omega
  show wpAny _ _ ((seqItemAt a j >>= fun r => pure (r.map (j, ·))) >>= _) _ _ _
  refine wpAny_bind (wpAny_bind (wpAny_seqItemAt ho rfl (wpAny_pure ?_)))
  rw [show xs.toArray[j]? = some xs[j] by simp [hj]]
  show wpAny _ _ (setSeqItemAt a j v >>= _) _ _ _
  have e : Obj.mapSeq (·.setIfInBounds j v) { cls := .type "list", data := .seq xs.toArray n } = { cls := .type "list", data := .seq (xs.set j v).toArray n } := by
    simp only [Obj.mapSeq, List.setIfInBounds_toArray, List.size_toArray, List.length_set, beq_self_eq_true, if_true]
  have fin : (h.update a (Obj.mapSeq (·.setIfInBounds j v))).get? a = some { cls := .type "list", data := .seq (xs.set j v).toArray n } := by
    rw [Heap.get?_update_self _ ho (by rw [e]; rfl), e]
  refine wpAny_bind (wpAny_setSeqItemAt ho rfl ?_)
  have D' := D.upd U (Heap.SameBut.update ..) ⟨n, fin⟩
  first
    | exact wpAny_bind (wpAny_pure (wpAny_pure ⟨.none, rfl, wpAny_pure ⟨_, tk, rfl, q _ D'⟩⟩))
    | exact wpAny_pure ⟨.none, rfl, wpAny_pure ⟨_, tk, rfl, q _ D'⟩⟩
end
end Mine

namespace Mine
section
variable {Z : Sur} {h h' : Heap} {l l' : Led} {k : Nat} {env : Env}
theorem w_pop0 {a : Addr} {v : Value} {xs : List Value} {t : Tok} {Q : Value → Heap → Prop} (D : St Z h l) (hm : (a, .lst (v :: xs)) ∈ l) (hz : xs.length ≤ 1000000) (U : Upd l a (.lst (v :: xs)) (.lst xs) l') (q : ∀ h', St Z h' l' → Q v h') :
    W Z k (call (.builtin "list.pop") [.ref a, .int 0 t]) Q h := .mk fun tk => by
  obtain ⟨n, ho⟩ := D.at_ _ U.mem
  refine wpAny_call_entry PySem.F.slot_list_pop (⟨_, ho, rfl⟩ : (Z.st h tk).TypeIs (.ref a) "list") PySem.F.entry_list_pop ?_ (PySem.F.args_list_pop_2 _ _)
  unfold Builtin.«list.pop»
  refine wpAny_bind (wpAny_pure ?_)
  dsimp only
  refine wpAny_bind (wpAny_of_eq (a := (0 : Int)) rfl ?_)
  rw [if_neg (by decide)]
  refine wpAny_bind (wpAny_listItems ho rfl ?_)
  rw [if_neg (by simp)]
  have hs : ((seqIndex? 0 (v :: xs).toArray.size).bind fun k => (v :: xs).toArray[k]?.map (k, ·)) = some (0, v) := by
    unfold seqIndex?
    simp
  rw [hs]
  dsimp only
  have e : Obj.mapSeq (·.eraseIdxIfInBounds 0) { cls := .type "list", data := .seq (v :: xs).toArray n } = { cls := .type "list", data := .seq xs.toArray (n + 1) } := by
    have he : (v :: xs).toArray.eraseIdxIfInBounds 0 = xs.toArray := by simp
    simp only [Obj.mapSeq, he]
    simp
  have fin : (h.update a (Obj.mapSeq (·.eraseIdxIfInBounds 0))).get? a = some { cls := .type "list", data := .seq xs.toArray (n + 1) } := by
    rw [Heap.get?_update_self _ ho (by rw [e]; rfl), e]
  have D' := D.upd U (Heap.SameBut.update ..) ⟨n + 1, fin⟩
  refine wpAny_bind ?_
  exact wpAny_updateSeq ho rfl (wpAny_pure ⟨v, rfl, _, tk, rfl, q _ D'⟩) (by simp [sizeLine_eq]; omega) (by simp [sizeLine_eq]; omega)
theorem in_one (x : List Nat) (c : Nat) : (!(Builtin.Str.occurrences (S x) (S [c]) 0 (S x).length 1).isEmpty) = decide (c ∈ x) := by
  have h := StrLaws.found_one (S x) c
  have e : (S x).cps.toList = x := by simp [S]
  have d : decide (c ∈ (S x).cps.toList) = decide (c ∈ x) := by rw [decide_eq_decide, e]
  exact h.trans d
end
end Mine

namespace Mine
abbrev fnObj (fd : FuncData) : Obj := { cls := .type "function", data := .func fd }
/-- a def of the top, where it stands -/
structure FnAt (Z : Sur) (a : Addr) (fd : FuncData) (c : Addr) : Prop where
  get : Z.h₁.get? a = some (fnObj fd)
  na : a ≠ Z.T
  cd : fd.code = .ref c
  code : ∃ o vs t, Z.h₁.get? c = some o ∧ o.data = .fields vs ∧ vs[1]? = some (.str fd.qualname t)
  nc : c ≠ Z.T
section
variable {Z : Sur} {h : Heap} {l : Led} {k : Nat}
theorem FnAt.here {a c : Addr} {fd : FuncData} (A : FnAt Z a fd c) (D : St Z h l) : h.get? a = some (fnObj fd) := D.top A.get A.na
theorem FnAt.rec_ {a c : Addr} {fd : FuncData} (A : FnAt Z a fd c) (D : St Z h l) : h.CodeRec fd.code fd.qualname := by
  obtain ⟨o, vs, t, e, e1, e2⟩ := A.code
  exact ⟨c, o, vs, t, A.cd, D.top e A.nc, e1, e2⟩
theorem c_callTop {fd : FuncData} {body : List Stmt} {a c : Addr} {args : Args} {Q : Value → Heap → Prop} (binds : List (Str × Value)) (names more : List Str) (al : List (Str × Option Value)) (G : Good Z) (D : St Z h l) (A : FnAt Z a fd c)
    (hbody : fd.body = .stmts body) (hbind : Binds Z h fd args binds) (hb : binds.map (·.1) = names) (hal : frameOf binds more = al)
    (hcell : (fd.scope.names.all fun x => x.2 != .cell) = true) (hloc : (names.all fun x => fd.scope.names.lookup x == some .local) = true) (hnd : (names ++ more).Nodup) (hk : k < 60)
    (hco : fd.scope.isCoroutine = false) (hgen : fd.scope.isGenerator = false) (hkd : fd.scope.kind = .function)
    (q : ∀ L h₀, St Z h₀ ((L, .ns al) :: l) → W Z (k + 1) (execs body (callEnv fd L a)) (fun f h' => Q (match f with | .ret v => v | _ => .none) h') h₀) :
    C Z k (.call (.ref a) args) (fun f h' => ∃ v, f = .ret v ∧ Q v h') h :=
  c_callFn binds names more al G D (A.here D) rfl (A.rec_ D) hbody hbind hb hal hcell hloc hnd hk hco hgen hkd q
end
/-- an attribute that instances of C bear themselves -/
structure AttrOk (Z : Sur) (C : Addr) (name : Str) : Prop where
  g : plainGet Z.K C name = true
  f : findIn Z.K (.ref C) name = some none
  t : takerIn Z.K C name = some none
structure MethOk (Z : Sur) (C : Addr) (name : Str) (f : Addr) : Prop where
  g : plainGet Z.K C name = true
  a : findIn Z.K (.ref C) name = some (some (.ref f))
  i : isFn Z.K (.ref f) = true
  s : specialIn Z.K (.ref f) "__get__" = some (some (.builtin "function.__get__"))
  t : takesIn Z.K (.ref f) = some false
structure ClsOk (Z : Sur) (C : Addr) : Prop where
  d : hasDictIn Z.K C = true
  s : findIn Z.K (.ref C) "__setattr__" = some (some (.builtin "object.__setattr__"))
  o : plainOver Z.K C = true
section
variable {Z : Sur} {h : Heap} {l l' : Led} {k : Nat}
theorem w_attr {x C dx : Addr} {al : List (Str × Option Value)} {name : Str} {e : Bool} {v : Value} {Q : Value → Heap → Prop} (G : Good Z) (D : St Z h l) (K : ClsOk Z C) (A : AttrOk Z C name) (ho : (x, .obj (instObj C dx)) ∈ l) (hd : (dx, .dct al) ∈ l)
    (hx : (name, some v) ∈ al) (hv : handedIn v = true) (q : Q v h) : W Z k (getAttr (.ref x) name e) Q h := w_getAttr G D ⟨ho, hd⟩ hx A.g K.d A.f rfl hv q
theorem w_setA {x C dx : Addr} {al al' : List (Str × Option Value)} {name : Str} {v : Value} {Q : Unit → Heap → Prop} (G : Good Z) (D : St Z h l) (K : ClsOk Z C) (A : AttrOk Z C name) (ho : (x, .obj (instObj C dx)) ∈ l) (hd : (dx, .dct al) ∈ l)
    (hp : Put al name v al') (U : Upd l dx (.dct al) (.dct al') l') (hlen : Nat.ble al'.length 1000 = true) (q : ∀ h', St Z h' l' → Q () h') : W Z k (setAttr (.ref x) name v) Q h :=
  w_setAttr G D ⟨ho, hd⟩ hp U K.s K.o A.t K.d (Nat.le_of_ble_eq_true hlen) q
theorem w_meth {x C dx f : Addr} {al : List (Str × Option Value)} {name : Str} {pl : Sem Bool} {Q : Value × List Value → Heap → Prop} (G : Good Z) (D : St Z h l) (M : MethOk Z C name f) (ho : (x, .obj (instObj C dx)) ∈ l) (hd : (dx, .dct al) ∈ l)
    (hx : name ∉ al.map (·.1)) (q : Q (.ref f, [.ref x]) h) : W Z k (getMethod (.ref x) name pl) Q h := w_getMeth G D ⟨ho, hd⟩ hx M.g M.a M.i q
theorem w_boundM {x C dx f : Addr} {al : List (Str × Option Value)} {name : Str} {e : Bool} {Q : Value → Heap → Prop} (G : Good Z) (D : St Z h l) (K : ClsOk Z C) (M : MethOk Z C name f) (ho : (x, .obj (instObj C dx)) ∈ l) (hd : (dx, .dct al) ∈ l)
    (hx : name ∉ al.map (·.1)) (hc : copiedNames.contains name = false) (q : ∀ m h', St Z h' ((m, .obj (methodObj (.ref f) (.ref x))) :: l) → Q (.ref m) h') : W Z k (getAttr (.ref x) name e) Q h :=
  w_bound G D ⟨ho, hd⟩ hx M.g K.d M.a M.i M.s M.t hc q
end
namespace L2
def stmt (n : Nat) : Stmt := ((PySem.Challenge.pw_rs0124_02.main.body)[n]?).getD (.Pass ⟨0, 0, 0, 0⟩)
def inClass (s : Stmt) (n : Nat) : Stmt := match s with
  | .ClassDef _ _ _ b _ _ _ _ _ _ _ => (b[n]?).getD (.Pass ⟨0, 0, 0, 0⟩)
  | _ => .Pass ⟨0, 0, 0, 0⟩
def mkFd (s : Stmt) (qual : Str) (dflt pm : Value) (code : Addr) : FuncData := match s with
  | .FunctionDef name args body _ _ _ scope _ _ _ => { name, qualname := qual, params := args, body := .stmts body, scope, globals := 3, closure := [], defaults := dflt, kwdefaults := .none, pyModule := pm, code := .ref code }
  | _ => default
def bodyOf (s : Stmt) : List Stmt := match s with
  | .FunctionDef _ _ body _ _ _ _ _ _ _ => body
  | _ => []
def inDef (s : Stmt) (n : Nat) : Stmt := ((bodyOf s)[n]?).getD (.Pass ⟨0, 0, 0, 0⟩)
def pmN : Value := .str "cpy313.netrc" 187
def pmQ : Value := .str "cpy313.email.quoprimime" 1294
def pmL : Value := .str "law_rs0124_02" 1848
def fInit := mkFd (inClass (stmt 1) 0) "_netrclex.__init__" .none pmN 27
def fRead := mkFd (inClass (stmt 1) 1) "_netrclex._read_char" .none pmN 34
def fGet := mkFd (inClass (stmt 1) 2) "_netrclex.get_token" .none pmN 41
def fPush := mkFd (inClass (stmt 1) 3) "_netrclex.push_token" .none pmN 48
def fUnq := mkFd (stmt 16) "unquote" .none pmQ 78
def fQuo := mkFd (stmt 17) "quote" .none pmQ 85
def fEnc := mkFd (stmt 21) "body_encode" (.ref 92) pmQ 98
def fDec := mkFd (stmt 22) "decode" (.ref 100) pmQ 106
def fLex := mkFd (stmt 24) "_law_lexer" .none pmL 113
def fPil := mkFd (stmt 25) "_law_piles" .none pmL 118
def fTur := mkFd (stmt 26) "_law_turns" .none pmL 125
def fLaw := mkFd (stmt 27) "law" .none pmL 130
def bis : List (Str × Value) := [("chr", .builtin "chr"), ("int", .type "int"), ("range", .type "range"), ("enumerate", .type "enumerate"), ("zip", .type "zip"), ("sum", .builtin "sum"), ("max", .builtin "max"), ("ord", .builtin "ord"), ("len", .builtin "len")]
def glos : List (Str × Value) := [("unquote", .ref 79), ("quote", .ref 86), ("_QUOPRI_BODY_ENCODE_MAP", .ref 88), ("_QUOPRI_MAP", .ref 59), ("decode", .ref 107), ("body_encode", .ref 99), ("_netrclex", .ref 52), ("_law_lexer", .ref 114), ("_law_piles", .ref 119), ("_law_turns", .ref 126)]
/-- what a sign is written as -/
def hexU (n : Nat) : Nat := if n < 10 then 48 + n else 55 + n
def esc (c : Nat) : List Nat := [61, hexU (c / 16), hexU (c % 16)]
def bare (c : Nat) : Bool := c == 9 || c == 10 || c == 13 || (32 ≤ c && c ≤ 126 && c != 61)
def encS (c : Nat) : List Nat := if bare c then [c] else esc c
structure TabAt (Z : Sur) (a : Addr) (f : Nat → List Nat) : Prop where
  get : ∃ n vs, Z.h₁.get? a = some { cls := .type "list", data := .seq vs n } ∧ ∀ c, c < 256 → ∃ t, vs[c]? = some (.str (S (f c)) t)
  na : a ≠ Z.T
structure TupAt (Z : Sur) (a : Addr) (vs : List Value) : Prop where
  get : Z.h₁.get? a = some { cls := .type "tuple", data := .seq vs.toArray }
  na : a ≠ Z.T
structure Facts (Z : Sur) : Prop where
  bi : ∀ x v, (x, v) ∈ bis → Z.mg x = none ∧ Z.mb x = some v
  gl : ∀ x v, (x, v) ∈ glos → Z.mg x = some v
  gHex : ∃ t, Z.mg "hexdigits" = some (.str (S [48, 49, 50, 51, 52, 53, 54, 55, 56, 57, 97, 98, 99, 100, 101, 102, 65, 66, 67, 68, 69, 70]) t)
  gCRLF : ∃ t, Z.mg "CRLF" = some (.str (S [13, 10]) t)
  dDec : ∃ t, TupAt Z 100 [.str (S [10]) t]
  dEnc : ∃ t t', TupAt Z 92 [.int 76 t, .str (S [10]) t']
  tEnc : TabAt Z 88 encS
  tQuo : TabAt Z 59 esc
  g : Good Z
  init : FnAt Z 28 fInit 27
  read : FnAt Z 35 fRead 34
  get : FnAt Z 42 fGet 41
  push : FnAt Z 49 fPush 48
  unq : FnAt Z 79 fUnq 78
  quo : FnAt Z 86 fQuo 85
  enc : FnAt Z 99 fEnc 98
  dec : FnAt Z 107 fDec 106
  lex : FnAt Z 114 fLex 113
  pil : FnAt Z 119 fPil 118
  tur : FnAt Z 126 fTur 125
  cls : ClsOk Z 52
  aLine : AttrOk Z 52 "lineno"
  aIn : AttrOk Z 52 "instream"
  aWs : AttrOk Z 52 "whitespace"
  aPb : AttrOk Z 52 "pushback"
  mRead : MethOk Z 52 "_read_char" 35
  mGet : MethOk Z 52 "get_token" 42
  mPush : MethOk Z 52 "push_token" 49
  nLen : Z.mg "len" = none
  bLen : Z.mb "len" = some (.builtin "len")
  nIter : Z.mg "iter" = none
  made : makesIn Z.K 52 = true
  keep : keepIn Z.K (.ref 52) = true
  mInit : findIn Z.K (.ref 52) "__init__" = some (some (.ref 28))
  iInit : isFn Z.K (.ref 28) = true
  hd : CodeHd Z.h₁ 113 Z.T
  bm : Z.h₁.BuiltinsAt Z.mg Z.T
  bIter : Z.mb "iter" = some (.builtin "iter")
end L2
end Mine

namespace Mine
namespace L2
/-- the addresses of a lexer and of its stream -/
structure Lex where
  (self dx pb st sd rf rc ct cp pl : Addr)
  (tw tt : Tok)
  (lam : FuncData)
  (pm clt doc : Value)
  (oc : Obj)
  (cs : List Nat)
structure LexS where
  (p : Nat)
  (tp : Tok)
  (n : Int)
  (tn : Tok)
  (ws : List Value)
def sReadIn := inDef (stmt 24) 1
def fdR (X : Lex) : FuncData := { mkFd sReadIn "_law_lexer.<locals>.read" .none X.pm X.rc with closure := [("text", X.ct), ("place", X.cp)], closureTuple := X.clt, doc := X.doc }
def led (X : Lex) (σ : LexS) : Led := [
  (X.self, .obj (instObj 52 X.dx)),
  (X.dx, .dct [("lineno", some (.int σ.n σ.tn)), ("instream", some (.ref X.st)), ("whitespace", some (.str (S [10, 9, 13, 32]) X.tw)), ("pushback", some (.ref X.pb))]),
  (X.pb, .lst σ.ws),
  (X.st, .obj { cls := .type "function", dict := some X.sd, data := .func X.lam }),
  (X.sd, .dct [("read", some (.ref X.rf))]),
  (X.rf, .obj (fnObj (fdR X))),
  (X.rc, .obj X.oc),
  (X.ct, .cell (some (.str (S X.cs) X.tt))),
  (X.cp, .cell (some (.ref X.pl))),
  (X.pl, .lst [.int σ.p σ.tp])]
structure LexOk (X : Lex) : Prop where
  oc : ∃ vs t, X.oc.data = .fields vs ∧ vs[1]? = some (.str "_law_lexer.<locals>.read" t)
  len : X.cs.length ≤ 100000
local macro_rules | `(tactic| walk_at "mem") => `(tactic| first | exact List.Mem.head _ | (refine List.Mem.tail _ ?_; walk_at "mem"))
local macro_rules | `(tactic| walk_at "upd") => `(tactic| first | exact Upd.here | (apply Upd.there; walk_at "upd"))
local macro_rules | `(tactic| walk_at "put") => `(tactic| first | exact Put.here | (apply Put.there; walk_at "put"))
local macro_rules | `(tactic| walk_at "name") => `(tactic| first
  | refine w_localName (by assumption) (by walk_at "mem") (by walk_at "mem") ?_ rfl rfl rfl
  | refine w_freeName (by assumption) (by walk_at "mem") ?_ rfl rfl rfl rfl rfl
  | refine w_cellName (by assumption) (by walk_at "mem") ?_ rfl rfl rfl rfl)
local macro_rules | `(tactic| walk_at "store") => `(tactic| (refine w_store (by assumption) (by walk_at "mem") (by walk_at "put") (by walk_at "upd") rfl rfl ?_))
theorem readIn_spec {Z : Sur} {h : Heap} {l : Led} {k : Nat} {X : Lex} {σ : LexS} {t : Tok} {Q : Value → Heap → Prop} (F : Facts Z) (O : LexOk X) (D : St Z h (led X σ ++ l)) (hp : σ.p ≤ X.cs.length) (hk : k < 58)
    (q : ∀ h' ts tp', St Z h' (led X { σ with p := σ.p + ((X.cs.drop σ.p).take 1).length, tp := tp' } ++ l) → Q (.str (S ((X.cs.drop σ.p).take 1)) ts) h') : W Z k (call (.ref X.rf) [.int 1 t]) Q h := by
  have hlen := O.len
  refine W.call (c_callFn (fd := fdR X) [("size", .int 1 t)] ["size"] ["signs"] [("size", some (.int 1 t)), ("signs", none)] F.g D (D.get (by walk_at "mem")) rfl ?_ rfl (Binds.of (by kernel_rfl)) rfl rfl rfl rfl (by decide) (by omega) rfl rfl rfl ?_)
  · obtain ⟨vs, tq, e1, e2⟩ := O.oc
    exact ⟨_, _, vs, tq, rfl, D.get (by walk_at "mem"), e1, e2⟩
  intro L h D
  refine w_execs_cons ?_
  refine w_AssignName ?_ rfl
  refine w_SubSlice ?_ (fun _ _ => rfl)
  walk_at "name"
  refine w_part_some ?_
  refine w_Subscript ?_
  walk_at "name"
  refine w_int fun t1 => ?_
  refine w_subList D (by walk_at "mem") (by decide) (by decide) rfl ?_ rfl (fun _ => rfl)
  refine w_part_some ?_
  refine w_BinOp ?_
  refine w_Subscript ?_
  walk_at "name"
  refine w_int fun t2 => ?_
  refine w_subList D (by walk_at "mem") (by decide) (by decide) rfl ?_ rfl (fun _ => rfl)
  walk_at "name"
  refine w_addInt fun t3 => ?_
  refine ⟨_, _, _, some ((σ.p : Int), σ.tp), some ((σ.p : Int) + 1, t3), D, rfl, rfl, rfl, (by rw [S_len, sizeLine_eq]; omega), fun t4 h D => ?_⟩
  have es : Txt.slice (S X.cs) (Option.map (·.1) (some ((σ.p : Int), σ.tp))) (Option.map (·.1) (some ((σ.p : Int) + 1, t3))) = S ((X.cs.drop σ.p).take 1) := by
    show Txt.slice (S X.cs) (some (σ.p : Int)) (some (((σ.p + 1 : Nat)) : Int)) = _
    rw [slice_nn]
    rw [show σ.p + 1 - σ.p = 1 by omega]
  rw [es]
  walk_at "store"; intro h D
  refine w_execs_cons ?_
  refine w_AugSub ?_ (fun _ _ _ => rfl)
  walk_at "name"
  refine w_int fun t5 => ?_
  refine w_getList D (by walk_at "mem") (by decide) (by decide) rfl ?_
  refine w_Call rfl ?_
  refine w_builtin F.g D F.nLen F.bLen ?_ rfl rfl rfl rfl rfl
  refine w_withBuiltin rfl ?_
  refine w_arg rfl ?_
  walk_at "name"
  refine w_arg_nil ?_
  refine w_lenStr (by rw [S_len, sizeLine_eq, List.length_take]; omega) fun t6 => ?_
  refine w_iaddInt fun t7 => ?_
  refine w_setList D (by walk_at "mem") (by decide) (Nat.le_of_ble_eq_true rfl) rfl (by walk_at "upd") ?_
  intro h D
  refine w_execs_cons ?_
  refine w_Return ?_
  walk_at "name"
  refine q _ _ t7 ?_
  have := D.tail
  rw [S_len] at this
  exact this
local macro_rules | `(tactic| walk_at "attr") => `(tactic| first
  | refine w_attr (Facts.g (by assumption)) (by assumption) (Facts.cls (by assumption)) (Facts.aIn (by assumption)) (by walk_at "mem") (by walk_at "mem") (by walk_at "mem") rfl ?_
  | refine w_attr (Facts.g (by assumption)) (by assumption) (Facts.cls (by assumption)) (Facts.aPb (by assumption)) (by walk_at "mem") (by walk_at "mem") (by walk_at "mem") rfl ?_
  | refine w_attr (Facts.g (by assumption)) (by assumption) (Facts.cls (by assumption)) (Facts.aWs (by assumption)) (by walk_at "mem") (by walk_at "mem") (by walk_at "mem") rfl ?_
  | refine w_attr (Facts.g (by assumption)) (by assumption) (Facts.cls (by assumption)) (Facts.aLine (by assumption)) (by walk_at "mem") (by walk_at "mem") (by walk_at "mem") rfl ?_)
theorem readChar_spec {Z : Sur} {h : Heap} {l : Led} {k : Nat} {X : Lex} {σ : LexS} {Q : Value → Heap → Prop} (F : Facts Z) (O : LexOk X) (D : St Z h (led X σ ++ l)) (hp : σ.p ≤ X.cs.length) (hk : k < 56)
    (q : ∀ h' ts tp' tn', St Z h' (led X { σ with p := σ.p + ((X.cs.drop σ.p).take 1).length, tp := tp', n := if (X.cs.drop σ.p).take 1 = [10] then σ.n + 1 else σ.n, tn := tn' } ++ l) → Q (.str (S ((X.cs.drop σ.p).take 1)) ts) h') :
    C Z k (.call (.ref 35) ⟨[.ref X.self], []⟩) (fun f h' => ∃ v, f = .ret v ∧ Q v h') h := by
  refine c_callTop [("self", .ref X.self)] ["self"] ["ch"] [("self", some (.ref X.self)), ("ch", none)] F.g D F.read rfl (Binds.of (by kernel_rfl)) rfl rfl rfl rfl (by decide) (by omega) rfl rfl rfl ?_
  intro L h D
  refine w_execs_cons ?_
  refine w_AssignName ?_ rfl
  refine w_CallMeth rfl rfl rfl ?_
  refine w_Attribute ?_ rfl
  walk_at "name"
  walk_at "attr"
  intro pl
  refine w_fnMeth D (by walk_at "mem") (by walk_at "mem") (by walk_at "mem") rfl ?_
  refine w_withFunction (o := fnObj (fdR X)) (fd := fdR X) rfl ?_
  refine w_arg rfl ?_
  refine w_int fun t1 => ?_
  refine w_arg_nil ?_
  refine ⟨⟨D.get (by walk_at "mem"), rfl⟩, ?_⟩
  have D := D.perm List.perm_middle.symm
  refine readIn_spec F O D hp (by omega) ?_
  intro h ts tp' D
  have D := D.perm List.perm_middle
  walk_at "store"; intro h D
  refine w_execs_cons ?_
  refine w_If ?_
  refine w_isCompare ?_ rfl
  walk_at "name"
  refine w_str fun t2 => ?_
  refine w_eqStr ?_
  refine w_truthy_bool ?_
  have hc : (S (List.take 1 (List.drop σ.p X.cs)) == Str.ofString "\n") = decide (List.take 1 (List.drop σ.p X.cs) = [10]) := S_eq _ [10]
  rw [hc]
  by_cases hn : List.take 1 (List.drop σ.p X.cs) = [10]
  · rw [decide_eq_true hn, if_pos rfl]
    refine w_execs_cons ?_
    refine w_AugAttr ?_
    walk_at "name"
    walk_at "attr"
    refine w_int fun t3 => ?_
    refine w_iaddInt fun t4 => ?_
    refine w_setA F.g D F.cls F.aLine (by walk_at "mem") (by walk_at "mem") (by walk_at "put") (by walk_at "upd") rfl ?_
    intro h D
    refine w_execs_nil ?_
    refine w_execs_cons ?_
    refine w_Return ?_
    walk_at "name"
    refine q _ _ tp' t4 ?_
    rw [if_pos hn]
    exact D.tail
  · rw [decide_eq_false hn, if_neg (by decide)]
    refine w_execs_nil ?_
    refine w_execs_cons ?_
    refine w_Return ?_
    walk_at "name"
    refine q _ _ tp' σ.tn ?_
    rw [if_neg hn]
    exact D.tail
end L2
end Mine

namespace Mine
section
variable {Z : Sur} {h h' : Heap} {l l' : Led} {k : Nat} {env : Env}
theorem w_ciEnded {it : Addr} {Q : Option Value → Heap → Prop} (D : St Z h l) (hi : (it, .obj (ciObj .none .none true)) ∈ l) (q : ∀ h', St Z h' l → Q none h') : W Z k (pyNext (.ref it)) Q h := .mk fun tk => by
  have ho := D.get hi
  have hT : (Z.st h tk).TypeIs (.ref it) "callable_iterator" := ⟨_, ho, rfl⟩
  unfold pyNext
  refine wpAny_bind (wpAny_attempt (wpAny_callSpecial?_slot (name := Str.ofString "__next__") hT slot_ci_next (wpAny_call_entry slot_ci_next hT entry_ci_next ?_ (args_ci_next _))))
  unfold Builtin.«callable_iterator.__next__»
  refine wpAny_bind (wpAny_pure ?_)
  refine wpAny_bind (wpAny_field ho rfl (x := .bool true) rfl ?_)
  rw [if_pos (by decide)]
  refine wpAny_bind (wpAny_rule (wpAny_bind ?_))
  unfold Builtin.SmallTypes.stopIteration
  refine wpAny_bind ?_
  simp only [newExc, newTuple]
  refine wpAny_bind (wpAny_newObj_type ?_ (by size_fits))
  refine wpAny_bind (m := firstArgMember _ _) (wpAny_of_eq (a := Value.none) (by first | rfl | (simp only [firstArgMember]; rfl)) ?_)
  refine wpAny_newObj_type ?_ (by size_fits)
  simp only [raiseNew]
  refine wpAny_bind (wpAny_handled ?_)
  rw [show (Lv k).in1.handled = none from rfl]
  refine wpAny_bind (wpAny_pure (wpAny_throw ?_))
  refine wpAny_bind (wpAny_isInstance (T := "StopIteration") (b := true) ⟨_, Heap.get?_push_size _ rfl, rfl⟩ isSubtype_stop ?_)
  exact wpAny_pure ⟨_, tk, rfl, q _ (D.grow fun b o eb => Heap.get?_push_of_some _ (Heap.get?_push_of_some _ eb))⟩
end
/-! the lexer's reading, plainly -/
def blank (c : Nat) : Prop := c ∈ [10, 9, 13, 32]
def lexB : List Nat → List Nat × List Nat
  | [] => ([], [])
  | [c] => if c ∈ [10, 9, 13, 32] then ([], []) else if c = 92 then ([], []) else ([c], [])
  | c :: d :: r => if c ∈ [10, 9, 13, 32] then ([], d :: r) else if c = 92 then (d :: (lexB r).1, (lexB r).2) else (c :: (lexB (d :: r)).1, (lexB (d :: r)).2)
def lexQ : List Nat → List Nat × List Nat
  | [] => ([], [])
  | [c] => if c = 34 then ([], []) else if c = 92 then ([], []) else ([c], [])
  | c :: d :: r => if c = 34 then ([], d :: r) else if c = 92 then (d :: (lexQ r).1, (lexQ r).2) else (c :: (lexQ (d :: r)).1, (lexQ (d :: r)).2)
def lexBs : List Nat → List Nat × List Nat
  | [] => ([], [])
  | d :: r => (d :: (lexB r).1, (lexB r).2)
def lex : List Nat → List Nat × List Nat
  | [] => ([], [])
  | c :: r => if c ∈ [10, 9, 13, 32] then lex r else if c = 34 then lexQ r else if c = 92 then lexBs r else (c :: (lexB r).1, (lexB r).2)
namespace L2
def Lex.line (X : Lex) (p : Nat) : Int := 1 + ((X.cs.take p).count 10 : Nat)
theorem line_step {X : Lex} {p : Nat} : X.line (p + ((X.cs.drop p).take 1).length) = if (X.cs.drop p).take 1 = [10] then X.line p + 1 else X.line p := by
  unfold Lex.line
  cases e : X.cs.drop p with
  | nil => simp
  | cons c r =>
    have hlt : p < X.cs.length := by
      have := congrArg List.length e
      rw [List.length_drop, List.length_cons] at this; omega
    have hc : X.cs[p]? = some c := by
      have := congrArg (fun x => x[0]?) e
      simpa using this
    have : X.cs.take (p + 1) = X.cs.take p ++ [c] := by rw [List.take_add_one, hc]; rfl
    simp only [List.take_succ_cons, List.take_zero, List.length_cons, List.length_nil]
    rw [this, List.count_append]
    by_cases h : c = 10
    · subst h; simp; omega
    · simp [h]
structure LexAt (X : Lex) (σ : LexS) : Prop where
  n : σ.n = X.line σ.p
  p : σ.p ≤ X.cs.length
abbrev ciOn (m : Addr) (ts : Tok) : Ob := .obj (ciObj (.ref m) (.str (S []) ts) false)
abbrev ciOff : Ob := .obj (ciObj .none .none true)
theorem next_spec {Z : Sur} {h : Heap} {l : Led} {k : Nat} {X : Lex} {σ : LexS} {it m L : Addr} {ts : Tok} {al : Ob} {Q : Option Value → Heap → Prop} (F : Facts Z) (O : LexOk X) (A : LexAt X σ)
    (D : St Z h ((it, ciOn m ts) :: (m, .obj (methodObj (.ref 35) (.ref X.self))) :: (L, al) :: (led X σ ++ l))) (hk : k < 55)
    (q1 : ∀ c r, X.cs.drop σ.p = c :: r → ∀ h' t σ', LexAt X σ' → σ'.p = σ.p + 1 → σ'.ws = σ.ws → St Z h' ((it, ciOn m ts) :: (m, .obj (methodObj (.ref 35) (.ref X.self))) :: (L, al) :: (led X σ' ++ l)) → Q (some (.str (S [c]) t)) h')
    (q0 : X.cs.drop σ.p = [] → ∀ h' σ', LexAt X σ' → σ'.p = σ.p → σ'.ws = σ.ws → St Z h' ((it, ciOff) :: (m, .obj (methodObj (.ref 35) (.ref X.self))) :: (L, al) :: (led X σ' ++ l)) → Q none h') :
    W Z k (pyNext (.ref it)) Q h := by
  refine w_ciNext D (.head _) (.tail _ (.head _)) (F.read.here D) rfl ?_
  have D' : St Z h (led X σ ++ ((it, ciOn m ts) :: (m, .obj (methodObj (.ref 35) (.ref X.self))) :: (L, al) :: l)) := D.perm (List.perm_append_comm_assoc [_, _, _] (led X σ) l)
  refine C.mono (readChar_spec (Q := fun v h₁ => ∃ r tr l₁, v = .str r tr ∧ St Z h₁ l₁ ∧ (m, .obj (methodObj (.ref 35) (.ref X.self))) ∈ l₁ ∧ h₁.get? 35 = some (fnObj fRead) ∧
      (r ≠ S [] → (it, .obj (ciObj (.ref m) (.str (S []) ts) false)) ∈ l₁ ∧ Q (some (.str r tr)) h₁) ∧
      (r = S [] → ∃ l₂, Upd l₁ it (.obj (ciObj (.ref m) (.str (S []) ts) false)) (.obj (ciObj .none .none true)) l₂ ∧ ∀ h₂, St Z h₂ l₂ → Q none h₂)) F O D' A.p (by omega) ?_) ?_
  · intro h₁ tr tp' tn' D₁
    have D₂ := D₁.perm (List.perm_append_comm_assoc [(it, ciOn m ts), (m, .obj (methodObj (.ref 35) (.ref X.self))), (L, al)] (led X _) l).symm
    have A' : LexAt X { σ with p := σ.p + ((X.cs.drop σ.p).take 1).length, tp := tp', n := if (X.cs.drop σ.p).take 1 = [10] then σ.n + 1 else σ.n, tn := tn' } := by
      refine ⟨?_, ?_⟩
      · show (if (X.cs.drop σ.p).take 1 = [10] then σ.n + 1 else σ.n) = X.line (σ.p + ((X.cs.drop σ.p).take 1).length)
        rw [line_step, A.n]
      · show σ.p + ((X.cs.drop σ.p).take 1).length ≤ X.cs.length
        have := A.p
        rw [List.length_take, List.length_drop]; omega
    refine ⟨_, tr, _, rfl, D₂, .tail _ (.head _), F.read.here D₂, fun hne => ⟨.head _, ?_⟩, fun he => ⟨_, .here, fun h₂ D₃ => ?_⟩⟩
    · cases e : X.cs.drop σ.p with
      | nil => rw [e] at hne; exact absurd rfl hne
      | cons c r =>
        rw [e] at D₂ A'
        exact q1 c r e h₁ tr _ A' (by simp) rfl D₂
    · have e : X.cs.drop σ.p = [] := by
        cases e : X.cs.drop σ.p with
        | nil => rfl
        | cons c r => rw [e] at he; have := S_inj.mp he; simp at this
      rw [e] at D₃ A'
      exact q0 e h₂ _ A' (by simp) rfl D₃
  · rintro f h' ⟨v, rfl, r, tr, l₁, rfl, rest⟩
    exact ⟨r, tr, l₁, rfl, rest⟩
end L2
end Mine

namespace Mine
section
variable {Z : Sur} {h h' : Heap} {l l' : Led} {k : Nat} {env : Env}
theorem w_assignName {x : Str} {pos : Pos} {v : Value} {Q : Unit → Heap → Prop} (q : W Z k (storeName env x v) Q h) : W Z k (assign (.Name x pos) env v) Q h := .mk fun tk => wpAny_assign_Name (q.run tk)
theorem w_methN {x C dx f : Addr} {al : List (Str × Option Value)} {name : Str} {pl : Sem Bool} {Q : Value × List Value → Heap → Prop} (G : Good Z) (D : St Z h l) (M : MethOk Z C name f) (ho : (x, .obj (instObj C dx)) ∈ l) (hd : (dx, .dct al) ∈ l)
    (hx : (al.map (·.1)).contains name = false) (q : Q (.ref f, [.ref x]) h) : W Z k (getMethod (.ref x) name pl) Q h := w_meth G D M ho hd (by simpa using hx) q
end
namespace L2
local macro_rules | `(tactic| walk_at "mem") => `(tactic| first | exact List.Mem.head _ | (refine List.Mem.tail _ ?_; walk_at "mem"))
local macro_rules | `(tactic| walk_at "upd") => `(tactic| first | exact Upd.here | (apply Upd.there; walk_at "upd"))
local macro_rules | `(tactic| walk_at "put") => `(tactic| first | exact Put.here | (apply Put.there; walk_at "put"))
local macro_rules | `(tactic| walk_at "name") => `(tactic| first
  | refine w_localName (by assumption) (by walk_at "mem") (by walk_at "mem") ?_ rfl rfl rfl
  | refine w_freeName (by assumption) (by walk_at "mem") ?_ rfl rfl rfl rfl rfl
  | refine w_cellName (by assumption) (by walk_at "mem") ?_ rfl rfl rfl rfl)
local macro_rules | `(tactic| walk_at "store") => `(tactic| (refine w_store (by assumption) (by walk_at "mem") (by walk_at "put") (by walk_at "upd") rfl rfl ?_))
local macro_rules | `(tactic| walk_at "attr") => `(tactic| first
  | refine w_attr (Facts.g (by assumption)) (by assumption) (Facts.cls (by assumption)) (Facts.aIn (by assumption)) (by walk_at "mem") (by walk_at "mem") (by walk_at "mem") rfl ?_
  | refine w_attr (Facts.g (by assumption)) (by assumption) (Facts.cls (by assumption)) (Facts.aPb (by assumption)) (by walk_at "mem") (by walk_at "mem") (by walk_at "mem") rfl ?_
  | refine w_attr (Facts.g (by assumption)) (by assumption) (Facts.cls (by assumption)) (Facts.aWs (by assumption)) (by walk_at "mem") (by walk_at "mem") (by walk_at "mem") rfl ?_
  | refine w_attr (Facts.g (by assumption)) (by assumption) (Facts.cls (by assumption)) (Facts.aLine (by assumption)) (by walk_at "mem") (by walk_at "mem") (by walk_at "mem") rfl ?_)
theorem drop_add {cs : List Nat} {p : Nat} {c : Nat} {r : List Nat} (e : cs.drop p = c :: r) : cs.drop (p + 1) = r := by
  rw [← List.drop_drop, e]; rfl
theorem drop_lt {cs : List Nat} {p : Nat} {c : Nat} {r : List Nat} (e : cs.drop p = c :: r) : p + 1 + r.length = cs.length := by
  have := congrArg List.length e
  rw [List.length_drop, List.length_cons] at this
  omega
/-- the frame of get_token while it reads -/
abbrev gFrame (X : Lex) (it : Addr) (tok : List Nat) (tt : Tok) (ch : Option Value) : Ob := .ns [("self", some (.ref X.self)), ("token", some (.str (S tok) tt)), ("fiter", some (.ref it)), ("ch", ch)]
abbrev gLed (X : Lex) (it m L : Addr) (io : Ob) (fr : Ob) (σ : LexS) (l : Led) : Led := (it, io) :: (m, .obj (methodObj (.ref 35) (.ref X.self))) :: (L, fr) :: (led X σ ++ l)
/-- a further sign behind a backslash -/
theorem readCh {Z : Sur} {h : Heap} {l : Led} {k : Nat} {X : Lex} {σ : LexS} {it m L : Addr} {io fr : Ob} {Q : Value → Heap → Prop} (F : Facts Z) (O : LexOk X) (A : LexAt X σ) (D : St Z h (gLed X it m L io fr σ l)) (hk : k < 55)
    (q : ∀ h' t σ', LexAt X σ' → σ'.p = σ.p + ((X.cs.drop σ.p).take 1).length → σ'.ws = σ.ws → St Z h' (gLed X it m L io fr σ' l) → Q (.str (S ((X.cs.drop σ.p).take 1)) t) h') :
    W Z k (call (.ref 35) [.ref X.self]) Q h := by
  have D' : St Z h (led X σ ++ ((it, io) :: (m, .obj (methodObj (.ref 35) (.ref X.self))) :: (L, fr) :: l)) := D.perm (List.perm_append_comm_assoc [_, _, _] (led X σ) l)
  refine W.call (readChar_spec F O D' A.p (by omega) ?_)
  intro h₁ tr tp' tn' D₁
  have D₂ := D₁.perm (List.perm_append_comm_assoc [(it, io), (m, .obj (methodObj (.ref 35) (.ref X.self))), (L, fr)] (led X _) l).symm
  refine q _ _ _ ⟨?_, ?_⟩ ?_ ?_ D₂
  · show (if (X.cs.drop σ.p).take 1 = [10] then σ.n + 1 else σ.n) = X.line (σ.p + ((X.cs.drop σ.p).take 1).length)
    rw [line_step, A.n]
  · show σ.p + ((X.cs.drop σ.p).take 1).length ≤ X.cs.length
    have := A.p
    rw [List.length_take, List.length_drop]; omega
  · rfl
  · rfl
def fOuter : Stmt := inDef (inClass (stmt 1) 2) 3
def forBody (s : Stmt) : List Stmt := match s with
  | .For _ _ b _ _ => b
  | _ => []
def ifBody (s : Stmt) : List Stmt := match s with
  | .If _ b _ _ => b
  | _ => []
def ifElse (s : Stmt) : List Stmt := match s with
  | .If _ _ b _ => b
  | _ => []
def nth (l : List Stmt) (n : Nat) : Stmt := (l[n]?).getD (.Pass ⟨0, 0, 0, 0⟩)
def fQuoted : Stmt := nth (ifBody (nth (forBody fOuter) 1)) 0
def fBare : Stmt := nth (ifElse (nth (forBody fOuter) 1)) 2
section
variable {Z : Sur} {h : Heap} {l : Led} {k : Nat} {X : Lex} {σ : LexS} {it m L : Addr} {ts tt : Tok} {tok T R : List Nat} {ch : Option Value} {Q : Flow → Heap → Prop}
/-- what a reading leaves -/
structure Ends (Z : Sur) (X : Lex) (it m L : Addr) (ts : Tok) (l : Led) (T R : List Nat) (Q : Flow → Heap → Prop) : Prop where
  ret : ∀ h t σ fr, LexAt X σ → σ.ws = [] → X.cs.drop σ.p = R → St Z h (gLed X it m L (ciOn m ts) fr σ l) → Q (.ret (.str (S T) t)) h
  off : ∀ h t σ ch, R = [] → LexAt X σ → σ.ws = [] → X.cs.drop σ.p = [] → St Z h (gLed X it m L ciOff (gFrame X it T t ch) σ l) → Q .next h
def BareI (Z : Sur) (X : Lex) (it m L : Addr) (ts : Tok) (l : Led) (T R : List Nat) (n : Nat) (h : Heap) : Prop :=
  ∃ σ tok tt ch, LexAt X σ ∧ σ.ws = [] ∧ n = (X.cs.drop σ.p).length ∧ tok ++ (lexB (X.cs.drop σ.p)).1 = T ∧ (lexB (X.cs.drop σ.p)).2 = R ∧ tok.length ≤ σ.p ∧ St Z h (gLed X it m L (ciOn m ts) (gFrame X it tok tt ch) σ l)
theorem bare_spec (F : Facts Z) (O : LexOk X) (hk : k < 55) (E : Ends Z X it m L ts l T R Q) {n : Nat} (I : BareI Z X it m L ts l T R n h) : W Z k (exec fBare (callEnv fGet L 42)) Q h := by
  have hlen := O.len
  obtain ⟨σ, tok, tt, ch, A, hw, hn, hT, hR, hl, D⟩ := I
  refine w_For (fun _ => rfl) ?_
  walk_at "name"
  refine w_ciIter D (.head _) ?_
  refine c_forLoop (BareI Z X it m L ts l T R) ?_ n ⟨σ, tok, tt, ch, A, hw, hn, hT, hR, hl, D⟩ (fun _ => rfl)
  clear hw hn hT hR hl D A
  rintro n h ⟨σ, tok, tt, ch, A, hw, hn, hT, hR, hl, D⟩
  refine next_spec F O A D hk ?_ ?_
  · intro c r e h t σ' A' ep ew D
    have eD : X.cs.drop σ'.p = r := by rw [ep]; exact drop_add e
    have hlt := drop_lt e
    dsimp only
    refine w_assignName ?_
    walk_at "store"; intro h D
    refine w_execs_cons ?_
    refine w_If ?_
    refine w_isCompare ?_ rfl
    walk_at "name"
    refine w_Attribute ?_ rfl
    walk_at "name"
    walk_at "attr"
    refine w_inStr ?_
    rw [in_one]
    refine w_truthy_bool ?_
    by_cases hb : c ∈ [10, 9, 13, 32]
    · rw [decide_eq_true hb, if_pos rfl]
      refine w_execs_cons ?_
      refine w_Return ?_
      walk_at "name"
      have hT' : tok = T := by
        rw [e] at hT
        cases r <;> simpa [lexB, hb] using hT
      have hR' : r = R := by
        rw [e] at hR
        cases r <;> simpa [lexB, hb] using hR
      subst hT'
      exact E.ret _ _ _ _ A' (ew.trans hw) (eD.trans hR') D
    · rw [decide_eq_false hb, if_neg (by decide)]
      refine w_execs_cons ?_
      refine w_If ?_
      refine w_isCompare ?_ rfl
      walk_at "name"
      refine w_str fun t2 => ?_
      refine w_eqStr ?_
      refine w_truthy_bool ?_
      have hc : (S [c] == Str.ofString "\\") = decide (c = 92) := by
        rw [show Str.ofString "\\" = S [92] from rfl, S_eq]; simp
      rw [hc]
      by_cases h9 : c = 92
      · rw [decide_eq_true h9, if_pos rfl]
        subst h9
        refine w_execs_cons ?_
        refine w_AssignName ?_ rfl
        refine w_CallMeth rfl rfl rfl ?_
        walk_at "name"
        intro pl
        refine w_methN F.g D F.mRead (by walk_at "mem") (by walk_at "mem") rfl ?_
        refine w_withFunction (o := fnObj fRead) (fd := fRead) rfl ?_
        refine w_arg_nil ?_
        refine ⟨⟨F.read.here D, rfl⟩, ?_⟩
        refine readCh F O A' D hk ?_
        intro h t3 σ₂ A₂ ep₂ ew₂ D
        walk_at "store"; intro h D
        refine w_execs_nil ?_
        refine w_execs_nil ?_
        refine w_execs_cons ?_
        refine w_AugName ?_
        refine W.loadLocal D (by walk_at "mem") (by walk_at "mem") rfl rfl ?_
        walk_at "name"
        refine w_iaddStr (by rw [S_len, S_len, sizeLine_eq, List.length_take]; omega) fun t4 => ?_
        rw [S_app]
        walk_at "store"; intro h D
        refine w_execs_nil ?_
        rw [eD] at ep₂ D
        refine ⟨_, ?_, σ₂, _, _, _, A₂, ew₂.trans (ew.trans hw), rfl, ?_, ?_, ?_, D⟩
        · rw [ep₂, ep, hn, e, List.length_drop, List.length_cons]
          omega
        · cases r with
          | nil =>
            have : X.cs.drop σ₂.p = [] := by rw [ep₂]; simpa using eD
            rw [this]; rw [e] at hT; simpa [lexB] using hT
          | cons d r =>
            have : X.cs.drop σ₂.p = r := by rw [ep₂]; exact drop_add eD
            rw [this]; rw [e] at hT; simpa [lexB] using hT
        · cases r with
          | nil =>
            have : X.cs.drop σ₂.p = [] := by rw [ep₂]; simpa using eD
            rw [this]; rw [e] at hR; simpa [lexB] using hR
          | cons d r =>
            have : X.cs.drop σ₂.p = r := by rw [ep₂]; exact drop_add eD
            rw [this]; rw [e] at hR; simpa [lexB] using hR
        · rw [List.length_append, ep₂, ep]; omega
      · rw [decide_eq_false h9, if_neg (by decide)]
        refine w_execs_nil ?_
        refine w_execs_nil ?_
        refine w_execs_cons ?_
        refine w_AugName ?_
        refine W.loadLocal D (by walk_at "mem") (by walk_at "mem") rfl rfl ?_
        walk_at "name"
        refine w_iaddStr (by rw [S_len, S_len, sizeLine_eq]; simp only [List.length_cons, List.length_nil]; omega) fun t4 => ?_
        rw [S_app]
        walk_at "store"; intro h D
        refine w_execs_nil ?_
        refine ⟨_, ?_, σ', _, _, _, A', ew.trans hw, rfl, ?_, ?_, ?_, D⟩
        · rw [eD, hn, e]; simp
        · rw [eD]
          rw [e] at hT
          cases r with
          | nil => simpa [lexB, hb, h9] using hT
          | cons d r => rw [show lexB (c :: d :: r) = (c :: (lexB (d :: r)).1, (lexB (d :: r)).2) by rw [lexB]; simp only [hb, h9, if_false]] at hT; simpa using hT
        · rw [eD]
          rw [e] at hR
          cases r with
          | nil => simpa [lexB, hb, h9] using hR
          | cons d r => rw [show lexB (c :: d :: r) = (c :: (lexB (d :: r)).1, (lexB (d :: r)).2) by rw [lexB]; simp only [hb, h9, if_false]] at hR; simpa using hR
        · simp only [List.length_append, List.length_cons, List.length_nil]; omega
  · intro e h σ' A' ep ew D
    dsimp only
    refine w_execs_nil ?_
    rw [e] at hT hR
    have hT' : tok = T := by simpa [lexB] using hT
    subst hT'
    exact E.off _ _ _ _ (by simpa [lexB] using hR.symm) A' (ew.trans hw) (by rw [ep, e]) D
end
end L2
end Mine

namespace Mine
namespace L2
local macro_rules | `(tactic| walk_at "mem") => `(tactic| first | exact List.Mem.head _ | (refine List.Mem.tail _ ?_; walk_at "mem"))
local macro_rules | `(tactic| walk_at "upd") => `(tactic| first | exact Upd.here | (apply Upd.there; walk_at "upd"))
local macro_rules | `(tactic| walk_at "put") => `(tactic| first | exact Put.here | (apply Put.there; walk_at "put"))
local macro_rules | `(tactic| walk_at "name") => `(tactic| first
  | refine w_localName (by assumption) (by walk_at "mem") (by walk_at "mem") ?_ rfl rfl rfl
  | refine w_freeName (by assumption) (by walk_at "mem") ?_ rfl rfl rfl rfl rfl
  | refine w_cellName (by assumption) (by walk_at "mem") ?_ rfl rfl rfl rfl)
local macro_rules | `(tactic| walk_at "store") => `(tactic| (refine w_store (by assumption) (by walk_at "mem") (by walk_at "put") (by walk_at "upd") rfl rfl ?_))
local macro_rules | `(tactic| walk_at "attr") => `(tactic| first
  | refine w_attr (Facts.g (by assumption)) (by assumption) (Facts.cls (by assumption)) (Facts.aIn (by assumption)) (by walk_at "mem") (by walk_at "mem") (by walk_at "mem") rfl ?_
  | refine w_attr (Facts.g (by assumption)) (by assumption) (Facts.cls (by assumption)) (Facts.aPb (by assumption)) (by walk_at "mem") (by walk_at "mem") (by walk_at "mem") rfl ?_
  | refine w_attr (Facts.g (by assumption)) (by assumption) (Facts.cls (by assumption)) (Facts.aWs (by assumption)) (by walk_at "mem") (by walk_at "mem") (by walk_at "mem") rfl ?_
  | refine w_attr (Facts.g (by assumption)) (by assumption) (Facts.cls (by assumption)) (Facts.aLine (by assumption)) (by walk_at "mem") (by walk_at "mem") (by walk_at "mem") rfl ?_)
theorem w_boundMN {Z : Sur} {h : Heap} {l : Led} {k : Nat} {x C dx f : Addr} {al : List (Str × Option Value)} {name : Str} {e : Bool} {Q : Value → Heap → Prop} (G : Good Z) (D : St Z h l) (K : ClsOk Z C) (M : MethOk Z C name f) (ho : (x, .obj (instObj C dx)) ∈ l) (hd : (dx, .dct al) ∈ l)
    (hx : (al.map (·.1)).contains name = false) (hc : copiedNames.contains name = false) (q : ∀ m h', St Z h' ((m, .obj (methodObj (.ref f) (.ref x))) :: l) → Q (.ref m) h') : W Z k (getAttr (.ref x) name e) Q h :=
  w_boundM G D K M ho hd (by simpa using hx) hc q
section
variable {Z : Sur} {h : Heap} {l : Led} {k : Nat} {X : Lex} {σ : LexS} {it m L : Addr} {ts tt : Tok} {tok T R : List Nat} {ch : Option Value} {Q : Flow → Heap → Prop}
def QuoI (Z : Sur) (X : Lex) (it m L : Addr) (ts : Tok) (l : Led) (T R : List Nat) (n : Nat) (h : Heap) : Prop :=
  ∃ σ tok tt ch, LexAt X σ ∧ σ.ws = [] ∧ n = (X.cs.drop σ.p).length ∧ tok ++ (lexQ (X.cs.drop σ.p)).1 = T ∧ (lexQ (X.cs.drop σ.p)).2 = R ∧ tok.length ≤ σ.p ∧ St Z h (gLed X it m L (ciOn m ts) (gFrame X it tok tt ch) σ l)
theorem quo_spec (F : Facts Z) (O : LexOk X) (hk : k < 55) (E : Ends Z X it m L ts l T R Q) {n : Nat} (I : QuoI Z X it m L ts l T R n h) : W Z k (exec fQuoted (callEnv fGet L 42)) Q h := by
  have hlen := O.len
  obtain ⟨σ, tok, tt, ch, A, hw, hn, hT, hR, hl, D⟩ := I
  refine w_For (fun _ => rfl) ?_
  walk_at "name"
  refine w_ciIter D (.head _) ?_
  refine c_forLoop (QuoI Z X it m L ts l T R) ?_ n ⟨σ, tok, tt, ch, A, hw, hn, hT, hR, hl, D⟩ (fun _ => rfl)
  clear hw hn hT hR hl D A
  rintro n h ⟨σ, tok, tt, ch, A, hw, hn, hT, hR, hl, D⟩
  refine next_spec F O A D hk ?_ ?_
  · intro c r e h t σ' A' ep ew D
    have eD : X.cs.drop σ'.p = r := by rw [ep]; exact drop_add e
    have hlt := drop_lt e
    dsimp only
    refine w_assignName ?_
    walk_at "store"; intro h D
    refine w_execs_cons ?_
    refine w_If ?_
    refine w_isCompare ?_ rfl
    walk_at "name"
    refine w_str fun t1 => ?_
    refine w_eqStr ?_
    have hq : (S [c] == Str.ofString "\"") = decide (c = 34) := by
      rw [show Str.ofString "\"" = S [34] from rfl, S_eq]; simp
    rw [hq]
    refine w_truthy_bool ?_
    by_cases hb : c = 34
    · rw [decide_eq_true hb, if_pos rfl]
      refine w_execs_cons ?_
      refine w_Return ?_
      walk_at "name"
      have hT' : tok = T := by
        rw [e] at hT
        cases r <;> simpa [lexQ, hb] using hT
      have hR' : r = R := by
        rw [e] at hR
        cases r <;> simpa [lexQ, hb] using hR
      subst hT'
      exact E.ret _ _ _ _ A' (ew.trans hw) (eD.trans hR') D
    · rw [decide_eq_false hb, if_neg (by decide)]
      refine w_execs_cons ?_
      refine w_If ?_
      refine w_isCompare ?_ rfl
      walk_at "name"
      refine w_str fun t2 => ?_
      refine w_eqStr ?_
      refine w_truthy_bool ?_
      have hc : (S [c] == Str.ofString "\\") = decide (c = 92) := by
        rw [show Str.ofString "\\" = S [92] from rfl, S_eq]; simp
      rw [hc]
      by_cases h9 : c = 92
      · rw [decide_eq_true h9, if_pos rfl]
        subst h9
        refine w_execs_cons ?_
        refine w_AssignName ?_ rfl
        refine w_CallMeth rfl rfl rfl ?_
        walk_at "name"
        intro pl
        refine w_methN F.g D F.mRead (by walk_at "mem") (by walk_at "mem") rfl ?_
        refine w_withFunction (o := fnObj fRead) (fd := fRead) rfl ?_
        refine w_arg_nil ?_
        refine ⟨⟨F.read.here D, rfl⟩, ?_⟩
        refine readCh F O A' D hk ?_
        intro h t3 σ₂ A₂ ep₂ ew₂ D
        walk_at "store"; intro h D
        refine w_execs_nil ?_
        refine w_execs_nil ?_
        refine w_execs_cons ?_
        refine w_AugName ?_
        refine W.loadLocal D (by walk_at "mem") (by walk_at "mem") rfl rfl ?_
        walk_at "name"
        refine w_iaddStr (by rw [S_len, S_len, sizeLine_eq, List.length_take]; omega) fun t4 => ?_
        rw [S_app]
        walk_at "store"; intro h D
        refine w_execs_nil ?_
        rw [eD] at ep₂ D
        refine ⟨_, ?_, σ₂, _, _, _, A₂, ew₂.trans (ew.trans hw), rfl, ?_, ?_, ?_, D⟩
        · rw [ep₂, ep, hn, e, List.length_drop, List.length_cons]
          omega
        · cases r with
          | nil =>
            have : X.cs.drop σ₂.p = [] := by rw [ep₂]; simpa using eD
            rw [this]; rw [e] at hT; simpa [lexQ] using hT
          | cons d r =>
            have : X.cs.drop σ₂.p = r := by rw [ep₂]; exact drop_add eD
            rw [this]; rw [e] at hT; simpa [lexQ] using hT
        · cases r with
          | nil =>
            have : X.cs.drop σ₂.p = [] := by rw [ep₂]; simpa using eD
            rw [this]; rw [e] at hR; simpa [lexQ] using hR
          | cons d r =>
            have : X.cs.drop σ₂.p = r := by rw [ep₂]; exact drop_add eD
            rw [this]; rw [e] at hR; simpa [lexQ] using hR
        · rw [List.length_append, ep₂, ep]; omega
      · rw [decide_eq_false h9, if_neg (by decide)]
        refine w_execs_nil ?_
        refine w_execs_nil ?_
        refine w_execs_cons ?_
        refine w_AugName ?_
        refine W.loadLocal D (by walk_at "mem") (by walk_at "mem") rfl rfl ?_
        walk_at "name"
        refine w_iaddStr (by rw [S_len, S_len, sizeLine_eq]; simp only [List.length_cons, List.length_nil]; omega) fun t4 => ?_
        rw [S_app]
        walk_at "store"; intro h D
        refine w_execs_nil ?_
        refine ⟨_, ?_, σ', _, _, _, A', ew.trans hw, rfl, ?_, ?_, ?_, D⟩
        · rw [eD, hn, e]; simp
        · rw [eD]
          rw [e] at hT
          cases r with
          | nil => simpa [lexQ, hb, h9] using hT
          | cons d r => rw [show lexQ (c :: d :: r) = (c :: (lexQ (d :: r)).1, (lexQ (d :: r)).2) by rw [lexQ]; simp only [hb, h9, if_false]] at hT; simpa using hT
        · rw [eD]
          rw [e] at hR
          cases r with
          | nil => simpa [lexQ, hb, h9] using hR
          | cons d r => rw [show lexQ (c :: d :: r) = (c :: (lexQ (d :: r)).1, (lexQ (d :: r)).2) by rw [lexQ]; simp only [hb, h9, if_false]] at hR; simpa using hR
        · simp only [List.length_append, List.length_cons, List.length_nil]; omega
  · intro e h σ' A' ep ew D
    dsimp only
    refine w_execs_nil ?_
    rw [e] at hT hR
    have hT' : tok = T := by simpa [lexQ] using hT
    subst hT'
    exact E.off _ _ _ _ (by simpa [lexQ] using hR.symm) A' (ew.trans hw) (by rw [ep, e]) D

def OutI (Z : Sur) (X : Lex) (it m L : Addr) (ts : Tok) (l : Led) (T R : List Nat) (n : Nat) (h : Heap) : Prop :=
  (∃ σ tt ch, LexAt X σ ∧ σ.ws = [] ∧ n = (X.cs.drop σ.p).length + 1 ∧ (lex (X.cs.drop σ.p)).1 = T ∧ (lex (X.cs.drop σ.p)).2 = R ∧ St Z h (gLed X it m L (ciOn m ts) (gFrame X it [] tt ch) σ l)) ∨
  (∃ σ tt ch, LexAt X σ ∧ σ.ws = [] ∧ n = 0 ∧ R = [] ∧ X.cs.drop σ.p = [] ∧ St Z h (gLed X it m L ciOff (gFrame X it T tt ch) σ l))
structure Fin (Z : Sur) (X : Lex) (it m L : Addr) (l : Led) (T R : List Nat) (Q : Flow → Heap → Prop) : Prop where
  ret : ∀ h t σ io fr, LexAt X σ → σ.ws = [] → X.cs.drop σ.p = R → St Z h (gLed X it m L io fr σ l) → Q (.ret (.str (S T) t)) h
  off : ∀ h t σ ch, LexAt X σ → σ.ws = [] → X.cs.drop σ.p = R → St Z h (gLed X it m L ciOff (gFrame X it T t ch) σ l) → Q .next h
theorem outer_spec (F : Facts Z) (O : LexOk X) (hk : k < 55) (E : Fin Z X it m L l T R Q) {n : Nat} (D : St Z h (gLed X it m L (ciOn m ts) (gFrame X it [] tt ch) σ l)) (I : OutI Z X it m L ts l T R n h) : W Z k (exec fOuter (callEnv fGet L 42)) Q h := by
  have hlen := O.len
  refine w_For (fun _ => rfl) ?_
  walk_at "name"
  refine w_ciIter D (.head _) ?_
  refine c_forLoop (OutI Z X it m L ts l T R) ?_ n I (fun _ => rfl)
  clear I D
  rintro n h (⟨σ, tt, ch, A, hw, hn, hT, hR, D⟩ | ⟨σ, tt, ch, A, hw, hn, hR, e, D⟩)
  · refine next_spec F O A D hk ?_ ?_
    · intro c r e h t σ' A' ep ew D
      have eD : X.cs.drop σ'.p = r := by rw [ep]; exact drop_add e
      have hlt := drop_lt e
      dsimp only
      refine w_assignName ?_
      walk_at "store"; intro h D
      refine w_execs_cons ?_
      refine w_If ?_
      refine w_isCompare ?_ rfl
      walk_at "name"
      refine w_Attribute ?_ rfl
      walk_at "name"
      walk_at "attr"
      refine w_inStr ?_
      rw [in_one]
      refine w_truthy_bool ?_
      by_cases hb : c ∈ [10, 9, 13, 32]
      · rw [decide_eq_true hb, if_pos rfl]
        refine w_execs_cons ?_
        refine w_Continue ?_
        refine ⟨_, ?_, .inl ⟨σ', _, _, A', ew.trans hw, rfl, ?_, ?_, D⟩⟩
        · rw [eD, hn, e]; simp
        · rw [eD]; rw [e, lex, if_pos hb] at hT; exact hT
        · rw [eD]; rw [e, lex, if_pos hb] at hR; exact hR
      · rw [decide_eq_false hb, if_neg (by decide)]
        refine w_execs_nil ?_
        refine w_execs_cons ?_
        refine w_If ?_
        refine w_isCompare ?_ rfl
        walk_at "name"
        refine w_str fun t1 => ?_
        refine w_eqStr ?_
        have hq : (S [c] == Str.ofString "\"") = decide (c = 34) := by
          rw [show Str.ofString "\"" = S [34] from rfl, S_eq]; simp
        rw [hq]
        refine w_truthy_bool ?_
        by_cases h3 : c = 34
        · rw [decide_eq_true h3, if_pos rfl]
          refine w_execs_cons ?_
          rw [e, lex, if_neg hb, if_pos h3] at hT hR
          refine quo_spec (T := T) (R := R) F O hk ⟨fun h t σ fr A hw e D => E.ret h t σ _ fr A hw e D, fun h t σ ch eR A hw e D => ?_⟩ ⟨σ', [], _, _, A', ew.trans hw, rfl, (by rw [eD]; simpa using hT), (by rw [eD]; exact hR), Nat.zero_le _, D⟩
          refine w_execs_nil ?_
          refine w_execs_nil ?_
          exact ⟨0, by omega, .inr ⟨σ, t, ch, A, hw, rfl, eR, e, D⟩⟩
        · rw [decide_eq_false h3, if_neg (by decide)]
          refine w_execs_cons ?_
          refine w_If ?_
          refine w_isCompare ?_ rfl
          walk_at "name"
          refine w_str fun t2 => ?_
          refine w_eqStr ?_
          refine w_truthy_bool ?_
          have hc : (S [c] == Str.ofString "\\") = decide (c = 92) := by
            rw [show Str.ofString "\\" = S [92] from rfl, S_eq]; simp
          rw [hc]
          by_cases h9 : c = 92
          · rw [decide_eq_true h9, if_pos rfl]
            subst h9
            rw [e, lex, if_neg hb, if_neg h3, if_pos rfl] at hT hR
            refine w_execs_cons ?_
            refine w_AssignName ?_ rfl
            refine w_CallMeth rfl rfl rfl ?_
            walk_at "name"
            intro pl
            refine w_methN F.g D F.mRead (by walk_at "mem") (by walk_at "mem") rfl ?_
            refine w_withFunction (o := fnObj fRead) (fd := fRead) rfl ?_
            refine w_arg_nil ?_
            refine ⟨⟨F.read.here D, rfl⟩, ?_⟩
            refine readCh F O A' D hk ?_
            intro h t3 σ₂ A₂ ep₂ ew₂ D
            walk_at "store"; intro h D
            refine w_execs_nil ?_
            refine w_execs_cons ?_
            refine w_AugName ?_
            refine W.loadLocal D (by walk_at "mem") (by walk_at "mem") rfl rfl ?_
            walk_at "name"
            refine w_iaddStr (by rw [S_len, S_len, sizeLine_eq, List.length_take]; simp only [List.length_nil]; omega) fun t4 => ?_
            rw [S_app]
            walk_at "store"; intro h D
            refine w_execs_cons ?_
            rw [eD] at ep₂ D
            have key : List.take 1 r ++ (lexB (X.cs.drop σ₂.p)).1 = T ∧ (lexB (X.cs.drop σ₂.p)).2 = R := by
              cases r with
              | nil =>
                have : X.cs.drop σ₂.p = [] := by rw [ep₂]; simpa using eD
                rw [this]; simpa [lexB, lexBs] using And.intro hT hR
              | cons d r =>
                have : X.cs.drop σ₂.p = r := by rw [ep₂]; exact drop_add eD
                rw [this]; simpa [lexB, lexBs] using And.intro hT hR
            refine bare_spec (T := T) (R := R) F O hk ⟨fun h t σ fr A hw e D => E.ret h t σ _ fr A hw e D, fun h t σ ch eR A hw e D => ?_⟩ ⟨σ₂, _, _, _, A₂, ew₂.trans (ew.trans hw), rfl, key.1, key.2, ?_, D⟩
            · refine w_execs_nil ?_
              refine w_execs_nil ?_
              exact ⟨0, by omega, .inr ⟨σ, t, ch, A, hw, rfl, eR, e, D⟩⟩
            · rw [ep₂, ep]; omega
          · rw [decide_eq_false h9, if_neg (by decide)]
            rw [e, lex, if_neg hb, if_neg h3, if_neg h9] at hT hR
            refine w_execs_nil ?_
            refine w_execs_cons ?_
            refine w_AugName ?_
            refine W.loadLocal D (by walk_at "mem") (by walk_at "mem") rfl rfl ?_
            walk_at "name"
            refine w_iaddStr (by rw [S_len, S_len, sizeLine_eq]; simp only [List.length_cons, List.length_nil]; omega) fun t4 => ?_
            rw [S_app]
            walk_at "store"; intro h D
            refine w_execs_cons ?_
            refine bare_spec (T := T) (R := R) F O hk ⟨fun h t σ fr A hw e D => E.ret h t σ _ fr A hw e D, fun h t σ ch eR A hw e D => ?_⟩ ⟨σ', _, _, _, A', ew.trans hw, rfl, (by rw [eD]; exact hT), (by rw [eD]; exact hR), ?_, D⟩
            · refine w_execs_nil ?_
              refine w_execs_nil ?_
              exact ⟨0, by omega, .inr ⟨σ, t, ch, A, hw, rfl, eR, e, D⟩⟩
            · simp only [List.length_append, List.length_cons, List.length_nil]; omega
    · intro e h σ' A' ep ew D
      dsimp only
      refine w_execs_nil ?_
      rw [e] at hT hR
      subst hT hR
      exact E.off _ _ _ _ A' (ew.trans hw) (by rw [ep, e]; rfl) D
  · refine w_ciEnded D (by walk_at "mem") ?_
    intro h D
    dsimp only
    refine w_execs_nil ?_
    exact E.off _ _ _ _ A hw (e.trans hR.symm) D
end
theorem get_read {Z : Sur} {h : Heap} {l : Led} {k : Nat} {X : Lex} {σ : LexS} {Q : Value → Heap → Prop} (F : Facts Z) (O : LexOk X) (A : LexAt X σ) (hw : σ.ws = []) (D : St Z h (led X σ ++ l)) (hk : k < 54)
    (q : ∀ h' t σ', LexAt X σ' → σ'.ws = [] → X.cs.drop σ'.p = (lex (X.cs.drop σ.p)).2 → St Z h' (led X σ' ++ l) → Q (.str (S (lex (X.cs.drop σ.p)).1) t) h') :
    W Z k (call (.ref 42) [.ref X.self]) Q h := by
  refine W.call (c_callTop [("self", .ref X.self)] ["self"] ["token", "fiter", "ch"] [("self", some (.ref X.self)), ("token", none), ("fiter", none), ("ch", none)] F.g D F.get rfl (Binds.of (by kernel_rfl)) rfl rfl rfl rfl (by decide) (by omega) rfl rfl rfl ?_)
  intro L h D
  refine w_execs_cons ?_
  refine w_If ?_
  refine w_isValue rfl ?_
  refine w_Attribute ?_ rfl
  walk_at "name"
  walk_at "attr"
  refine w_truthyList D (by walk_at "mem") (by rw [hw]; exact Nat.zero_le _) ?_
  rw [hw]
  rw [if_neg (by decide)]
  refine w_execs_nil ?_
  refine w_execs_cons ?_
  refine w_AssignName ?_ rfl
  refine w_str fun t1 => ?_
  walk_at "store"; intro h D
  refine w_execs_cons ?_
  refine w_AssignName ?_ rfl
  refine w_Call rfl ?_
  refine w_builtin F.g D F.nIter F.bIter ?_ rfl rfl rfl rfl rfl
  refine w_withBuiltin rfl ?_
  refine w_arg rfl ?_
  refine w_Attribute ?_ rfl
  walk_at "name"
  refine w_boundMN F.g D F.cls F.mRead (by walk_at "mem") (by walk_at "mem") rfl rfl ?_
  intro m h D
  refine w_arg rfl ?_
  refine w_str fun t2 => ?_
  refine w_arg_nil ?_
  refine w_iter2 D (by walk_at "mem") ?_
  intro it h D
  walk_at "store"; intro h D
  refine w_execs_cons ?_
  refine outer_spec (T := (lex (X.cs.drop σ.p)).1) (R := (lex (X.cs.drop σ.p)).2) (n := (X.cs.drop σ.p).length + 1) (ts := t2) F O (by omega) ⟨fun h t σ io fr A hw e D => ?_, fun h t σ ch A hw e D => ?_⟩ D (.inl ⟨σ, _, _, A, hw, rfl, rfl, rfl, D⟩)
  · exact q _ _ _ A hw e D.tail.tail.tail
  · refine w_execs_cons ?_
    refine w_Return ?_
    walk_at "name"
    exact q _ _ _ A hw e D.tail.tail.tail
/-- a word that waits is given -/
theorem get_wait {Z : Sur} {h : Heap} {l : Led} {k : Nat} {X : Lex} {σ : LexS} {v : Value} {ws : List Value} {Q : Value → Heap → Prop} (F : Facts Z) (hw : σ.ws = v :: ws) (hz : ws.length ≤ 1000) (D : St Z h (led X σ ++ l)) (hk : k < 54)
    (q : ∀ h', St Z h' (led X { σ with ws := ws } ++ l) → Q v h') :
    W Z k (call (.ref 42) [.ref X.self]) Q h := by
  refine W.call (c_callTop [("self", .ref X.self)] ["self"] ["token", "fiter", "ch"] [("self", some (.ref X.self)), ("token", none), ("fiter", none), ("ch", none)] F.g D F.get rfl (Binds.of (by kernel_rfl)) rfl rfl rfl rfl (by decide) (by omega) rfl rfl rfl ?_)
  intro L h D
  refine w_execs_cons ?_
  refine w_If ?_
  refine w_isValue rfl ?_
  refine w_Attribute ?_ rfl
  walk_at "name"
  walk_at "attr"
  refine w_truthyList D (by walk_at "mem") (by rw [hw, List.length_cons]; omega) ?_
  rw [hw]
  rw [if_pos (show (!(v :: ws).isEmpty) = true from rfl)]
  refine w_execs_cons ?_
  refine w_Return ?_
  refine w_CallMeth rfl rfl rfl ?_
  refine w_Attribute ?_ rfl
  walk_at "name"
  walk_at "attr"
  intro pl
  refine w_listMethod D (by walk_at "mem") PySem.F.slot_list_pop PySem.F.type_list_pop ?_
  refine w_withBuiltin rfl ?_
  refine w_arg rfl ?_
  refine w_int fun t1 => ?_
  refine w_arg_nil ?_
  unfold led at D
  rw [hw] at D
  refine w_pop0 D (by walk_at "mem") (by omega) (by walk_at "upd") ?_
  intro h D
  exact q _ D.tail
theorem push_spec {Z : Sur} {h : Heap} {l : Led} {k : Nat} {X : Lex} {σ : LexS} {v : Value} {Q : Value → Heap → Prop} (F : Facts Z) (hz : σ.ws.length ≤ 1000) (D : St Z h (led X σ ++ l)) (hk : k < 54)
    (q : ∀ h', St Z h' (led X { σ with ws := σ.ws ++ [v] } ++ l) → Q .none h') :
    W Z k (call (.ref 49) [.ref X.self, v]) Q h := by
  refine W.call (c_callTop [("self", .ref X.self), ("token", v)] ["self", "token"] [] [("self", some (.ref X.self)), ("token", some v)] F.g D F.push rfl (Binds.of (by kernel_rfl)) rfl rfl rfl rfl (by decide) (by omega) rfl rfl rfl ?_)
  intro L h D
  refine w_execs_cons ?_
  refine w_Expr ?_ rfl rfl
  refine w_CallMeth rfl rfl rfl ?_
  refine w_Attribute ?_ rfl
  walk_at "name"
  walk_at "attr"
  intro pl
  refine w_listMethod D (by walk_at "mem") PySem.F.slot_list_append PySem.F.type_list_append ?_
  refine w_withBuiltin rfl ?_
  refine w_arg rfl ?_
  walk_at "name"
  refine w_arg_nil ?_
  refine w_append D (by walk_at "upd") (by omega) ?_
  intro h D
  refine w_execs_nil ?_
  exact q _ D.tail
end L2
end Mine

namespace Mine
section
variable {Z : Sur} {h h' : Heap} {l l' : Led} {k : Nat} {env : Env}
theorem t_lookup {A : Around} {E : Value → Shared → Prop} {s : Shared} {a : Addr} {vs : Array Value} {c : Nat} {x : Str} {t : Tok} {Q : Builtin.Str.Mapped → Shared → Prop} {prog : Program} {w : World} (hl : s.heap.IsList a vs) (hc : c < 100000) (hx : vs[c]? = some (.str x t))
    (q : Q (.text x) { s with toks := s.toks + 1 }) : wpAny (model prog w) A (Builtin.Str.tableLookup (.ref a) c) Q E s := by
  unfold Builtin.Str.tableLookup
  refine wpAny_bind (wpAny_attempt (wpAny_bind (wpAny_mkInt ?_)))
  refine wpAny_getItem_list (s := { s with toks := s.toks + 1 }) hl (by omega) (by omega) (by simpa using hx) ?_
  exact wpAny_pure q
theorem w_translate {a : Addr} {vs : Array Value} {cs : List Nat} {e : Nat → List Nat} {t : Tok} {Q : Value → Heap → Prop} (D : St Z h l) (ho : h.IsList a vs) (hne : cs ≠ [])
    (hv : ∀ c ∈ cs, c < 100000 ∧ (∃ t, vs[c]? = some (.str (S (e c)) t)) ∧ (e c).length ≤ 3 ∧ (e c = [] → False)) (hz : cs.length ≤ 1000) (q : ∀ t', Q (.str (S (cs.flatMap e)) t') h) :
    W Z k (call (.builtin "str.translate") [.str (S cs) t, .ref a]) Q h := .mk fun tk => by
  refine wpAny_call_entry PySem.F.slot_str_translate (typeIs_str _ _ _) PySem.F.entry_str_translate ?_ (PySem.F.args_str_translate_2 _ _)
  unfold Builtin.«str.translate»
  refine wpAny_bind (wpAny_of_eq (a := (.str (S cs) t, S cs, .ref a)) rfl ?_)
  dsimp only
  have hl : ((S cs).length == 0) = false := by
    rw [S_len]; cases cs with
    | nil => exact absurd rfl hne
    | cons _ _ => simp
  rw [hl]
  simp only [Bool.false_eq_true, if_false]
  refine wpAny_bind ?_
  refine MeetsSeq2.wpAny_forIn_array _ (fun rest b s' => ∃ tk' done, s' = Z.st h tk' ∧ cs = done ++ rest ∧ (b.1.reverse.flatMap fun p => p.cps.toList) = done.flatMap e ∧ b.2.1 ≤ 3 * done.length ∧ b.2.2.2.2 = false ∧
    ∀ p ∈ b.2.2.2.1, ∃ d, p.2 = some d ∧ e p.1 = [d]) _ ?_ ?_ _ _ ?_
  · rintro x rest ⟨pieces, total, fast, known, ad⟩ s ⟨tk', done, rfl, ecs, ep, et, ea, ek⟩
    dsimp only at ep et ea ek ⊢
    subst ea
    obtain ⟨hx1, ⟨tx, hx2⟩, hx3, hx4⟩ := hv x (by rw [ecs]; simp)
    have hdl : done.length ≤ 1000 := by
      have := congrArg List.length ecs
      rw [List.length_append] at this; omega
    have hto : Builtin.Str.tooLong total = false := by
      unfold Builtin.Str.tooLong
      simp only [decide_eq_false_iff_not, sizeLine_eq]
      omega
    rw [hto]
    simp only [Bool.false_eq_true, if_false]
    have slow : ∀ (known : List (Nat × Option Nat)) tk', (∀ p ∈ known, ∃ d, p.2 = some d ∧ e p.1 = [d]) → wpAny (model Z.prog Z.w) (Lv k).in1 (do
          let r ← Builtin.Str.tableLookup (.ref a) x
          match r with
          | .keep => pure (ForInStep.yield (({ cps := #[x] } : Str) :: pieces, total + 1, false, known, false))
          | .drop => pure (ForInStep.yield (pieces, total, false, known, true))
          | .char d => pure (ForInStep.yield (({ cps := #[d] } : Str) :: pieces, total + 1, false, known, false))
          | .text t => pure (ForInStep.yield (t :: pieces, total + t.length, false, known, false)))
        (fun r s' => match r with
          | .yield b => ∃ tk' done, s' = Z.st h tk' ∧ cs = done ++ rest ∧ (b.1.reverse.flatMap fun p => p.cps.toList) = done.flatMap e ∧ b.2.1 ≤ 3 * done.length ∧ b.2.2.2.2 = false ∧ ∀ p ∈ b.2.2.2.1, ∃ d, p.2 = some d ∧ e p.1 = [d]
          | .done b => False) (fun _ _ => False) (Z.st h tk') := by
      intro known tk' ek
      refine wpAny_bind (t_lookup (s := Z.st h tk') ho hx1 hx2 ?_)
      dsimp only
      refine wpAny_pure ⟨_, done ++ [x], rfl, by simp [ecs], ?_, ?_, rfl, ek⟩
      · simp [ep, S]
      · dsimp only; rw [S_len, List.length_append]; simp only [List.length_cons, List.length_nil]; omega
    have one : ∀ (d : Nat) (known : List (Nat × Option Nat)) tk', e x = [d] → (∀ p ∈ known, ∃ d, p.2 = some d ∧ e p.1 = [d]) → wpAny (model Z.prog Z.w) (Lv k).in1 (pure (ForInStep.yield (({ cps := #[d] } : Str) :: pieces, total + 1, fast, known, false)))
        (fun r s' => match r with
          | .yield b => ∃ tk' done, s' = Z.st h tk' ∧ cs = done ++ rest ∧ (b.1.reverse.flatMap fun p => p.cps.toList) = done.flatMap e ∧ b.2.1 ≤ 3 * done.length ∧ b.2.2.2.2 = false ∧ ∀ p ∈ b.2.2.2.1, ∃ d, p.2 = some d ∧ e p.1 = [d]
          | .done b => False) (fun _ _ => False) (Z.st h tk') := by
      intro d known tk' ed ek
      refine wpAny_pure ⟨_, done ++ [x], rfl, by simp [ecs], ?_, ?_, rfl, ek⟩
      · simp [ep, ed]
      · dsimp only; rw [List.length_append]; simp only [List.length_cons, List.length_nil]; omega
    cases fast with
    | false =>
      simp only [Bool.false_eq_true, if_false]
      exact wpAny_mono (slow known tk' ek) (fun r s' hr => by cases r with | yield b => exact hr | done b => exact hr.elim) fun _ _ hE => hE.elim
    | true =>
      simp only [if_true]
      cases hk : List.lookup x known with
      | some v =>
        dsimp only
        have hm : (x, v) ∈ known := by
          clear ek
          induction known with
          | nil => cases hk
          | cons p r ih =>
            rw [List.lookup_cons] at hk
            split at hk
            · rename_i he
              have : x = p.1 := by simpa using he
              injection hk with hk
              subst hk this
              exact .head _
            · exact .tail _ (ih hk)
        obtain ⟨d, hd, hd'⟩ := ek _ hm
        dsimp only at hd
        subst hd
        refine wpAny_bind (wpAny_pure ?_)
        exact wpAny_mono (one d known tk' hd' ek) (fun r s' hr => by cases r with | yield b => exact hr | done b => exact hr.elim) fun _ _ hE => hE.elim
      | none =>
        refine wpAny_bind (t_lookup (s := Z.st h tk') ho hx1 hx2 ?_)
        dsimp only
        by_cases hone : ((S (e x)).length == 1 && (S (e x)).cps.all fun x => decide (x < 128)) = true
        · rw [if_pos hone]
          rw [Bool.and_eq_true, beq_iff_eq, S_len] at hone
          obtain ⟨d, hd⟩ := List.length_eq_one_iff.mp hone.1
          rw [show (S (e x)).cps[0]? = some d by rw [hd]; rfl]
          dsimp only
          refine wpAny_bind (wpAny_pure ?_)
          refine wpAny_mono (one d _ _ hd ?_) (fun r s' hr => by cases r with | yield b => exact hr | done b => exact hr.elim) fun _ _ hE => hE.elim
          intro p hp
          rcases List.mem_cons.mp hp with rfl | hp
          · exact ⟨d, rfl, hd⟩
          · exact ek p hp
        · rw [if_neg hone]
          dsimp only
          refine wpAny_bind (wpAny_pure ?_)
          refine wpAny_bind (wpAny_rule ?_)
          try simp only [Bool.false_eq_true, if_false]
          exact wpAny_mono (slow known _ ek) (fun r s' hr => by cases r with | yield b => exact hr | done b => exact hr.elim) fun _ _ hE => hE.elim
  · rintro ⟨pieces, total, fast, known, ad⟩ s ⟨tk', done, rfl, ecs, ep, et, ea, ek⟩
    dsimp only at ep et ea ek ⊢
    rw [List.append_nil] at ecs
    subst ecs
    have hto : Builtin.Str.tooLong total = false := by
      unfold Builtin.Str.tooLong
      simp only [decide_eq_false_iff_not, sizeLine_eq]
      omega
    rw [hto]
    simp only [Bool.false_eq_true, if_false]
    have ef : (⟨pieces.reverse.foldl (fun acc p => acc ++ p.cps) #[]⟩ : Str) = S (cs.flatMap e) := by
      apply Str.ext'
      rw [← ep]
      have : ∀ (ps : List Str) (acc : Array Nat), (ps.foldl (fun acc p => acc ++ p.cps) acc) = acc ++ (ps.flatMap fun p => p.cps.toList).toArray := by
        intro ps
        induction ps with
        | nil => simp
        | cons p ps ih => intro acc; rw [List.foldl_cons, ih]; apply Array.ext'; simp
      rw [this]
      simp [S]
    rw [ef]
    have hfl : (cs.flatMap e).length ≤ 3 * cs.length := by
      clear hne hl ef ep et hz q
      induction cs with
      | nil => simp
      | cons c cs ih =>
        have h1 := (hv c (.head _)).2.2.1
        have h2 := ih (fun d hd => hv d (.tail _ hd))
        rw [List.flatMap_cons, List.length_append, List.length_cons]; omega
    refine wpAny_bind (wpAny_mkStr ?_ (by rw [S_len, sizeLine_eq]; omega))
    exact wpAny_pure ⟨_, rfl, h, _, rfl, q _⟩
  · exact ⟨tk, [], rfl, rfl, rfl, Nat.zero_le _, rfl, fun p hp => by cases hp⟩
end
end Mine

namespace Mine
section
variable {Z : Sur} {h h' : Heap} {l l' : Led} {k : Nat} {env : Env} {a b : Int} {t u : Tok} {x y : Str}
/-! ints -/
theorem w_subInt {Q : Value → Heap → Prop} (q : ∀ t', Q (.int (a - b) t') h) : W Z k (binaryOp .Sub (.int a t) (.int b u)) Q h := .mk fun tk => P.sub_int ⟨h, _, rfl, q _⟩
theorem w_mulInt {Q : Value → Heap → Prop} (hm : IntMulOk a b) (q : ∀ t', Q (.int (a * b) t') h) : W Z k (binaryOp .Mult (.int a t) (.int b u)) Q h := .mk fun tk => P.mul_int ⟨h, _, rfl, q _⟩ hm
theorem w_modInt {Q : Value → Heap → Prop} (hb : 0 < b) (q : ∀ t', Q (.int (a % b) t') h) : W Z k (binaryOp .Mod (.int a t) (.int b u)) Q h := .mk fun tk => by
  refine mod_int (by omega) ⟨h, _, rfl, ?_⟩
  rw [Int.fmod_eq_emod_of_nonneg _ (by omega)]; exact q _
theorem w_divInt {Q : Value → Heap → Prop} (hb : 0 < b) (hb' : b < 2 ^ 60) (q : ∀ t', Q (.int (a / b) t') h) : W Z k (binaryOp .FloorDiv (.int a t) (.int b u)) Q h := .mk fun tk => by
  refine floordiv_int (by omega) ⟨h, _, rfl, ?_⟩ (.inl ?_)
  · rw [Int.fdiv_eq_ediv_of_nonneg _ (by omega)]; exact q _
  · unfold Builtin.divisionGoesByPylong
    have : b.natAbs.log2 < 60 := (Nat.log2_lt (by omega)).mpr (by omega)
    have h1 : ¬ ((if b == 0 then 0 else b.natAbs.log2 / 30 + 1) > 300) := by split <;> omega
    simp only [h1, decide_false, Bool.false_and]
theorem w_powInt {n : Nat} {Q : Value → Heap → Prop} (hsz : (Builtin.Int.intBits a : Int) * (n : Int) ≤ 2 ^ 27) (q : ∀ t', Q (.int (a ^ n) t') h) : W Z k (binaryOp .Pow (.int a t) (.int (n : Int) u)) Q h := .mk fun tk =>
  pow_int (by omega) hsz ⟨h, _, rfl, by rw [Int.toNat_natCast]; exact q _⟩
theorem w_eqInt {Q : Value → Heap → Prop} (q : Q (.bool (a == b)) h) : W Z k (compareOp .Eq (.int a t) (.int b u)) Q h := .mk fun tk => P.eq_int ⟨h, tk, rfl, q⟩
theorem w_neInt {Q : Value → Heap → Prop} (q : Q (.bool (a != b)) h) : W Z k (compareOp .NotEq (.int a t) (.int b u)) Q h := .mk fun tk => P.ne_int ⟨h, tk, rfl, q⟩
theorem w_ltInt {Q : Value → Heap → Prop} (q : Q (.bool (decide (a < b))) h) : W Z k (compareOp .Lt (.int a t) (.int b u)) Q h := .mk fun tk => P.lt_int ⟨h, tk, rfl, q⟩
theorem w_leInt {Q : Value → Heap → Prop} (q : Q (.bool (decide (a ≤ b))) h) : W Z k (compareOp .LtE (.int a t) (.int b u)) Q h := .mk fun tk => P.le_int ⟨h, tk, rfl, q⟩
theorem w_gtInt {Q : Value → Heap → Prop} (q : Q (.bool (decide (b < a))) h) : W Z k (compareOp .Gt (.int a t) (.int b u)) Q h := .mk fun tk => P.gt_int ⟨h, tk, rfl, q⟩
theorem w_geInt {Q : Value → Heap → Prop} (q : Q (.bool (decide (b ≤ a))) h) : W Z k (compareOp .GtE (.int a t) (.int b u)) Q h := .mk fun tk => P.ge_int ⟨h, tk, rfl, q⟩
theorem w_negInt {Q : Value → Heap → Prop} (q : ∀ t', Q (.int (-a) t') h) : W Z k (unaryOp .USub (.int a t)) Q h := .mk fun tk => P.neg_int ⟨h, _, rfl, q _⟩
/-! texts -/
theorem w_truthyStr {Q : Bool → Heap → Prop} (hz : x.length ≤ sizeLine) (q : Q ((x.length : Int) != 0) h) : W Z k (truthy (.str x t)) Q h := .mk fun tk => P.truthy_str (by rw [sizeLine_eq] at hz; omega) ⟨h, _, rfl, q⟩
theorem w_notInStr {Q : Value → Heap → Prop} (q : Q (.bool !!(Builtin.Str.occurrences x y 0 x.length 1).isEmpty) h) : W Z k (compareOp .NotIn (.str y u) (.str x t)) Q h := .mk fun tk => P.notIn_str ⟨h, tk, rfl, q⟩
theorem seqIndex_nn {i n : Nat} (hi : i < n) : seqIndex? (i : Int) n = some i := by
  unfold seqIndex?
  have h1 : ¬ ((i : Int) < 0) := by omega
  have h2 : (i : Int) < n := by omega
  simp [h1, h2]
theorem seqIndex_m1 {n : Nat} (hi : 0 < n) : seqIndex? (-1) n = some (n - 1) := by
  unfold seqIndex?
  have h1 : (0 : Int) ≤ -1 + n := by omega
  have h2 : (-1 + n : Int) < n := by omega
  simp only [show (-1 : Int) < 0 by decide, if_true, h1, h2, decide_true, Bool.and_self]
  congr 1
  omega
theorem lt_of_getElem {cs : List Nat} {i c : Nat} (hc : cs[i]? = some c) : i < cs.length := by
  rcases Nat.lt_or_ge i cs.length with x | x
  · exact x
  · rw [List.getElem?_eq_none x] at hc; cases hc
theorem w_getStr {cs : List Nat} {c i : Nat} {Q : Value → Heap → Prop} (hc : cs[i]? = some c) (hi : i < 1000000) (q : ∀ t', Q (.str (S [c]) t') h) :
    W Z k (getItem (.str (S cs) t) (.int (i : Int) u)) Q h := .mk fun tk => by
  refine P.getItem_str (c := c) ?_ ?_ ⟨h, _, rfl, q _⟩
  · rw [Bool.or_eq_false_iff, decide_eq_false_iff_not, decide_eq_false_iff_not]; omega
  · rw [S_len, seqIndex_nn (lt_of_getElem hc)]
    simpa [S] using hc
theorem w_getStrLast {cs : List Nat} {c : Nat} {Q : Value → Heap → Prop} (hc : cs.getLast? = some c) (q : ∀ t', Q (.str (S [c]) t') h) :
    W Z k (getItem (.str (S cs) t) (.int (-1) u)) Q h := .mk fun tk => by
  refine P.getItem_str (c := c) (by decide) ?_ ⟨h, _, rfl, q _⟩
  have : 0 < cs.length := by cases cs with
    | nil => cases hc
    | cons _ _ => simp
  rw [S_len, seqIndex_m1 this]
  rw [List.getLast?_eq_getElem?] at hc
  simpa [S] using hc
end
end Mine

namespace Mine
abbrev tupObj (vs : List Value) : Obj := { cls := .type "tuple", data := .seq vs.toArray }
abbrev liOb (a : Addr) (i : Nat) : Ob := .rcd "list_iterator" #[.ref a, .int i 0]
abbrev riOb (x left : Int) : Ob := .obj { cls := .type "range_iterator", data := .fields #[rawInt x, rawInt left, rawInt 1] }
section
variable {Z : Sur} {h h' : Heap} {l l' : Led} {k : Nat} {env : Env} {t u : Tok} {x y : Str}
theorem St.newList {vs : List Value} (D : St Z h l) : St Z (h.push { cls := .type "list", data := .seq vs.toArray }) ((h.objs.size, .lst vs) :: l) :=
  D.cons (fun _ _ e => Heap.get?_push_of_some _ e) ⟨0, Heap.get?_push_size _ rfl⟩ (Nat.le_refl _)
theorem w_List {elts : List Expr} {pos : Pos} {Q : Value → Heap → Prop} (q : W Z k (spliced (backTo pos (starEach elts env))) (fun vs h₁ => vs.length ≤ 10000 ∧ ∃ l, St Z h₁ l ∧ ∀ a h', St Z h' ((a, .lst vs) :: l) → Q (.ref a) h') h) :
    W Z k (eval (.List elts pos) env) Q h := .mk fun tk => wpAny_List_spliced (q.cps (fun vs h₁ tk₁ ⟨hz, l, D, w⟩ => ⟨by rw [sizeLine_eq]; omega, _, tk₁, rfl, w _ _ D.newList⟩) tk)
theorem w_Tuple {elts : List Expr} {n : Nat} {pos : Pos} {Q : Value → Heap → Prop} (q : W Z k (spliced (backTo pos (starEach elts env))) (fun vs h₁ => vs.length ≤ 10000 ∧ ∃ l, St Z h₁ l ∧ ∀ a h', St Z h' ((a, .obj (tupObj vs)) :: l) → Q (.ref a) h') h) :
    W Z k (eval (.Tuple elts n pos) env) Q h := .mk fun tk => wpAny_Tuple_spliced (q.cps (fun vs h₁ tk₁ ⟨hz, l, D, w⟩ => ⟨by rw [sizeLine_eq]; omega, _, tk₁, rfl, w _ _ (D.alloc rfl)⟩) tk)
/-! lists walked -/
theorem w_iterList {a : Addr} {vs : List Value} {Q : Value → Heap → Prop} (D : St Z h l) (hm : (a, .lst vs) ∈ l) (q : ∀ it h', St Z h' ((it, liOb a 0) :: l) → Q (.ref it) h') : W Z k (pyIter (.ref a)) Q h := .mk fun tk =>
  wpAny_pyIter_list (s := Z.st h tk) (D.list hm) ⟨_, tk, rfl, q _ _ (D.cons (fun _ _ e => Heap.get?_push_of_some _ e) ⟨_, Heap.get?_push_size _ rfl, rfl, rfl⟩ (Nat.le_refl _))⟩
theorem w_nextList {it a : Addr} {i : Nat} {vs : List Value} {v : Value} {Q : Option Value → Heap → Prop} (D : St Z h l) (hm : (a, .lst vs) ∈ l) (hx : vs[i]? = some v) (U : Upd l it (liOb a i) (liOb a (i + 1)) l') (q : ∀ h', St Z h' l' → Q (some v) h') :
    W Z k (pyNext (.ref it)) Q h := .mk fun tk =>
  wpAny_pyNext_list_item (s := Z.st h tk) (D.at_ _ U.mem) (D.list hm) (by simpa using hx) fun h' hi hs => ⟨h', tk, rfl, q _ (D.upd U hs hi)⟩
theorem w_endList {it a : Addr} {i : Nat} {vs : List Value} {Q : Option Value → Heap → Prop} (D : St Z h l) (hm : (a, .lst vs) ∈ l) (hx : vs.length ≤ i) (hp : Pick l (it, liOb a i) l') (q : ∀ h', St Z h' l' → Q none h') :
    W Z k (pyNext (.ref it)) Q h := .mk fun tk =>
  wpAny_pyNext_list_end (s := Z.st h tk) rfl (D.at_ _ (hp.perm.mem_iff.mpr (.head _))) (D.list hm) (by simpa using hx) fun h' hs => ⟨h', tk, rfl, q _ ((D.front hp).lose hs)⟩
/-! ranges -/
abbrev rgObj (a b c : Int) (t u v : Tok) : Obj := { cls := .type "range", data := .fields #[.int a t, .int b u, .int c v] }
theorem w_range1 {n : Int} {Q : Value → Heap → Prop} (D : St Z h l) (q : ∀ r t1 t2 h', St Z h' ((r, .obj (rgObj 0 n 1 t1 t t2)) :: l) → Q (.ref r) h') : W Z k (call (.type "range") [.int n t]) Q h := .mk fun tk =>
  call_range_1 ⟨_, _, rfl, q _ _ _ _ (D.alloc rfl)⟩
theorem w_range2 {a n : Int} {Q : Value → Heap → Prop} (D : St Z h l) (q : ∀ r t2 h', St Z h' ((r, .obj (rgObj a n 1 t u t2)) :: l) → Q (.ref r) h') : W Z k (call (.type "range") [.int a t, .int n u]) Q h := .mk fun tk =>
  call_range_2 ⟨_, _, rfl, q _ _ _ (D.alloc rfl)⟩
theorem w_iterRange {r : Addr} {a b : Int} {t u v : Tok} {Q : Value → Heap → Prop} (D : St Z h l) (hm : (r, .obj (rgObj a b 1 t u v)) ∈ l) (ha : -(2 ^ 62) ≤ a ∧ a < 2 ^ 62) (hb : -(2 ^ 62) ≤ b ∧ b < 2 ^ 62)
    (q : ∀ it h', St Z h' ((it, riOb a (if a < b then b - a else 0)) :: l) → Q (.ref it) h') : W Z k (pyIter (.ref r)) Q h := .mk fun tk => by
  refine wpAny_pyIter_range (s := Z.st h tk) (D.get hm) (small_one ha.1 ha.2 hb.1 hb.2) ⟨_, tk, rfl, q _ _ ?_⟩
  rw [rangeSize_one]
  exact D.alloc rfl
theorem w_nextRange {it : Addr} {x left : Int} {Q : Option Value → Heap → Prop} (D : St Z h l) (hl : 0 < left) (U : Upd l it (riOb x left) (riOb (x + 1) (left - 1)) l') (q : ∀ t h', St Z h' l' → Q (some (.int x t)) h') :
    W Z k (pyNext (.ref it)) Q h := .mk fun tk =>
  wpAny_pyNext_range_item (s := Z.st h tk) (D.get U.mem) hl fun h' hi hs => ⟨h', _, rfl, q _ _ (D.upd U hs hi)⟩
theorem w_endRange {it : Addr} {x left : Int} {Q : Option Value → Heap → Prop} (D : St Z h l) (hl : left ≤ 0) (hp : Pick l (it, riOb x left) l') (q : ∀ h', St Z h' l' → Q none h') :
    W Z k (pyNext (.ref it)) Q h := .mk fun tk =>
  wpAny_pyNext_range_end (s := Z.st h tk) rfl (D.get (hp.perm.mem_iff.mpr (.head _))) hl fun h' hs => ⟨h', _, rfl, q _ ((D.front hp).lose hs)⟩
/-! texts -/
theorem w_subStr {value slice : Expr} {cs : List Nat} {c i : Nat} {Q : Value → Heap → Prop} (hc : cs[i]? = some c) (hi : i < 1000000) (q : ∀ t', Q (.str (S [c]) t') h)
    (hs : subscripted slice false (.str (S cs) t) (.int (i : Int) u) = operate [.str (S cs) t, .int (i : Int) u] (getItem (.str (S cs) t) (.int (i : Int) u))) (hg : ∀ r, letTemporaryGo value (.str (S cs) t) r = pure ()) :
    W Z k (subscriptTail value slice (.str (S cs) t) (.int (i : Int) u)) Q h := .mk fun tk =>
  subscriptTail_builtin (typeIs_str _ _ _) PySem.F.slot_str_getitem.lookup ((w_getStr hc hi q).run tk) hs hg
theorem w_subStrLast {value slice : Expr} {cs : List Nat} {c : Nat} {Q : Value → Heap → Prop} (hc : cs.getLast? = some c) (q : ∀ t', Q (.str (S [c]) t') h)
    (hs : subscripted slice false (.str (S cs) t) (.int (-1) u) = operate [.str (S cs) t, .int (-1) u] (getItem (.str (S cs) t) (.int (-1) u))) (hg : ∀ r, letTemporaryGo value (.str (S cs) t) r = pure ()) :
    W Z k (subscriptTail value slice (.str (S cs) t) (.int (-1) u)) Q h := .mk fun tk =>
  subscriptTail_builtin (typeIs_str _ _ _) PySem.F.slot_str_getitem.lookup ((w_getStrLast hc q).run tk) hs hg
theorem w_rstrip {Q : Value → Heap → Prop} (hz : x.length ≤ sizeLine) (q : ∀ t', Q (.str (Txt.rstrip x) t') h) : W Z k (call (.builtin "str.rstrip") [.str x t]) Q h := .mk fun tk => SC.rstrip (fun t' tk' => ⟨h, tk', rfl, q t'⟩) hz
theorem w_endswith {Q : Value → Heap → Prop} (q : Q (.bool (Txt.endswith x y)) h) : W Z k (call (.builtin "str.endswith") [.str x t, .str y u]) Q h := .mk fun tk => SC.endswith ⟨h, tk, rfl, q⟩
theorem w_count {Q : Value → Heap → Prop} (q : ∀ t', Q (.int (Txt.count x y) t') h) : W Z k (call (.builtin "str.count") [.str x t, .str y u]) Q h := .mk fun tk => SC.count ⟨h, _, rfl, q _⟩
theorem w_join {a : Addr} {ps : List (Str × Tok)} {Q : Value → Heap → Prop} (D : St Z h l) (hm : (a, .lst (strValues ps)) ∈ l) (hok : JoinOk x (ps.map (·.1)) = true) (q : ∀ t', Q (.str (Txt.join x (ps.map (·.1))) t') h) :
    W Z k (call (.builtin "str.join") [.str x t, .ref a]) Q h := .mk fun tk => SC.join (s := Z.st h tk) (D.list hm) rfl hok fun t' tk' => ⟨h, tk', rfl, q t'⟩
theorem w_splitlines {Q : Value → Heap → Prop} (D : St Z h l) (hz : x.length ≤ sizeLine) (hz2 : (lineCuts x).length ≤ sizeLine) (q : ∀ a ps h', ps.map (·.1) = Txt.lines x → St Z h' ((a, .lst (strValues ps)) :: l) → Q (.ref a) h') :
    W Z k (call (.builtin "str.splitlines") [.str x t]) Q h := .mk fun tk => by
  refine call_meets PySem.F.slot_str_splitlines (typeIs_str _ _ _) PySem.F.entry_str_splitlines (PySem.F.args_str_splitlines_1 _) (meets_str_splitlines x t hz hz2) ?_
  cases hw : lineCuts x == [(0, x.length)]
  · simp only [Bool.false_eq_true, if_false]
    rw [strsFrom_eq]
    exact ⟨_, _, rfl, q _ (numbered tk (linesOf x)) _ ((numbered_texts _ _).trans (if_neg (ne_true_of_eq_false hw)).symm) D.newList⟩
  · simp only [if_true]
    exact ⟨_, _, rfl, q _ [(x, t)] _ (if_pos hw).symm D.newList⟩
theorem w_chr {i : Nat} {Q : Value → Heap → Prop} (hi : i ≤ 1114111) (q : ∀ t', Q (.str (S [i]) t') h) : W Z k (call (.builtin "chr") [.int (i : Int) t]) Q h := .mk fun tk =>
  chr_of_range (by omega) (by omega) ⟨h, _, rfl, by rw [Int.toNat_natCast]; exact q _⟩
theorem w_ord {c : Nat} {Q : Value → Heap → Prop} (q : ∀ t', Q (.int (c : Int) t') h) : W Z k (call (.builtin "ord") [.str (S [c]) t]) Q h := .mk fun tk => P.ord_of_char ⟨h, _, rfl, q _⟩
theorem w_mulStr {n : Int} {Q : Value → Heap → Prop} (hok : MulOk x n) (q : ∀ t', Q (.str (Txt.mul x n) t') h) : W Z k (binaryOp .Mult (.str x t) (.int n u)) Q h := .mk fun tk => SB.mul hok fun t' tk' => ⟨h, tk', rfl, q t'⟩
end
end Mine

namespace Mine
def hexd : List Nat := [48, 49, 50, 51, 52, 53, 54, 55, 56, 57, 97, 98, 99, 100, 101, 102, 65, 66, 67, 68, 69, 70]
def hexv (c : Nat) : Nat := if c ≤ 57 then c - 48 else if c ≤ 70 then c - 55 else c - 87
theorem hex_read : ∀ a ∈ hexd, ∀ b ∈ hexd, (int_private% "readNumeral") 0 16 [a, b] = (int_private% "Numeral.value") ((16 * hexv a + hexv b : Nat) : Int) := by
  intro a ha b hb
  simp only [hexd, List.mem_cons, List.not_mem_nil, or_false] at ha hb
  rcases ha with rfl | rfl | rfl | rfl | rfl | rfl | rfl | rfl | rfl | rfl | rfl | rfl | rfl | rfl | rfl | rfl | rfl | rfl | rfl | rfl | rfl | rfl <;>
  rcases hb with rfl | rfl | rfl | rfl | rfl | rfl | rfl | rfl | rfl | rfl | rfl | rfl | rfl | rfl | rfl | rfl | rfl | rfl | rfl | rfl | rfl | rfl <;> rfl
theorem wp_text16 {M : Model} {A : Around} {E : Value → Shared → Prop} {s : Shared} {Q : Value → Shared → Prop} {v : Value} {text : List Nat} {n : Int}
    (hs : (text.takeWhile (· != 0)).length ≤ 640) (hr : (int_private% "readNumeral") 0 16 (text.takeWhile (· != 0)) = (int_private% "Numeral.value") n)
    (ha : ((text.takeWhile (· != 0)).length == text.length) = true) (h : Q (.int n s.toks) { s with toks := s.toks + 1 }) :
    wpAny M A ((int_private% "intFromText") v text 16) Q E s := by
  obtain ⟨hp, g, d, tk, os⟩ := s
  repeat (any_goals (first
    | assumption
    | (with_reducible refine wpAny_ite_true (decide_eq_true hs) ?_)
    | (with_reducible refine wpAny_ite_true (decide_eq_true ha) ?_)
    | wp_step))
  all_goals (try rw [hr])
  all_goals (try dsimp only)
  repeat (any_goals (first
    | assumption
    | (with_reducible refine wpAny_ite_true (decide_eq_true hs) ?_)
    | (with_reducible refine wpAny_ite_true (decide_eq_true ha) ?_)
    | wp_step))
theorem gives_hex {a b : Nat} {u v : Tok} (ha : a ∈ hexd) (hb : b ∈ hexd) : Gives (Builtin.«int.__new__» ⟨[.type "int", .str (S [a, b]) u, .int 16 v], []⟩) (.int ((16 * hexv a + hexv b : Nat) : Int)) :=
  .of_wp fun M A E s Q h => by
    have na : ∀ c ∈ hexd, (c != 0) = true := by decide
    have nb : ∀ c ∈ hexd, decide (c < 128) = true := by decide
    have e1 : [a, b].takeWhile (· != 0) = [a, b] := by simp only [List.takeWhile, na a ha, na b hb]
    have e2 : (S [a, b]).cps.all (· < 128) = true := by
      show (#[a, b] : Array Nat).all _ = true
      simp [of_decide_eq_true (nb a ha), of_decide_eq_true (nb b hb)]
    obtain ⟨hp, g, d, tk, os⟩ := s
    have f1 := PySem.F.conv_sub_int
    have f2 := PySem.F.madeHere_int
    have f6 : typeOf (.str (S [a, b]) u) = pure (.type "str") := rfl
    have eT : (if ((S [a, b]).cps.all fun x => decide (x < 128)) = true then (S [a, b]).cps.toList else Unicode.numberText (S [a, b]).cps.toList) = [a, b] := by rw [if_pos e2]; rfl
    have hk : ∀ {M : Model} {A : Around} {E : Value → Shared → Prop} {s : Shared} {Q : Value → Shared → Prop} {v : Value}, Q (.int ((16 * hexv a + hexv b : Nat) : Int) s.toks) { s with toks := s.toks + 1 } →
        wpAny M A ((int_private% "intFromText") v (if ((S [a, b]).cps.all fun x => decide (x < 128)) = true then (S [a, b]).cps.toList else Unicode.numberText (S [a, b]).cps.toList) 16) Q E s :=
      fun h => by rw [eT]; exact wp_text16 (by rw [e1]; simp) (by rw [e1]; exact hex_read a ha b hb) (by rw [e1]; rfl) h
    clear e1 e2 eT
    repeat (any_goals (first
      | assumption
      | ((with_reducible show wpAny _ _ ((int_private% "intFromText") _ _ _) _ _ _); refine hk ?_)
      | wp_step))
    all_goals first | exact ⟨_, rfl, h⟩ | skip
theorem typeCall_int_2 (a b : Value) : checkTypeCall "int" ⟨[a, b], []⟩ = pure () := by kernel_rfl
theorem newCall_int_2 (a b : Value) : checkBuiltinCall "int.__new__" ⟨[.type "int", a, b], []⟩ = pure () := by kernel_rfl
section
variable {Z : Sur} {h : Heap} {k : Nat}
theorem w_int16 {a b : Nat} {t u : Tok} {Q : Value → Heap → Prop} (ha : a ∈ hexd) (hb : b ∈ hexd) (q : ∀ t', Q (.int ((16 * hexv a + hexv b : Nat) : Int) t') h) :
    W Z k (call (.type "int") [.str (S [a, b]) t, .int 16 u]) Q h := .mk fun tk =>
  callType_new PySem.F.called_int PySem.F.newNe_int (typeCall_int_2 _ _) (newCall_int_2 _ _) (fun obj => PySem.F.args_object_init_3 obj _ _) PySem.F.entry_int_new (gives_hex ha hb).meets
    (show (Made.int _).post _ (Z.st h tk) from ⟨rfl, _, _, rfl, q _⟩)
end
end Mine

namespace Mine
theorem ls_none (s : Str) (hn : ∀ c ∈ s.cps.toList, Unicode.isLineBreak c = false) : ∀ (m cur : Nat) (st : StrLaws.LsSt), cur + m ≤ s.length → Id.run (forIn (m := Id) (List.range' cur m) st (StrLaws.lsBody s)) = st
  | 0, cur, st, _ => rfl
  | m + 1, cur, (lines, start), hm => by
    rw [List.range'_succ, List.forIn_cons]
    unfold StrLaws.lsBody
    have hlt : cur < s.cps.size := by have : s.length = s.cps.size := rfl; omega
    have : Unicode.isLineBreak (s.cps.getD cur 0) = false := by
      apply hn
      simp only [Array.getD, hlt, dif_pos]
      exact Array.getElem_mem_toList hlt
    simp only [this, Bool.and_false, Bool.false_eq_true, if_false]
    exact ls_none s hn m (cur + 1) _ (by omega)
theorem cuts_one {cs : List Nat} (hne : cs ≠ []) (hn : ∀ c ∈ cs, Unicode.isLineBreak c = false) : lineCuts (S cs) = [(0, (S cs).length)] := by
  have hpos : 0 < (S cs).length := by rw [S_len]; exact List.length_pos_iff.mpr hne
  unfold lineCuts
  rw [StrLaws.ls_eq, ls_none (S cs) (by simpa [S] using hn) _ _ _ (by omega)]
  unfold StrLaws.lsEnd
  simp [hpos]
theorem lines_one {cs : List Nat} (hne : cs ≠ []) (hn : ∀ c ∈ cs, Unicode.isLineBreak c = false) : Txt.lines (S cs) = [S cs] := by
  unfold Txt.lines
  rw [cuts_one hne hn]
  simp
/-! slices -/
theorem idx_eq (cs : List Nat) (a b : Nat) (hb : b ≤ cs.length) (hab : a ≤ b) : ((List.range (b - a)).map fun k => a + k).filterMap ((S cs).cps[·]?) = (cs.drop a).take (b - a) := by
  have : (fun j : Nat => (S cs).cps[j]?) = fun j => cs[j]? := by funext j; simp [S]
  rw [this, filterMap_range cs _ _ (by omega)]
theorem range_one (a b : Nat) (hab : a ≤ b) : sliceRange (a : Int) (b : Int) 1 = (List.range (b - a)).map fun k => a + k := sliceRange_one a b
theorem slice_of {cs : List Nat} {i j : Option Int} {a b : Nat} (he : Builtin.Str.strSliceIndices i j 1 (S cs).length = (List.range (b - a)).map fun k => a + k) (hb : b ≤ cs.length) (hab : a ≤ b) :
    Txt.slice (S cs) i j = S ((cs.drop a).take (b - a)) := by
  unfold Txt.slice
  split
  · rename_i hc
    simp only [Bool.and_eq_true, beq_iff_eq] at hc
    have hl := congrArg List.length he
    rw [hc.2, List.length_map, List.length_range, S_len] at hl
    have ha : a = 0 := by omega
    subst ha
    apply S_inj.mpr
    rw [List.drop_zero, List.take_of_length_le (by omega)]
  · rw [he, idx_eq cs a b hb hab]; rfl
theorem slice_from (cs : List Nat) (i : Nat) (hi : i ≤ cs.length) : Txt.slice (S cs) (some (i : Int)) none = S (cs.drop i) := by
  have he : Builtin.Str.strSliceIndices (some (i : Int)) none 1 (S cs).length = (List.range (cs.length - i)).map fun k => i + k := by
    unfold Builtin.Str.strSliceIndices
    rw [S_len]
    have h1 : ¬ ((i : Int) < 0) := by omega
    simp only [h1, if_false, show (1 : Int) > 0 from by decide, if_true]
    rw [show max 0 (min (i : Int) cs.length) = ((i : Nat) : Int) by omega]
    exact range_one i cs.length hi
  rw [slice_of he (Nat.le_refl _) hi, List.take_of_length_le (by rw [List.length_drop]; omega)]
theorem slice_to_neg (cs : List Nat) (n : Nat) (hn : n ≤ cs.length) (h0 : 0 < n) : Txt.slice (S cs) none (some (-(n : Int))) = S (cs.take (cs.length - n)) := by
  have he : Builtin.Str.strSliceIndices none (some (-(n : Int))) 1 (S cs).length = (List.range (cs.length - n - 0)).map fun k => 0 + k := by
    unfold Builtin.Str.strSliceIndices
    rw [S_len]
    have h1 : (-(n : Int)) < 0 := by omega
    simp only [h1, show (1 : Int) > 0 from by decide, if_true]
    rw [show max 0 (min (-(n : Int) + cs.length) cs.length) = ((cs.length - n : Nat) : Int) by omega]
    exact range_one 0 (cs.length - n) (by omega)
  rw [slice_of he (by omega) (by omega), List.drop_zero, Nat.sub_zero]
/-! strips and ends -/
theorem ends_iff (a b : List Nat) : Txt.endswith (S a) (S b) = decide (b.length ≤ a.length ∧ a.drop (a.length - b.length) = b) := by
  unfold Txt.endswith
  rw [StrLaws.subAt_eq, S_len, S_len]
  have e1 : (S a).cps.toList = a := by simp [S]
  have e2 : (S b).cps.toList = b := by simp [S]
  rw [e1, e2]
  by_cases h : b.length ≤ a.length
  · have : (a.drop (a.length - b.length)).take b.length = a.drop (a.length - b.length) := List.take_of_length_le (by rw [List.length_drop]; omega)
    rw [this]
    by_cases h2 : a.drop (a.length - b.length) = b
    · simp [h, h2]
    · simp [h2]
  · simp [h]
def rstr (cs : List Nat) : List Nat := (cs.reverse.dropWhile Unicode.isSpace).reverse
theorem rstrip_S (cs : List Nat) : Txt.rstrip (S cs) = S (rstr cs) := by
  have key : cs.take (cs.length - (cs.reverse.takeWhile Unicode.isSpace).length) = rstr cs := by
    unfold rstr
    have hs := List.takeWhile_append_dropWhile (p := Unicode.isSpace) (l := cs.reverse)
    generalize cs.reverse.takeWhile Unicode.isSpace = a at hs ⊢
    generalize cs.reverse.dropWhile Unicode.isSpace = b at hs ⊢
    have h2 := congrArg List.reverse hs
    rw [List.reverse_append, List.reverse_reverse] at h2
    subst h2
    simp
  have e1 : (S cs).cps.toList = cs := by simp [S]
  unfold Txt.rstrip Txt.stripBy stripSame PySem.stripped stripLo stripHi
  simp only [Bool.false_eq_true, if_false, if_true, beq_self_eq_true, Bool.true_and, e1, List.drop_zero, S_len]
  split
  · rename_i h
    have h := beq_iff_eq.mp h
    apply S_inj.mpr
    rw [← key, h, List.take_of_length_le (Nat.le_refl _)]
  · have : Builtin.Str.strSub (S cs) 0 (cs.length - (cs.reverse.takeWhile Unicode.isSpace).length) = S (cs.take (cs.length - (cs.reverse.takeWhile Unicode.isSpace).length)) := by
      apply Str.ext'
      simp [Builtin.Str.strSub, S]
    rw [this, key]
theorem rstr_len (cs : List Nat) : (rstr cs).length ≤ cs.length := by
  unfold rstr
  rw [List.length_reverse]
  have := (List.dropWhile_sublist Unicode.isSpace (l := cs.reverse)).length_le
  simpa using this
theorem rstr_none {cs : List Nat} {c : Nat} (h : Unicode.isSpace c = false) : rstr (cs ++ [c]) = cs ++ [c] := by
  unfold rstr
  simp [List.dropWhile, h]
end Mine

namespace Mine
section
variable {Z : Sur} {h h' : Heap} {l l' : Led} {k : Nat} {env : Env}
theorem w_withType {pos : Pos} {T : String} {first : List Value} {args : List (Bool × Sem Value)} {Q : Value → Heap → Prop} (hp : args.any (·.1) = false)
    (q : W Z k (spliced args) (fun vs h' => W Z k (PySem.call (.type T) (first ++ vs)) Q h') h) : W Z k (callWith pos (.type T) first args []) Q h := .mk fun tk =>
  PyProof.Rows.callWith_type hp ((w_evalArgs (Q := fun a h' => W Z k (PySem.call (.type T) (first ++ a.pos) a.kw) Q h') hp q).cps (fun _ _ tk₁ w => w.run tk₁) tk)
theorem w_UnaryOp {e : Expr} {op : UnaryOp} {pos : Pos} {Q : Value → Heap → Prop} (he : eval (.UnaryOp op e pos) env = (do let v ← eval e env; standAt pos; holding [v] (unaryOp op v)))
    (q : W Z k (eval e env) (fun v h₁ => W Z k (unaryOp op v) Q h₁) h) : W Z k (eval (.UnaryOp op e pos) env) Q h := by
  rw [he]
  exact W.bind (W.mono q fun v h₁ w => W.bind (W.standAt (W.holding w)))
end
/-- what a line is read as -/
def decE (e : List Nat) : List Nat → List Nat
  | [] => []
  | [c] => if c = 61 then [] else c :: e
  | [c, d] => c :: decE e [d]
  | c :: d :: f :: r => if c = 61 then (if d ∈ hexd ∧ f ∈ hexd then (16 * hexv d + hexv f) :: (if r = [] then e else decE e r) else 61 :: decE e (d :: f :: r)) else c :: decE e (d :: f :: r)
theorem decE_plain {e : List Nat} {c : Nat} {r : List Nat} (h : c ≠ 61) : decE e (c :: r) = c :: (if r = [] then e else decE e r) := by
  match r with
  | [] => simp [decE, h]
  | [d] => simp [decE]
  | d :: f :: r => rw [decE]; simp [h]
theorem decE_hex {e : List Nat} {d f : Nat} {r : List Nat} (h : d ∈ hexd ∧ f ∈ hexd) : decE e (61 :: d :: f :: r) = (16 * hexv d + hexv f) :: (if r = [] then e else decE e r) := by
  rw [decE]; simp [h]
theorem decE_eq {e : List Nat} {r : List Nat} (hr : r ≠ []) (h : ∀ d f r', r = d :: f :: r' → ¬ (d ∈ hexd ∧ f ∈ hexd)) : decE e (61 :: r) = 61 :: decE e r := by
  match r with
  | [] => exact absurd rfl hr
  | [d] => simp [decE]
  | d :: f :: r => rw [decE]; simp [h d f r rfl]
namespace L2
section
variable {Z : Sur} {h h' : Heap} {l l' : Led} {k : Nat} {env : Env}
theorem w_bi {x : Str} {pos : Pos} {v : Value} {Q : Value → Heap → Prop} (F : Facts Z) (D : St Z h l) (hm : (x, v) ∈ bis) (q : Q v h) (hk : env.scope.kind = .function) (hx : env.kindOf x = some .globalImplicit)
    (hg : env.globals = mainGlobals) (hb : env.builtins = builtinsNs) (hd : (x == ("__debug__" : Str)) = false) : W Z k (eval (.Name x pos) env) Q h :=
  w_builtin F.g D (F.bi x v hm).1 (F.bi x v hm).2 q hk hx hg hb hd
theorem w_gl {x : Str} {pos : Pos} {v : Value} {Q : Value → Heap → Prop} (F : Facts Z) (D : St Z h l) (hm : (x, v) ∈ glos) (q : Q v h) (hk : env.scope.kind = .function) (hx : env.kindOf x = some .globalImplicit)
    (hg : env.globals = mainGlobals) (hd : (x == ("__debug__" : Str)) = false) : W Z k (eval (.Name x pos) env) Q h :=
  w_global F.g D (F.gl x v hm) q hk hx hg hd
end
local macro_rules | `(tactic| walk_at "mem") => `(tactic| first | exact List.Mem.head _ | (refine List.Mem.tail _ ?_; walk_at "mem"))
local macro_rules | `(tactic| walk_at "upd") => `(tactic| first | exact Upd.here | (apply Upd.there; walk_at "upd"))
local macro_rules | `(tactic| walk_at "put") => `(tactic| first | exact Put.here | (apply Put.there; walk_at "put"))
local macro_rules | `(tactic| walk_at "pick") => `(tactic| first | exact Pick.here | (apply Pick.there; walk_at "pick"))
local macro_rules | `(tactic| walk_at "name") => `(tactic| first
  | refine w_localName (by assumption) (by walk_at "mem") (by walk_at "mem") ?_ rfl rfl rfl
  | refine w_freeName (by assumption) (by walk_at "mem") ?_ rfl rfl rfl rfl rfl
  | refine w_cellName (by assumption) (by walk_at "mem") ?_ rfl rfl rfl rfl)
local macro_rules | `(tactic| walk_at "load") => `(tactic| refine W.loadLocal (by assumption) (by walk_at "mem") (by walk_at "mem") rfl rfl ?_)
local macro_rules | `(tactic| walk_at "store") => `(tactic| (refine w_store (by assumption) (by walk_at "mem") (by walk_at "put") (by walk_at "upd") rfl rfl ?_))
local macro_rules | `(tactic| walk_at "bi") => `(tactic| refine w_bi (by assumption) (by assumption) (by walk_at "mem") ?_ rfl rfl rfl rfl rfl)
local macro_rules | `(tactic| walk_at "gl") => `(tactic| refine w_gl (by assumption) (by assumption) (by walk_at "mem") ?_ rfl rfl rfl rfl)

theorem unq_spec {Z : Sur} {h : Heap} {l : Led} {k : Nat} {a b : Nat} {t : Tok} {Q : Value → Heap → Prop} (F : Facts Z) (D : St Z h l) (ha : a ∈ hexd) (hb : b ∈ hexd) (hk : k < 58)
    (q : ∀ h' t', St Z h' l → Q (.str (S [16 * hexv a + hexv b]) t') h') : W Z k (call (.ref 79) [.str (S [61, a, b]) t]) Q h := by
  refine W.call (c_callTop [("s", .str (S [61, a, b]) t)] ["s"] [] [("s", some (.str (S [61, a, b]) t))] F.g D F.unq rfl (Binds.of (by kernel_rfl)) rfl rfl rfl rfl (by decide) (by omega) rfl rfl rfl ?_)
  intro L h D
  refine w_execs_cons ?_
  refine w_Return ?_
  refine w_Call rfl ?_
  walk_at "bi"
  refine w_withBuiltin rfl ?_
  refine w_arg rfl ?_
  refine w_Call rfl ?_
  walk_at "bi"
  refine w_withType rfl ?_
  refine w_arg rfl ?_
  refine w_SubSlice ?_ (fun _ _ => rfl)
  walk_at "name"
  refine w_part_some ?_
  refine w_int fun t1 => ?_
  refine w_part_some ?_
  refine w_int fun t2 => ?_
  refine ⟨_, _, _, some (1, t1), some (3, t2), D, rfl, rfl, rfl, (by rw [S_len, sizeLine_eq]; simp), fun t4 h D => ?_⟩
  rw [show Txt.slice (S [61, a, b]) (Option.map (·.1) (some ((1 : Int), t1))) (Option.map (·.1) (some ((3 : Int), t2))) = S [a, b] from slice_nn [61, a, b] 1 3]
  refine w_arg rfl ?_
  refine w_int fun t5 => ?_
  refine w_arg_nil ?_
  refine w_int16 ha hb fun t6 => ?_
  refine w_arg_nil ?_
  refine w_chr ?_ fun t7 => ?_
  · have : ∀ c ∈ hexd, hexv c < 16 := by decide
    have h1 := this a ha
    have h2 := this b hb
    omega
  exact q _ _ D.tail
end L2
end Mine

namespace Mine
section
variable {Z : Sur} {h h' : Heap} {l l' : Led} {k : Nat} {env : Env}
theorem Binds.dflt {fd : FuncData} {args : Args} {binds : List (Str × Value)} {T : Addr} {items : List Value} {kk : Option (Array Value) → Sem (List (Str × Value))} (D : St Z h l) (A : L2.TupAt Z T items) (hd : fd.defaults = .ref T)
    (h₁ : bindArgs fd args = seqItems? fd.defaults >>= kk) (h₂ : kk (some items.toArray) = pure binds) : Binds Z h fd args binds :=
  ⟨fun tk => BindsTo.of_defaults hd (D.top A.get A.na) rfl h₁ h₂⟩
theorem S_ofS (x : String) (cs : List Nat) (e : Str.ofString x = S cs) : Str.ofString x = S cs := e
end
namespace L2
local macro_rules | `(tactic| walk_at "mem") => `(tactic| first | exact List.Mem.head _ | (refine List.Mem.tail _ ?_; walk_at "mem"))
local macro_rules | `(tactic| walk_at "upd") => `(tactic| first | exact Upd.here | (apply Upd.there; walk_at "upd"))
local macro_rules | `(tactic| walk_at "put") => `(tactic| first | exact Put.here | (apply Put.there; walk_at "put"))
local macro_rules | `(tactic| walk_at "pick") => `(tactic| first | exact Pick.here | (apply Pick.there; walk_at "pick"))
local macro_rules | `(tactic| walk_at "name") => `(tactic| first
  | refine w_localName (by assumption) (by walk_at "mem") (by walk_at "mem") ?_ rfl rfl rfl
  | refine w_freeName (by assumption) (by walk_at "mem") ?_ rfl rfl rfl rfl rfl
  | refine w_cellName (by assumption) (by walk_at "mem") ?_ rfl rfl rfl rfl)
local macro_rules | `(tactic| walk_at "load") => `(tactic| refine W.loadLocal (by assumption) (by walk_at "mem") (by walk_at "mem") rfl rfl ?_)
local macro_rules | `(tactic| walk_at "store") => `(tactic| (refine w_store (by assumption) (by walk_at "mem") (by walk_at "put") (by walk_at "upd") rfl rfl ?_))
local macro_rules | `(tactic| walk_at "bi") => `(tactic| refine w_bi (by assumption) (by assumption) (by walk_at "mem") ?_ rfl rfl rfl rfl rfl)
local macro_rules | `(tactic| walk_at "gl") => `(tactic| refine w_gl (by assumption) (by assumption) (by walk_at "mem") ?_ rfl rfl rfl rfl)

abbrev dFrame (cs e d : List Nat) (t1 t2 t3 : Tok) (line i n c : Option Value) : Ob :=
  .ns [("encoded", some (.str (S cs) t1)), ("eol", some (.str (S e) t2)), ("decoded", some (.str (S d) t3)), ("line", line), ("i", i), ("n", n), ("c", c)]
def sFor : Stmt := inDef (stmt 22) 2
def sWhile : Stmt := nth (forBody sFor) 4
section
variable {Z : Sur} {h : Heap} {l : Led} {k : Nat} {Q : Flow → Heap → Prop} {cs e d ln T : List Nat} {t1 t2 t3 tl ti tn : Tok} {i : Nat} {c : Option Value} {L : Addr}
def WhI (Z : Sur) (l : Led) (L : Addr) (cs e ln T : List Nat) (t1 t2 tl tn : Tok) (n : Nat) (h : Heap) : Prop :=
  ∃ (i : Nat) (d : List Nat) (t3 ti : Tok) (c : Option Value), n = ln.length - i ∧ i ≤ ln.length ∧ d ++ decE e (ln.drop i) = T ∧ St Z h ((L, dFrame cs e d t1 t2 t3 (some (.str (S ln) tl)) (some (.int (i : Int) ti)) (some (.int (ln.length : Int) tn)) c) :: l)
theorem while_spec (F : Facts Z) (hk : k < 55) (hz : ln.length ≤ 10000) (hT : T.length ≤ 100000) (he : e.length ≤ 10) (q : ∀ h t3 ti c, St Z h ((L, dFrame cs e T t1 t2 t3 (some (.str (S ln) tl)) ti (some (.int (ln.length : Int) tn)) c) :: l) → Q .next h)
    {n : Nat} (I : WhI Z l L cs e ln T t1 t2 tl tn n h) : W Z k (exec sWhile (callEnv fDec L 107)) Q h := by
  refine w_While ?_
  refine c_whileLoop (WhI Z l L cs e ln T t1 t2 tl tn) ?_ n I
  clear I
  rintro n h ⟨i, d, t3, ti, c, hn, hi, hd, D⟩
  refine w_isCompare ?_ rfl
  walk_at "name"
  walk_at "name"
  refine w_ltInt ?_
  refine w_truthy_bool ?_
  by_cases hlt : i < ln.length
  · rw [decide_eq_true (show (i : Int) < (ln.length : Int) by omega), if_pos rfl]
    obtain ⟨x, r, hx⟩ : ∃ x r, ln.drop i = x :: r := by
      cases hx : ln.drop i with
      | nil => rw [List.drop_eq_nil_iff] at hx; omega
      | cons x r => exact ⟨x, r, rfl⟩
    have hget : ln[i]? = some x := by
      have := congrArg (fun y => y[0]?) hx
      simpa using this
    have hr : ln.drop (i + 1) = r := drop_add hx
    have hlen := drop_lt hx
    rw [hx] at hd
    have hdl : d.length ≤ T.length := by rw [← hd, List.length_append]; omega
    refine w_execs_cons ?_
    refine w_AssignName ?_ rfl
    refine w_Subscript ?_
    walk_at "name"
    walk_at "name"
    refine w_subStr hget (by omega) (fun t4 => ?_) rfl (fun _ => rfl)
    walk_at "store"; intro h D
    refine w_execs_cons ?_
    refine w_If ?_
    refine w_isCompare ?_ rfl
    walk_at "name"
    refine w_str fun t5 => ?_
    refine w_neStr ?_
    refine w_truthy_bool ?_
    have hc : (S [x] != Str.ofString "=") = decide (x ≠ 61) := by
      rw [show Str.ofString "=" = S [61] from rfl, S_ne]; simp
    rw [hc]
    have fin : ∀ {d' : List Nat} {i' : Nat} {t3' ti' : Tok} {h : Heap} {c' : Option Value}, i < i' → i' ≤ ln.length → d' ++ (if ln.drop i' = [] then e else decE e (ln.drop i')) = T →
        St Z h ((L, dFrame cs e d' t1 t2 t3' (some (.str (S ln) tl)) (some (.int (i' : Int) ti')) (some (.int (ln.length : Int) tn)) c') :: l) →
        W Z k (execs [nth (match sWhile with | .While _ b _ _ => b | _ => []) 2] (callEnv fDec L 107)) (fun f h₃ => match f with | .next | .cont => ∃ m, m < n ∧ WhI Z l L cs e ln T t1 t2 tl tn m h₃ | .brk => Q .next h₃ | .ret v => Q (.ret v) h₃) h := by
      intro d' i' t3' ti' h c' h1 h2 h3 D
      refine w_execs_cons ?_
      refine w_If ?_
      refine w_isCompare ?_ rfl
      walk_at "name"
      walk_at "name"
      refine w_eqInt ?_
      refine w_truthy_bool ?_
      by_cases he' : i' = ln.length
      · have hnil : ln.drop i' = [] := by rw [he']; exact List.drop_length
        rw [if_pos hnil] at h3
        rw [show ((i' : Int) == (ln.length : Int)) = true by rw [he']; simp, if_pos rfl]
        refine w_execs_cons ?_
        refine w_AugName ?_
        walk_at "load"
        walk_at "name"
        refine w_iaddStr (by rw [S_len, S_len, sizeLine_eq]; have := congrArg List.length h3; rw [List.length_append] at this; omega) fun t6 => ?_
        rw [S_app]
        walk_at "store"; intro h D
        refine w_execs_nil ?_
        refine w_execs_nil ?_
        rw [h3] at D
        exact ⟨_, by omega, i', T, _, _, _, rfl, h2, by rw [hnil]; simp [decE], D⟩
      · have hnil : ln.drop i' ≠ [] := by rw [ne_eq, List.drop_eq_nil_iff]; omega
        rw [if_neg hnil] at h3
        rw [show ((i' : Int) == (ln.length : Int)) = false by rw [beq_eq_false_iff_ne]; omega, if_neg (by decide)]
        refine w_execs_nil ?_
        refine w_execs_nil ?_
        exact ⟨_, by omega, i', d', _, _, _, rfl, h2, h3, D⟩
    by_cases hx6 : x = 61
    · rw [decide_eq_false (fun hne => hne hx6), if_neg (by decide)]
      subst hx6
      refine w_execs_cons ?_
      refine w_If ?_
      refine w_isCompare ?_ rfl
      refine w_BinOp ?_
      walk_at "name"
      refine w_int fun t6 => ?_
      refine w_addInt fun t7 => ?_
      walk_at "name"
      refine w_eqInt ?_
      refine w_truthy_bool ?_
      by_cases hr0 : r = []
      · subst hr0
        have hl1 : i + 1 = ln.length := by simpa using hlen
        rw [show ((i : Int) + 1 == (ln.length : Int)) = true by rw [← hl1]; simp, if_pos rfl]
        refine w_execs_cons ?_
        refine w_AugName ?_
        walk_at "load"
        refine w_int fun t8 => ?_
        refine w_iaddInt fun t9 => ?_
        walk_at "store"; intro h D
        refine w_execs_cons ?_
        refine w_Continue ?_
        refine ⟨_, by omega, i + 1, d, _, _, _, rfl, by omega, by rw [hr]; simpa [decE] using hd, D⟩
      · have hrl : 0 < r.length := List.length_pos_iff.mpr hr0
        rw [show ((i : Int) + 1 == (ln.length : Int)) = false by rw [beq_eq_false_iff_ne]; omega, if_neg (by decide)]
        refine w_execs_cons ?_
        refine w_If ?_
        refine W.mono (Q := fun b h' => h' = h ∧ (b = true ↔ ∃ a f r', r = a :: f :: r' ∧ a ∈ hexd ∧ f ∈ hexd)) ?_ ?_
        · refine w_isBool ?_
          refine w_and_cons ?_
          refine w_isCompare ?_ rfl
          refine w_BinOp ?_
          walk_at "name"
          refine w_int fun t8 => ?_
          refine w_addInt fun t9 => ?_
          walk_at "name"
          refine w_ltInt ?_
          refine w_truthy_bool ?_
          match r, hr0, hr, hlen, hrl with
          | [a], _, hr, hlen, _ =>
            simp only [List.length_cons, List.length_nil] at hlen
            rw [decide_eq_false (by omega), if_neg (by decide)]
            exact ⟨rfl, fun h => (by cases h), fun ⟨a, f, r', e, _⟩ => by cases e⟩
          | a :: f :: r', _, hr, hlen, _ =>
            simp only [List.length_cons] at hlen
            have g1 : ln[i + 1]? = some a := by have := congrArg (fun y => y[0]?) hr; simpa using this
            have g2 : ln[i + 2]? = some f := by have := congrArg (fun y => y[1]?) hr; simpa [Nat.add_assoc] using this
            rw [decide_eq_true (by omega), if_pos rfl]
            obtain ⟨th, hHex⟩ := F.gHex
            refine w_and_cons ?_
            refine w_isCompare ?_ rfl
            refine w_Subscript ?_
            walk_at "name"
            refine w_BinOp ?_
            walk_at "name"
            refine w_int fun t10 => ?_
            refine w_addInt fun t11 => ?_
            refine w_subStr (i := i + 1) g1 (by omega) (fun t12 => ?_) rfl (fun _ => rfl)
            refine w_global F.g D hHex ?_ rfl rfl rfl rfl
            refine w_inStr ?_
            rw [in_one]
            refine w_truthy_bool ?_
            by_cases ha : a ∈ hexd
            · rw [show decide (a ∈ [48, 49, 50, 51, 52, 53, 54, 55, 56, 57, 97, 98, 99, 100, 101, 102, 65, 66, 67, 68, 69, 70]) = true from decide_eq_true ha, if_pos rfl]
              refine w_and_cons ?_
              refine w_isCompare ?_ rfl
              refine w_Subscript ?_
              walk_at "name"
              refine w_BinOp ?_
              walk_at "name"
              refine w_int fun t13 => ?_
              refine w_addInt fun t14 => ?_
              refine w_subStr (i := i + 2) g2 (by omega) (fun t15 => ?_) rfl (fun _ => rfl)
              refine w_global F.g D hHex ?_ rfl rfl rfl rfl
              refine w_inStr ?_
              rw [in_one]
              refine w_truthy_bool ?_
              by_cases hf : f ∈ hexd
              · rw [show decide (f ∈ [48, 49, 50, 51, 52, 53, 54, 55, 56, 57, 97, 98, 99, 100, 101, 102, 65, 66, 67, 68, 69, 70]) = true from decide_eq_true hf, if_pos rfl]
                refine w_and_nil ?_
                exact ⟨rfl, fun _ => ⟨a, f, r', rfl, ha, hf⟩, fun _ => rfl⟩
              · rw [show decide (f ∈ [48, 49, 50, 51, 52, 53, 54, 55, 56, 57, 97, 98, 99, 100, 101, 102, 65, 66, 67, 68, 69, 70]) = false from decide_eq_false hf, if_neg (by decide)]
                exact ⟨rfl, fun h => (by cases h), fun ⟨a, f, r', e, _, hf'⟩ => by cases e; exact absurd hf' hf⟩
            · rw [show decide (a ∈ [48, 49, 50, 51, 52, 53, 54, 55, 56, 57, 97, 98, 99, 100, 101, 102, 65, 66, 67, 68, 69, 70]) = false from decide_eq_false ha, if_neg (by decide)]
              exact ⟨rfl, fun h => (by cases h), fun ⟨a, f, r', e, ha', _⟩ => by cases e; exact absurd ha' ha⟩
        · rintro b h' ⟨rfl, hb⟩
          cases b with
          | true =>
            obtain ⟨a, f, r', rfl, ha, hf⟩ := hb.mp rfl
            simp only [List.length_cons] at hlen
            rw [decE_hex ⟨ha, hf⟩] at hd
            have hr3 : ln.drop (i + 3) = r' := by rw [show i + 3 = i + 1 + 2 from rfl, ← List.drop_drop, hr]; rfl
            rw [if_pos rfl]
            refine w_execs_cons ?_
            refine w_AugName ?_
            walk_at "load"
            refine w_Call rfl ?_
            walk_at "gl"
            refine w_withFunction (o := fnObj fUnq) (fd := fUnq) rfl ?_
            refine w_arg rfl ?_
            refine w_SubSlice ?_ (fun _ _ => rfl)
            walk_at "name"
            refine w_part_some ?_
            walk_at "name"
            refine w_part_some ?_
            refine w_BinOp ?_
            walk_at "name"
            refine w_int fun t8 => ?_
            refine w_addInt fun t9 => ?_
            refine ⟨_, _, _, some ((i : Int), ti), some ((i : Int) + 3, t9), D, rfl, rfl, rfl, (by rw [S_len, sizeLine_eq]; omega), fun t10 h D => ?_⟩
            rw [show Txt.slice (S ln) (Option.map (·.1) (some ((i : Int), ti))) (Option.map (·.1) (some ((i : Int) + 3, t9))) = S [61, a, f] from (slice_nn ln i (i + 3)).trans (by rw [hx, show i + 3 - i = 3 by omega]; rfl)]
            refine w_arg_nil ?_
            refine ⟨⟨F.unq.here D, rfl⟩, ?_⟩
            refine unq_spec F D ha hf (by omega) ?_
            intro h t11 D
            refine w_iaddStr (by rw [S_len, S_len, sizeLine_eq]; simp only [List.length_cons, List.length_nil]; omega) fun t12 => ?_
            rw [S_app]
            walk_at "store"; intro h D
            refine w_execs_cons ?_
            refine w_AugName ?_
            walk_at "load"
            refine w_int fun t13 => ?_
            refine w_iaddInt fun t14 => ?_
            walk_at "store"; intro h D
            refine w_execs_nil ?_
            refine w_execs_nil ?_
            refine w_execs_nil ?_
            exact fin (i' := i + 3) (by omega) (by omega) (by rw [hr3]; simpa using hd) D
          | false =>
            rw [if_neg (by decide)]
            rw [decE_eq hr0 (fun a f r' e hh => by have := hb.mpr ⟨a, f, r', e, hh.1, hh.2⟩; cases this)] at hd
            refine w_execs_cons ?_
            refine w_AugName ?_
            walk_at "load"
            walk_at "name"
            refine w_iaddStr (by rw [S_len, S_len, sizeLine_eq]; simp only [List.length_cons, List.length_nil]; omega) fun t12 => ?_
            rw [S_app]
            walk_at "store"; intro h D
            refine w_execs_cons ?_
            refine w_AugName ?_
            walk_at "load"
            refine w_int fun t13 => ?_
            refine w_iaddInt fun t14 => ?_
            walk_at "store"; intro h D
            refine w_execs_nil ?_
            refine w_execs_nil ?_
            refine w_execs_nil ?_
            exact fin (i' := i + 1) (by omega) (by omega) (by rw [hr, if_neg hr0]; simpa using hd) D
    · rw [decide_eq_true hx6, if_pos rfl]
      rw [decE_plain hx6] at hd
      refine w_execs_cons ?_
      refine w_AugName ?_
      walk_at "load"
      walk_at "name"
      refine w_iaddStr (by rw [S_len, S_len, sizeLine_eq]; simp only [List.length_cons, List.length_nil]; omega) fun t6 => ?_
      rw [S_app]
      walk_at "store"; intro h D
      refine w_execs_cons ?_
      refine w_AugName ?_
      walk_at "load"
      refine w_int fun t7 => ?_
      refine w_iaddInt fun t8 => ?_
      walk_at "store"; intro h D
      refine w_execs_nil ?_
      exact fin (Nat.lt_succ_self i) hlt (by rw [hr]; simpa using hd) D
  · rw [decide_eq_false (by omega), if_neg (by decide)]
    have : i = ln.length := by omega
    subst this
    refine w_execs_nil ?_
    rw [List.drop_length] at hd
    have hd' : d = T := by simpa [decE] using hd
    subst hd'
    exact q _ _ _ _ D
end
end L2
end Mine

namespace Mine
def decL (e ln : List Nat) : List Nat := if rstr ln = [] then e else decE e (rstr ln)
def decAll (e : List Nat) (lns : List (List Nat)) : List Nat := lns.flatMap (decL e)
def decT (e cs : List Nat) (lns : List (List Nat)) : List Nat :=
  if cs.getLast? ≠ some 13 ∧ cs.getLast? ≠ some 10 ∧ (e.length ≤ (decAll e lns).length ∧ (decAll e lns).drop ((decAll e lns).length - e.length) = e) then (decAll e lns).take ((decAll e lns).length - e.length) else decAll e lns
theorem decE_len (e : List Nat) : ∀ ln : List Nat, (decE e ln).length ≤ ln.length + e.length
  | [] => by simp [decE]
  | [c] => by simp only [decE]; split <;> simp; omega
  | [c, d] => by
    have := decE_len e [d]
    simp only [decE, List.length_cons, List.length_nil] at this ⊢
    omega
  | c :: d :: f :: r => by
    rw [decE]
    have h1 := decE_len e r
    have h2 := decE_len e (d :: f :: r)
    simp only [List.length_cons] at h1 h2 ⊢
    split
    · split
      · simp only [List.length_cons]; split <;> omega
      · simp only [List.length_cons]; omega
    · simp only [List.length_cons]; omega
namespace L2
local macro_rules | `(tactic| walk_at "mem") => `(tactic| first | exact List.Mem.head _ | (refine List.Mem.tail _ ?_; walk_at "mem"))
local macro_rules | `(tactic| walk_at "upd") => `(tactic| first | exact Upd.here | (apply Upd.there; walk_at "upd"))
local macro_rules | `(tactic| walk_at "put") => `(tactic| first | exact Put.here | (apply Put.there; walk_at "put"))
local macro_rules | `(tactic| walk_at "pick") => `(tactic| first | exact Pick.here | (apply Pick.there; walk_at "pick"))
local macro_rules | `(tactic| walk_at "name") => `(tactic| first
  | refine w_localName (by assumption) (by walk_at "mem") (by walk_at "mem") ?_ rfl rfl rfl
  | refine w_freeName (by assumption) (by walk_at "mem") ?_ rfl rfl rfl rfl rfl
  | refine w_cellName (by assumption) (by walk_at "mem") ?_ rfl rfl rfl rfl)
local macro_rules | `(tactic| walk_at "load") => `(tactic| refine W.loadLocal (by assumption) (by walk_at "mem") (by walk_at "mem") rfl rfl ?_)
local macro_rules | `(tactic| walk_at "store") => `(tactic| (refine w_store (by assumption) (by walk_at "mem") (by walk_at "put") (by walk_at "upd") rfl rfl ?_))
local macro_rules | `(tactic| walk_at "bi") => `(tactic| refine w_bi (by assumption) (by assumption) (by walk_at "mem") ?_ rfl rfl rfl rfl rfl)
local macro_rules | `(tactic| walk_at "gl") => `(tactic| refine w_gl (by assumption) (by assumption) (by walk_at "mem") ?_ rfl rfl rfl rfl)

section
variable {Z : Sur} {h : Heap} {l : Led} {k : Nat} {cs e : List Nat} {t1 t2 : Tok}
def ForI (Z : Sur) (l : Led) (L it a : Addr) (cs e T : List Nat) (t1 t2 : Tok) (lns : List (List Nat × Tok)) (n : Nat) (h : Heap) : Prop :=
  ∃ (j : Nat) (d : List Nat) (t3 : Tok) (li ii nn c : Option Value), n = lns.length - j ∧ j ≤ lns.length ∧ d ++ decAll e ((lns.drop j).map (·.1)) = T ∧
    St Z h ((it, liOb a j) :: (a, .lst (lns.map fun p => .str (S p.1) p.2)) :: (L, dFrame cs e d t1 t2 t3 li ii nn c) :: l)
theorem dec_body {Q : Value → Heap → Prop} {L : Addr} (F : Facts Z) (hk : k < 55) (he : 0 < e.length ∧ e.length ≤ 10) (hz : cs.length ≤ 1000) (hne : cs ≠ []) (lns : List (List Nat)) (hl : Txt.lines (S cs) = lns.map S) (hc : (lineCuts (S cs)).length ≤ sizeLine)
    (hb : ∀ ln ∈ lns, ln.length ≤ 10000) (hT : (decAll e lns).length ≤ 100000)
    (D : St Z h ((L, .ns [("encoded", some (.str (S cs) t1)), ("eol", some (.str (S e) t2)), ("decoded", none), ("line", none), ("i", none), ("n", none), ("c", none)]) :: l))
    (q : ∀ h' t', St Z h' l → Q (.str (S (decT e cs lns)) t') h') :
    W Z k (execs (bodyOf (stmt 22)) (callEnv fDec L 107)) (fun f h' => Q (match f with | .ret v => v | _ => .none) h') h := by
  refine w_execs_cons ?_
  refine w_If ?_
  refine w_isNot ?_
  refine w_isValue rfl ?_
  walk_at "name"
  refine w_truthyStr (by rw [S_len, sizeLine_eq]; omega) ?_
  have hpos : 0 < cs.length := List.length_pos_iff.mpr hne
  rw [show (((S cs).length : Int) != 0) = true by rw [S_len, bne_iff_ne]; omega, if_neg (by decide)]
  refine w_execs_nil ?_
  refine w_execs_cons ?_
  refine w_AssignName ?_ rfl
  refine w_str fun t3 => ?_
  walk_at "store"; intro h D
  refine w_execs_cons ?_
  refine w_For (fun _ => rfl) ?_
  refine w_CallMeth rfl rfl rfl ?_
  walk_at "name"
  intro pl
  refine w_strMethod PySem.F.slot_str_splitlines PySem.F.type_str_splitlines ?_
  refine w_withBuiltin rfl ?_
  refine w_arg_nil ?_
  refine w_splitlines D (by rw [S_len, sizeLine_eq]; omega) hc ?_
  intro a ps h hps D
  -- the lines with their tokens
  obtain ⟨lt, hlt1, hlt2⟩ : ∃ lt : List (List Nat × Tok), lt.map (·.1) = lns ∧ strValues ps = lt.map fun p => Value.str (S p.1) p.2 := by
    rw [hl] at hps
    clear D hl hc hb hT q
    induction lns generalizing ps with
    | nil =>
      cases ps with
      | nil => exact ⟨[], rfl, rfl⟩
      | cons _ _ => cases hps
    | cons x xs ih =>
      cases ps with
      | nil => cases hps
      | cons p ps =>
        simp only [List.map_cons, List.cons.injEq] at hps
        obtain ⟨lt, h1, h2⟩ := ih ps hps.2
        refine ⟨(x, p.2) :: lt, by simp [h1], ?_⟩
        obtain ⟨p1, p2⟩ := p
        dsimp only at hps
        rw [List.map_cons, ← h2, ← hps.1]
        rfl
  rw [hlt2] at D
  subst hlt1
  refine w_iterList D (by walk_at "mem") ?_
  intro it h D
  refine c_forLoop (ForI Z l L it a cs e (decAll e (lt.map (·.1))) t1 t2 lt) ?_ lt.length ⟨0, [], t3, _, _, _, _, rfl, Nat.zero_le _, by simp, D⟩ (fun _ => rfl)
  clear D
  rintro n h ⟨j, d, t3, li, ii, nn, c, hn, hj, hd, D⟩
  by_cases hlt : j < lt.length
  · obtain ⟨⟨ln, tl⟩, hx⟩ : ∃ p, lt[j]? = some p := ⟨_, List.getElem?_eq_getElem hlt⟩
    have hdrop : lt.drop j = (ln, tl) :: lt.drop (j + 1) := by
      rw [List.drop_eq_getElem_cons hlt]
      rw [List.getElem?_eq_getElem hlt] at hx
      injection hx with hx
      rw [hx]
    have hmem : ln ∈ lt.map (·.1) := List.mem_map.mpr ⟨(ln, tl), List.mem_of_getElem? hx, rfl⟩
    have hbl := hb ln hmem
    rw [hdrop] at hd
    simp only [List.map_cons, decAll, List.flatMap_cons] at hd
    have hdl := congrArg List.length hd
    simp only [List.length_append] at hdl
    have hT' : ((lt.map (·.1)).flatMap (decL e)).length ≤ 100000 := hT
    refine w_nextList (v := .str (S ln) tl) D (by walk_at "mem") (by rw [List.getElem?_map, hx]; rfl) (by walk_at "upd") ?_
    intro h D
    dsimp only
    refine w_assignName ?_
    walk_at "store"; intro h D
    refine w_execs_cons ?_
    refine w_AssignName ?_ rfl
    refine w_CallMeth rfl rfl rfl ?_
    walk_at "name"
    intro pl
    refine w_strMethod PySem.F.slot_str_rstrip PySem.F.type_str_rstrip ?_
    refine w_withBuiltin rfl ?_
    refine w_arg_nil ?_
    refine w_rstrip (by rw [S_len, sizeLine_eq]; omega) fun t4 => ?_
    rw [rstrip_S]
    have hrl := rstr_len ln
    walk_at "store"; intro h D
    refine w_execs_cons ?_
    refine w_If ?_
    refine w_isNot ?_
    refine w_isValue rfl ?_
    walk_at "name"
    refine w_truthyStr (by rw [S_len, sizeLine_eq]; omega) ?_
    by_cases h0 : rstr ln = []
    · rw [show (((S (rstr ln)).length : Int) != 0) = false by rw [h0]; rfl, if_pos (by decide)]
      have hdL : decL e ln = e := by unfold decL; rw [if_pos h0]
      rw [hdL] at hd hdl
      refine w_execs_cons ?_
      refine w_AugName ?_
      walk_at "load"
      walk_at "name"
      refine w_iaddStr (by rw [S_len, S_len, sizeLine_eq]; omega) fun t5 => ?_
      rw [S_app]
      walk_at "store"; intro h D
      refine w_execs_cons ?_
      refine w_Continue ?_
      exact ⟨_, by omega, j + 1, d ++ e, _, _, _, _, _, rfl, hlt, by rw [List.append_assoc]; exact hd, D⟩
    · have hr0 : 0 < (rstr ln).length := List.length_pos_iff.mpr h0
      rw [show (((S (rstr ln)).length : Int) != 0) = true by rw [S_len, bne_iff_ne]; omega, if_neg (by decide)]
      have hdL : decL e ln = decE e (rstr ln) := by unfold decL; rw [if_neg h0]
      rw [hdL] at hd hdl
      refine w_execs_nil ?_
      refine w_execs_cons ?_
      refine w_AssignName ?_ rfl
      refine w_int fun t5 => ?_
      walk_at "store"; intro h D
      refine w_execs_cons ?_
      refine w_AssignName ?_ rfl
      refine w_Call rfl ?_
      walk_at "bi"
      refine w_withBuiltin rfl ?_
      refine w_arg rfl ?_
      walk_at "name"
      refine w_arg_nil ?_
      refine w_lenStr (by rw [S_len, sizeLine_eq]; omega) fun t6 => ?_
      walk_at "store"; intro h D
      rw [S_len] at D
      refine w_execs_cons ?_
      have D := D.perm (show List.Perm _ ((L, _) :: (it, liOb a (j + 1)) :: (a, .lst (lt.map fun p => .str (S p.1) p.2)) :: l) from (List.perm_middle (l₁ := [_, _])))
      refine while_spec (T := d ++ decE e (rstr ln)) (n := (rstr ln).length) F hk (by omega) (by rw [List.length_append]; omega) he.2 ?_ ⟨0, d, _, _, _, by simp, by omega, by simp, D⟩
      intro h t3' ti c D
      have D := D.perm (List.perm_middle (l₁ := [(it, liOb a (j + 1)), (a, .lst (lt.map fun p => .str (S p.1) p.2))])).symm
      refine w_execs_nil ?_
      exact ⟨_, by omega, j + 1, _, _, _, _, _, _, rfl, hlt, by rw [List.append_assoc]; exact hd, D⟩
  · refine w_endList (i := j) D (by walk_at "mem") (by rw [List.length_map]; omega) (by walk_at "pick") ?_
    intro h D
    dsimp only
    have hd' : d = decAll e (lt.map (·.1)) := by
      rw [List.drop_of_length_le (by omega)] at hd
      simpa [decAll] using hd
    subst hd'
    refine w_execs_nil ?_
    refine w_execs_cons ?_
    refine w_If ?_
    obtain ⟨z, hz'⟩ : ∃ z, cs.getLast? = some z := ⟨_, List.getLast?_eq_some_getLast hne⟩
    refine W.mono (Q := fun b h' => h' = h ∧ b = decide (z ∉ [13, 10] ∧ (e.length ≤ (decAll e (lt.map (·.1))).length ∧ (decAll e (lt.map (·.1))).drop ((decAll e (lt.map (·.1))).length - e.length) = e))) ?_ ?_
    · refine w_isBool ?_
      refine w_and_cons ?_
      refine w_isCompare ?_ rfl
      refine w_Subscript ?_
      walk_at "name"
      refine w_UnaryOp rfl ?_
      refine w_int fun t5 => ?_
      refine w_negInt fun t6 => ?_
      refine w_subStrLast hz' (fun t7 => ?_) rfl (fun _ => rfl)
      refine w_str fun t8 => ?_
      refine w_notInStr ?_
      rw [show Str.ofString "\r\n" = S [13, 10] from rfl]
      rw [show (!!(Builtin.Str.occurrences (S [13, 10]) (S [z]) 0 (S [13, 10]).length 1).isEmpty) = !decide (z ∈ [13, 10]) by rw [in_one]]
      refine w_truthy_bool ?_
      by_cases hz1 : z ∈ [13, 10]
      · rw [decide_eq_true hz1, if_neg (by decide)]
        exact ⟨rfl, (decide_eq_false (fun x => x.1 hz1)).symm⟩
      · rw [decide_eq_false hz1, if_pos (by decide)]
        refine w_and_cons ?_
        refine w_isValue rfl ?_
        refine w_CallMeth rfl rfl rfl ?_
        walk_at "name"
        intro pl
        refine w_strMethod PySem.F.slot_str_endswith PySem.F.type_str_endswith ?_
        refine w_withBuiltin rfl ?_
        refine w_arg rfl ?_
        walk_at "name"
        refine w_arg_nil ?_
        refine w_endswith ?_
        rw [ends_iff]
        refine w_truthy_bool ?_
        split
        · rename_i hh
          refine w_and_nil ?_
          exact ⟨rfl, (decide_eq_true ⟨hz1, of_decide_eq_true hh⟩).symm⟩
        · rename_i hh
          exact ⟨rfl, (decide_eq_false (fun x => hh (decide_eq_true x.2))).symm⟩
    · rintro b h' ⟨rfl, rfl⟩
      have hcond : (z ∉ [13, 10] ∧ (e.length ≤ (decAll e (lt.map (·.1))).length ∧ (decAll e (lt.map (·.1))).drop ((decAll e (lt.map (·.1))).length - e.length) = e)) ↔
          (cs.getLast? ≠ some 13 ∧ cs.getLast? ≠ some 10 ∧ (e.length ≤ (decAll e (lt.map (·.1))).length ∧ (decAll e (lt.map (·.1))).drop ((decAll e (lt.map (·.1))).length - e.length) = e)) := by
        rw [hz']; simp [and_assoc]
      split
      · rename_i hh
        have hh := of_decide_eq_true hh
        refine w_execs_cons ?_
        refine w_AssignName ?_ rfl
        refine w_SubSlice ?_ (fun _ _ => rfl)
        walk_at "name"
        refine w_part_none ?_
        refine w_part_some ?_
        refine w_UnaryOp rfl ?_
        refine w_Call rfl ?_
        walk_at "bi"
        refine w_withBuiltin rfl ?_
        refine w_arg rfl ?_
        walk_at "name"
        refine w_arg_nil ?_
        refine w_lenStr (by rw [S_len, sizeLine_eq]; omega) fun t5 => ?_
        refine w_negInt fun t6 => ?_
        refine ⟨_, _, _, none, some (-((S e).length : Int), t6), D, rfl, rfl, rfl, (by rw [S_len, sizeLine_eq]; omega), fun t7 h D => ?_⟩
        rw [show Txt.slice (S (decAll e (lt.map (·.1)))) (Option.map (·.1) (none : Option (Int × Tok))) (Option.map (·.1) (some (-((S e).length : Int), t6))) = S (decT e cs (lt.map (·.1))) by
          unfold decT
          rw [if_pos (hcond.mp hh), S_len]
          exact slice_to_neg _ _ hh.2.1 he.1]
        walk_at "store"; intro h D
        refine w_execs_nil ?_
        refine w_execs_cons ?_
        refine w_Return ?_
        walk_at "name"
        exact q _ _ D.tail.tail
      · rename_i hh
        have hh : ¬ _ := fun x => hh (decide_eq_true x)
        refine w_execs_nil ?_
        refine w_execs_cons ?_
        refine w_Return ?_
        walk_at "name"
        have : decT e cs (lt.map (·.1)) = decAll e (lt.map (·.1)) := by
          unfold decT
          rw [if_neg (fun x => hh (hcond.mpr x))]
        rw [← this]
        exact q _ _ D.tail.tail
end
end L2
end Mine

namespace Mine
abbrev bfObj (id : String) (a : Addr) : Obj := { cls := .type "builtin_function_or_method", data := .fields #[.builtin id, .ref a] }
theorem lk_md_get : typeLookup (.type "method_descriptor") "__get__" = pure (some (.builtin "method_descriptor.__get__")) := by rw [typeLookup_type, builtinLookup_eq_fast]; kernel_rfl
theorem lk_md_set : typeLookup (.type "method_descriptor") "__set__" = pure none := by rw [typeLookup_type, builtinLookup_eq_fast]; kernel_rfl
theorem lk_md_del : typeLookup (.type "method_descriptor") "__delete__" = pure none := by rw [typeLookup_type, builtinLookup_eq_fast]; kernel_rfl
theorem sub_list_object : isSubtype (.type "list") (.type "object") = pure true := by rw [isSubtype_type]; kernel_rfl
theorem sub_list_list : isSubtype (.type "list") (.type "list") = pure true := by rw [isSubtype_type]; kernel_rfl
theorem slot_mdget : Slot "method_descriptor" "__get__" "method_descriptor.__get__" :=
  .of (owner := "method_descriptor") (n := "__get__") lk_md_get (by decide +kernel) (by decide +kernel) (by decide +kernel)
    (by first | exact .inl (by decide +kernel) | exact .inr (by decide +kernel)) (by rw [isSubtype_type]; kernel_rfl)
theorem args_mdget (a b c : Value) : argsOk "method_descriptor.__get__" ⟨[a, b, c], []⟩ := by unfold argsOk; kernel_rfl
theorem entry_mdget : entryFor table "method_descriptor.__get__" = some Builtin.«method_descriptor.__get__» := entryFor_of_tree (by kernel_rfl)
theorem run_mdget {M : Model} {A : Around} {E : Value → Shared → Prop} {s : Shared} {a : Addr} {P : Fin → Shared → Prop} (hT : s.TypeIs (.ref a) "list") (h : P (.done (.ret (.ref s.heap.objs.size))) { s with heap := s.heap.push (bfObj "list.append" a) }) :
    wpAny M A (Builtin.«method_descriptor.__get__» ⟨[.builtin "list.append", .ref a, .type "list"], []⟩) P E s := by
  unfold Builtin.«method_descriptor.__get__»
  refine wpAny_bind (wpAny_of_eq (a := (.builtin "list.append", some (.ref a), some (.type "list"))) (by first | rfl | kernel_rfl) ?_)
  dsimp only
  rw [if_neg (by decide +kernel)]
  refine wpAny_bind ?_
  refine wpAny_bind (wpAny_of_eq (a := (("append" : Str), .type "list")) (by first | rfl | kernel_rfl) ?_)
  refine wpAny_bind (wpAny_isInstance (T := "list") (b := true) hT sub_list_list ?_)
  rw [if_neg (by decide)]
  refine wpAny_pure ?_
  exact wpAny_bind (wpAny_newObj_type (wpAny_pure h))
section
variable {Z : Sur} {h h' : Heap} {l l' : Led} {k : Nat} {env : Env}
theorem w_listAppend {a : Addr} {xs : List Value} {e : Bool} {Q : Value → Heap → Prop} (D : St Z h l) (hm : (a, .lst xs) ∈ l) (q : ∀ m h', St Z h' ((m, .obj (bfObj "list.append" a)) :: l) → Q (.ref m) h') :
    W Z k (getAttr (.ref a) "append" e) Q h := .mk fun tk => by
  obtain ⟨n, hg⟩ := D.at_ _ hm
  have hT : ∀ tk, (Z.st h tk).TypeIs (.ref a) "list" := fun tk => ⟨_, hg, rfl⟩
  unfold getAttr getAttrBy
  refine wpAny_bind (wpAny_mkText (wpAny_holding (wpAny_bind (wpAny_typeOf (hT _) (wpAny_bind (wpAny_of_eq PySem.F.slot_list_getattribute.lookup ?_))))))
  show wpAny _ _ (getAttrByItsOwn _ _ _ _ _ _) _ _ _
  unfold getAttrByItsOwn
  refine wpAny_bind (wpAny_pure (wpAny_bind (wpAny_attempt ?_)))
  show wpAny _ _ (callGetattribute _ _ _ _) _ _ _
  have hc : callGetattribute (.ref a) (.str "append" tk) (.builtin "list.__getattribute__") e = boundAndCalled (.builtin "list.__getattribute__") (.ref a) (.str "append" tk) := by
    unfold callGetattribute; cases e <;> rfl
  show wpAny _ _ (callGetattribute (.ref a) (.str "append" tk) (.builtin "list.__getattribute__") e) _ _ _
  rw [hc]
  unfold boundAndCalled
  refine wpAny_bind (wpAny_of_eq (PySem.F.slot_list_getattribute.bind _) ?_)
  refine wpAny_call_entry PySem.F.slot_list_getattribute (hT _) PySem.F.entry_list_ga ?_ (PySem.F.args_list_getattribute_2 _ _)
  unfold Builtin.«object.__getattribute__»
  refine wpAny_bind (wpAny_pure (wpAny_bind (wpAny_pure (wpAny_bind (wpAny_typeOf (hT _) (wpAny_bind ?_))))))
  unfold Builtin.ObjectAttr.find
  refine wpAny_bind (wpAny_of_eq PySem.F.slot_list_append.lookup (wpAny_bind ?_))
  have hsp : ∀ {nm : Str} {v : Option Value} {A : Around} {E : Value → Shared → Prop} {s : Shared} {R : Option Value → Shared → Prop}, typeLookup (.type "method_descriptor") nm = pure v → R v s → wpAny (model Z.prog Z.w) A (specialOf (.builtin "list.append") nm) R E s := by
    intro nm v A E s R e r
    unfold specialOf
    refine wpAny_bind (wpAny_of_eq PySem.F.type_list_append ?_)
    exact wpAny_of_eq e r
  show wpAny _ _ (specialOf (.builtin "list.append") "__get__") _ _ _
  refine hsp lk_md_get ?_
  refine wpAny_bind ?_
  show wpAny _ _ (do if ← Builtin.ObjectAttr.takesStores (.builtin "list.append") then _ else _) _ _ _
  refine wpAny_bind ?_
  unfold Builtin.ObjectAttr.takesStores
  refine wpAny_bind (hsp lk_md_set ?_)
  simp only [Option.isSome_none, Bool.false_eq_true, if_false]
  refine wpAny_bind (hsp lk_md_del ?_)
  refine wpAny_pure ?_
  simp only [Option.isSome_none, Bool.false_eq_true, if_false]
  refine wpAny_pure ?_
  dsimp only
  unfold Builtin.ObjectAttr.ownThenClass
  refine wpAny_bind ?_
  show wpAny _ _ (do Builtin.ObjectAttr.inDict "append" (← Builtin.ObjectAttr.ownDict a)) _ _ _
  refine wpAny_bind ?_
  unfold Builtin.ObjectAttr.ownDict
  refine wpAny_bind (wpAny_loadPart hg ?_)
  unfold instanceDict
  refine wpAny_bind (wpAny_loadPart hg ?_)
  refine wpAny_of_eq (a := (none : Option Addr)) rfl ?_
  refine wpAny_of_eq (a := (none : Option Value)) rfl ?_
  dsimp only
  refine wpAny_bind (wpAny_of_eq (a := ()) rfl ?_)
  refine wpAny_bind (wpAny_rule (wpAny_pure ?_))
  dsimp only
  show wpAny _ _ (holding [.builtin "list.append"] (call (.builtin "method_descriptor.__get__") [.builtin "list.append", .ref a, .type "list"]) >>= fun v => ret v) _ _ _
  refine wpAny_bind (wpAny_holding (wpAny_call_entry slot_mdget PySem.F.type_list_append entry_mdget (run_mdget (hT _) ⟨_, rfl, ?_⟩) (args_mdget _ _ _)))
  exact wpAny_pure ⟨_, rfl, handed_on rfl ⟨_, _, rfl, q _ _ (D.alloc rfl)⟩⟩
theorem sig_append : Manifest.signature? "list.append" = some ⟨.oneArg, "list.append", "append", .self, [⟨"object", .posOnly, true⟩]⟩ := by kernel_rfl
theorem kind_append : builtinKind "list.append" = some .method := by kernel_rfl
theorem va_append : Manifest.varargsMethods.contains "list.append" = false := by decide +kernel
theorem sub_list_module : isSubtype (.type "list") (.type "module") = pure false := by rw [isSubtype_type]; kernel_rfl
theorem sub_list_type : isSubtype (.type "list") (.type "type") = pure false := by rw [isSubtype_type]; kernel_rfl
theorem check_append {M : Model} {A : Around} {E : Value → Shared → Prop} {s : Shared} {a : Addr} {v : Value} {items : Array Value} {n : Nat} {R : Unit → Shared → Prop} (ho : s.heap.get? a = some { cls := .type "list", data := .seq items n }) (r : R () s) : wpAny M A (checkBoundCall "list.append" ⟨[.ref a, v], []⟩) R E s := by
  have hT : s.TypeIs (.ref a) "list" := ⟨_, ho, rfl⟩
  unfold checkBoundCall
  rw [sig_append, kind_append]
  dsimp only
  rw [if_neg (by decide)]
  refine wpAny_bind (wpAny_isInstance (T := "list") (b := false) hT sub_list_module ?_)
  rw [va_append]
  simp only [Bool.or_false, Bool.false_eq_true, if_false]
  have hty : ∀ {R : Bool → Shared → Prop}, R false s → wpAny M A (isType (.ref a)) R E s := by
    intro R r
    unfold isType
    exact wpAny_bind (wpAny_loadPart ho (wpAny_pure r))
  refine wpAny_bind (hty ?_)
  simp only [Bool.false_eq_true, if_false]
  refine wpAny_bind (wpAny_typeOf hT ?_)
  dsimp only
  exact wpAny_of_eq (a := ()) (by kernel_rfl) r
theorem w_callAppend {a m : Addr} {xs : List Value} {v : Value} {Q : Value → Heap → Prop} (D : St Z h l) (hm : (m, .obj (bfObj "list.append" a)) ∈ l) (U : Upd l a (.lst xs) (.lst (xs ++ [v])) l') (hz : xs.length ≤ 1000000) (q : ∀ h', St Z h' l' → Q .none h') :
    W Z k (call (.ref m) [v]) Q h := .mk fun tk => by
  have ho := D.get hm
  obtain ⟨n, hg⟩ := D.at_ _ U.mem
  have hl : ∃ n, (Z.st h tk).heap.get? a = some { cls := .type "list", data := .seq xs.toArray n } := ⟨n, hg⟩
  refine wpAny_call (codeAny_of_tree ?_)
  show wpAny _ _ (callAny (.ref m) ⟨[v], []⟩) _ _ _
  simp only [callAny]
  refine wpAny_bind (wpAny_load ho ?_)
  simp only [show (Value.type "builtin_function_or_method" == Value.type "method" || Value.type "builtin_function_or_method" == Value.type "builtin_function_or_method" || Value.type "builtin_function_or_method" == Value.type "method-wrapper") = true by decide, if_true]
  refine wpAny_ite_true (by rfl) ?_
  refine wpAny_bind (check_append hg ?_)
  refine wpAny_bind (wpAny_pure (wpAny_pure ?_))
  refine ⟨Code.quiet_builtin _ (by decide +kernel), codeAny_builtin PySem.F.entry_list_append ?_⟩
  show wpAny _ _ (updateSeq a (·.push v) >>= fun _ => ret .none) _ _ _
  refine wpAny_bind ?_
  have e : Obj.mapSeq (·.push v) { cls := .type "list", data := .seq xs.toArray n } = { cls := .type "list", data := .seq (xs ++ [v]).toArray (n + 1) } := by
    rw [Obj.mapSeq_push_plain]; simp
  have fin : (h.update a (Obj.mapSeq (·.push v))).get? a = some { cls := .type "list", data := .seq (xs ++ [v]).toArray (n + 1) } := by
    rw [Heap.get?_update_self _ hg (by rw [e]; rfl), e]
  refine wpAny_updateSeq hg rfl (wpAny_pure ⟨_, tk, rfl, q _ (D.upd U (Heap.SameBut.update ..) ⟨n + 1, fin⟩)⟩) (by simp [sizeLine_eq]; omega) (by simp [sizeLine_eq]; omega)
theorem w_withFields {pos : Pos} {m a : Addr} {id : String} {first : List Value} {args : List (Bool × Sem Value)} {Q : Value → Heap → Prop} (hp : args.any (·.1) = false)
    (q : W Z k (spliced args) (fun vs h' => h'.get? m = some (bfObj id a) ∧ W Z k (PySem.call (.ref m) (first ++ vs)) Q h') h) : W Z k (callWith pos (.ref m) first args []) Q h := .mk fun tk => by
  unfold callWith
  refine wpAny_bind (wpAny_holding ((w_evalArgs (Q := fun x h' => h'.get? m = some (bfObj id a) ∧ W Z k (PySem.call (.ref m) (first ++ x.pos) x.kw) Q h') hp q).cps (fun x h₁ tk₁ w => wpAny_bind (wpAny_standAt ?_)) tk))
  obtain ⟨ho, hcall⟩ := w
  simp only [hp, List.any_nil, Bool.or_false]
  refine wpAny_bind (m := keeperOf (.ref m)) ?_
  unfold keeperOf
  refine wpAny_bind (wpAny_load ho ?_)
  simp only [show (Value.type "builtin_function_or_method" != Value.type "method") = true by decide, show (Value.type "builtin_function_or_method" == Value.type "builtin_function_or_method" || Value.type "builtin_function_or_method" == Value.type "method-wrapper") = true by decide, if_true]
  refine wpAny_pure ?_
  exact wpAny_bind (wpAny_mono (hcall.run _) (fun r s₂ hr => wpAny_bind (wpAny_holding (wpAny_point (wpAny_pure hr)))) fun _ _ x => x)
end
end Mine

namespace Mine
theorem join_one (x y : Str) : Txt.join x [y] = y := by first | rfl | (unfold Txt.join; rfl)
theorem joinOk_one {x y : Str} (hx : x.length ≤ 1000) (hy : y.length ≤ 1000) : JoinOk x [y] = true := by
  unfold JoinOk Builtin.Str.tooLong
  simp [sizeLine_eq]; omega
namespace L2
local macro_rules | `(tactic| walk_at "mem") => `(tactic| first | exact List.Mem.head _ | (refine List.Mem.tail _ ?_; walk_at "mem"))
local macro_rules | `(tactic| walk_at "upd") => `(tactic| first | exact Upd.here | (apply Upd.there; walk_at "upd"))
local macro_rules | `(tactic| walk_at "put") => `(tactic| first | exact Put.here | (apply Put.there; walk_at "put"))
local macro_rules | `(tactic| walk_at "pick") => `(tactic| first | exact Pick.here | (apply Pick.there; walk_at "pick"))
local macro_rules | `(tactic| walk_at "name") => `(tactic| first
  | refine w_localName (by assumption) (by walk_at "mem") (by walk_at "mem") ?_ rfl rfl rfl
  | refine w_freeName (by assumption) (by walk_at "mem") ?_ rfl rfl rfl rfl rfl
  | refine w_cellName (by assumption) (by walk_at "mem") ?_ rfl rfl rfl rfl)
local macro_rules | `(tactic| walk_at "load") => `(tactic| refine W.loadLocal (by assumption) (by walk_at "mem") (by walk_at "mem") rfl rfl ?_)
local macro_rules | `(tactic| walk_at "store") => `(tactic| (refine w_store (by assumption) (by walk_at "mem") (by walk_at "put") (by walk_at "upd") rfl rfl ?_))
local macro_rules | `(tactic| walk_at "bi") => `(tactic| refine w_bi (by assumption) (by assumption) (by walk_at "mem") ?_ rfl rfl rfl rfl rfl)
local macro_rules | `(tactic| walk_at "gl") => `(tactic| refine w_gl (by assumption) (by assumption) (by walk_at "mem") ?_ rfl rfl rfl rfl)

abbrev eFrame (cs T : List Nat) (t1 t2 t3 t4 t5 : Tok) (eb m : Addr) (line start last stop room q : Option Value) : Ob :=
  .ns [("body", some (.str (S T) t1)), ("maxlinelen", some (.int 76 t2)), ("eol", some (.str (S [10]) t3)), ("soft_break", some (.str (S [61, 10]) t4)), ("maxlinelen1", some (.int 75 t5)), ("encoded_body", some (.ref eb)), ("append", some (.ref m)), ("line", line), ("start", start), ("laststart", last), ("stop", stop), ("room", room), ("q", q)]
theorem enc_spec {Z : Sur} {h : Heap} {l : Led} {k : Nat} {cs : List Nat} {z : Nat} {t : Tok} {Q : Value → Heap → Prop} (F : Facts Z) (D : St Z h l) (hk : k < 55) (hne : cs ≠ []) (hc : ∀ c ∈ cs, c < 256) (hlen : (cs.flatMap encS).length ≤ 76) (hcl : cs.length ≤ 1000)
    (hnb : ∀ c ∈ cs.flatMap encS, Unicode.isLineBreak c = false) (hz : (cs.flatMap encS).getLast? = some z) (hz1 : z ∉ [32, 9]) (hz2 : z ∉ [13, 10])
    (q : ∀ h' t', St Z h' l → Q (.str (S (cs.flatMap encS)) t') h') : W Z k (call (.ref 99) [.str (S cs) t]) Q h := by
  obtain ⟨ta, tb, hdef⟩ := F.dEnc
  obtain ⟨n88, vs88, h88, hv88⟩ := F.tEnc.get
  obtain ⟨tcr, hcr⟩ := F.gCRLF
  have hTne : cs.flatMap encS ≠ [] := fun e => by rw [e] at hz; cases hz
  have hTpos : 0 < (cs.flatMap encS).length := List.length_pos_iff.mpr hTne
  refine W.call (c_callTop [("body", .str (S cs) t), ("maxlinelen", .int 76 ta), ("eol", .str (S [10]) tb)] ["body", "maxlinelen", "eol"] ["soft_break", "maxlinelen1", "encoded_body", "append", "line", "start", "laststart", "stop", "room", "q"]
    [("body", some (.str (S cs) t)), ("maxlinelen", some (.int 76 ta)), ("eol", some (.str (S [10]) tb)), ("soft_break", none), ("maxlinelen1", none), ("encoded_body", none), ("append", none), ("line", none), ("start", none), ("laststart", none), ("stop", none), ("room", none), ("q", none)]
    F.g D F.enc rfl (Binds.dflt D hdef rfl rfl rfl) rfl rfl rfl rfl (by decide) (by omega) rfl rfl rfl ?_)
  intro L h D
  refine w_execs_cons ?_
  refine w_If ?_
  refine w_isCompare ?_ rfl
  walk_at "name"
  refine w_int fun t1 => ?_
  refine w_ltInt ?_
  refine w_truthy_bool ?_
  rw [if_neg (by decide)]
  refine w_execs_nil ?_
  refine w_execs_cons ?_
  refine w_If ?_
  refine w_isNot ?_
  refine w_isValue rfl ?_
  walk_at "name"
  refine w_truthyStr (by rw [S_len, sizeLine_eq]; omega) ?_
  have hpos : 0 < cs.length := List.length_pos_iff.mpr hne
  rw [show (((S cs).length : Int) != 0) = true by rw [S_len, bne_iff_ne]; omega, if_neg (by decide)]
  refine w_execs_nil ?_
  refine w_execs_cons ?_
  refine w_AssignName ?_ rfl
  refine w_CallMeth rfl rfl rfl ?_
  walk_at "name"
  intro pl
  refine w_strMethod PySem.F.slot_str_translate PySem.F.type_str_translate ?_
  refine w_withBuiltin rfl ?_
  refine w_arg rfl ?_
  walk_at "gl"
  refine w_arg_nil ?_
  refine w_translate (e := encS) D ⟨_, D.top h88 F.tEnc.na, rfl, _, rfl⟩ hne ?_ hcl fun t2 => ?_
  · intro c hcm
    have hlt := hc c hcm
    refine ⟨by omega, hv88 c hlt, ?_, ?_⟩
    · unfold encS; split <;> simp [esc]
    · unfold encS; split <;> simp [esc]
  walk_at "store"; intro h D
  refine w_execs_cons ?_
  refine w_AssignName ?_ rfl
  refine w_BinOp ?_
  refine w_str fun t3 => ?_
  walk_at "name"
  refine w_addStr (by rw [S_len, sizeLine_eq]; decide) fun t4 => ?_
  rw [show Str.ofString "=" ++ S [10] = S [61, 10] from rfl]
  walk_at "store"; intro h D
  refine w_execs_cons ?_
  refine w_AssignName ?_ rfl
  refine w_BinOp ?_
  walk_at "name"
  refine w_int fun t5 => ?_
  refine w_subInt fun t6 => ?_
  walk_at "store"; intro h D
  refine w_execs_cons ?_
  refine w_AssignName ?_ rfl
  refine w_List ?_
  refine w_arg_nil ?_
  refine ⟨by decide, _, D, fun eb h D => ?_⟩
  walk_at "store"; intro h D
  refine w_execs_cons ?_
  refine w_AssignName ?_ rfl
  refine w_Attribute ?_ rfl
  walk_at "name"
  refine w_listAppend D (by walk_at "mem") ?_
  intro m h D
  walk_at "store"; intro h D
  refine w_execs_cons ?_
  refine w_For (fun _ => rfl) ?_
  refine w_CallMeth rfl rfl rfl ?_
  walk_at "name"
  intro pl
  refine w_strMethod PySem.F.slot_str_splitlines PySem.F.type_str_splitlines ?_
  refine w_withBuiltin rfl ?_
  refine w_arg_nil ?_
  refine w_splitlines D (by rw [S_len, sizeLine_eq]; omega) (by rw [cuts_one hTne hnb, sizeLine_eq]; simp) ?_
  intro a ps h hps D
  rw [lines_one hTne hnb] at hps
  obtain ⟨tl, rfl⟩ : ∃ tl, ps = [(S (cs.flatMap encS), tl)] := by
    match ps, hps with
    | [(x, tl)], hps =>
      simp only [List.map_cons, List.map_nil, List.cons.injEq, and_true] at hps
      exact ⟨tl, by rw [hps]⟩
  refine w_iterList D (by walk_at "mem") ?_
  intro it h D
  refine c_forLoop (fun n h => (n = 1 ∧ St Z h ((it, liOb a 0) :: (a, .lst [.str (S (cs.flatMap encS)) tl]) :: (m, .obj (bfObj "list.append" eb)) :: (eb, .lst []) :: (L, eFrame cs (cs.flatMap encS) t2 ta tb t4 t6 eb m none none none none none none) :: l)) ∨
    (n = 0 ∧ ∃ tx li st ls, St Z h ((it, liOb a 1) :: (a, .lst [.str (S (cs.flatMap encS)) tl]) :: (m, .obj (bfObj "list.append" eb)) :: (eb, .lst [.str (S (cs.flatMap encS)) tx]) :: (L, eFrame cs (cs.flatMap encS) t2 ta tb t4 t6 eb m li st ls none none none) :: l))) ?_ 1 (.inl ⟨rfl, D⟩) (fun _ => rfl)
  clear D
  rintro n h (⟨rfl, D⟩ | ⟨rfl, tx, li, st, ls, D⟩)
  · refine w_nextList D (by walk_at "mem") rfl (by walk_at "upd") ?_
    intro h D
    dsimp only
    refine w_assignName ?_
    walk_at "store"; intro h D
    refine w_execs_cons ?_
    refine w_AssignName ?_ rfl
    refine w_int fun t7 => ?_
    walk_at "store"; intro h D
    refine w_execs_cons ?_
    refine w_AssignName ?_ rfl
    refine w_BinOp ?_
    refine w_BinOp ?_
    refine w_Call rfl ?_
    walk_at "bi"
    refine w_withBuiltin rfl ?_
    refine w_arg rfl ?_
    walk_at "name"
    refine w_arg_nil ?_
    refine w_lenStr (by rw [S_len, sizeLine_eq]; omega) fun t8 => ?_
    refine w_int fun t9 => ?_
    refine w_subInt fun t10 => ?_
    walk_at "name"
    refine w_subInt fun t11 => ?_
    rw [S_len]
    walk_at "store"; intro h D
    refine w_execs_cons ?_
    refine w_While ?_
    refine c_whileLoop (fun n' h' => h' = h) ?_ 0 rfl
    rintro n' h' rfl
    refine w_isCompare ?_ rfl
    walk_at "name"
    walk_at "name"
    refine w_leInt ?_
    refine w_truthy_bool ?_
    rw [decide_eq_false (by omega), if_neg (by decide)]
    refine w_execs_nil ?_
    refine w_execs_cons ?_
    refine w_If ?_
    refine w_isBool ?_
    refine w_and_cons ?_
    refine w_isValue rfl ?_
    walk_at "name"
    refine w_truthyStr (by rw [S_len, sizeLine_eq]; omega) ?_
    rw [show (((S (cs.flatMap encS)).length : Int) != 0) = true by rw [S_len, bne_iff_ne]; omega, if_pos rfl]
    refine w_and_cons ?_
    refine w_isCompare ?_ rfl
    refine w_Subscript ?_
    walk_at "name"
    refine w_UnaryOp rfl ?_
    refine w_int fun t12 => ?_
    refine w_negInt fun t13 => ?_
    refine w_subStrLast hz (fun t14 => ?_) rfl (fun _ => rfl)
    refine w_str fun t15 => ?_
    refine w_inStr ?_
    rw [show Str.ofString " \t" = S [32, 9] from rfl, in_one, decide_eq_false hz1]
    refine w_truthy_bool ?_
    rw [if_neg (by decide), if_neg (by decide)]
    refine w_execs_cons ?_
    refine w_Expr ?_ rfl rfl
    refine w_Call rfl ?_
    walk_at "name"
    refine w_withFields (id := "list.append") (a := eb) rfl ?_
    refine w_arg rfl ?_
    refine w_SubSlice ?_ (fun _ _ => rfl)
    walk_at "name"
    refine w_part_some ?_
    walk_at "name"
    refine w_part_none ?_
    refine ⟨_, _, _, some ((0 : Int), t7), none, D, rfl, rfl, rfl, (by rw [S_len, sizeLine_eq]; omega), fun t16 h D => ?_⟩
    rw [show Txt.slice (S (cs.flatMap encS)) (Option.map (·.1) (some ((0 : Int), t7))) (Option.map (·.1) (none : Option (Int × Tok))) = S (cs.flatMap encS) from (slice_from _ 0 (Nat.zero_le _)).trans (by rw [List.drop_zero])]
    refine w_arg_nil ?_
    refine ⟨D.get (by walk_at "mem"), ?_⟩
    refine w_callAppend D (by walk_at "mem") (by walk_at "upd") (by decide) ?_
    intro h D
    refine w_execs_nil ?_
    refine w_execs_nil ?_
    exact ⟨0, by decide, .inr ⟨rfl, _, _, _, _, D⟩⟩
  · refine w_endList (i := 1) D (by walk_at "mem") (Nat.le_refl _) (by walk_at "pick") ?_
    intro h D
    dsimp only
    refine w_execs_nil ?_
    refine w_execs_cons ?_
    refine w_If ?_
    refine w_isCompare ?_ rfl
    refine w_Subscript ?_
    walk_at "name"
    refine w_UnaryOp rfl ?_
    refine w_int fun t12 => ?_
    refine w_negInt fun t13 => ?_
    refine w_subStrLast hz (fun t14 => ?_) rfl (fun _ => rfl)
    refine w_global F.g D hcr ?_ rfl rfl rfl rfl
    refine w_inStr ?_
    rw [in_one, decide_eq_false hz2]
    refine w_truthy_bool ?_
    rw [if_neg (by decide)]
    refine w_execs_nil ?_
    refine w_execs_cons ?_
    refine w_Return ?_
    refine w_CallMeth rfl rfl rfl ?_
    walk_at "name"
    intro pl
    refine w_strMethod PySem.F.slot_str_join PySem.F.type_str_join ?_
    refine w_withBuiltin rfl ?_
    refine w_arg rfl ?_
    walk_at "name"
    refine w_arg_nil ?_
    refine w_join (ps := [(S (cs.flatMap encS), tx)]) D (by walk_at "mem") (joinOk_one (by rw [S_len]; decide) (by rw [S_len]; omega)) fun t17 => ?_
    rw [show ([(S (cs.flatMap encS), tx)] : List (Str × Tok)).map (·.1) = [S (cs.flatMap encS)] from rfl, join_one]
    exact q _ _ D.tail.tail.tail.tail
end L2
end Mine

namespace Mine
def figs (o : Nat) : List Nat := [L2.hexU (o / 16), L2.hexU (o % 16)]
def rep3 : Nat → List Nat
  | 0 => []
  | n + 1 => 51 :: 68 :: rep3 n
/-- a pile's word -/
def pil (s o : Nat) : Nat → List Nat
  | 0 => [s, o]
  | p + 1 => s :: 61 :: (rep3 p ++ figs o)
def signs : List Nat := [97, 32, 35, 34, 92, 9]
structure SO (s o : Nat) : Prop where
  s : s ∈ signs
  lt : o < 256
  nb : L2.bare o = false
theorem rep3_len (n : Nat) : (rep3 n).length = 2 * n := by
  induction n with
  | zero => rfl
  | succ n ih => simp only [rep3, List.length_cons, ih]; omega
theorem pil_len (s o p : Nat) : (pil s o p).length = if p = 0 then 2 else 2 * p + 2 := by
  cases p with
  | zero => rfl
  | succ p => simp [pil, rep3_len, figs]; omega
theorem hexU_spec : ∀ n, n < 16 → L2.hexU n ∈ hexd ∧ L2.bare (L2.hexU n) = true ∧ Unicode.isLineBreak (L2.hexU n) = false ∧ Unicode.isSpace (L2.hexU n) = false ∧ L2.hexU n ≠ 61 ∧ hexv (L2.hexU n) = n ∧ L2.hexU n < 128 ∧ L2.hexU n ∉ [32, 9] ∧ L2.hexU n ∉ [13, 10] := by decide +kernel
theorem sign_spec : ∀ s ∈ signs, L2.bare s = true ∧ Unicode.isLineBreak s = false ∧ s ≠ 61 ∧ s < 128 := by decide +kernel
theorem rep3_mem {n c : Nat} (h : c ∈ rep3 n) : c = 51 ∨ c = 68 := by
  induction n with
  | zero => cases h
  | succ n ih =>
    simp only [rep3, List.mem_cons] at h
    rcases h with rfl | rfl | h
    · exact .inl rfl
    · exact .inr rfl
    · exact ih h
section
variable {s o p : Nat}
theorem figs_mem {c : Nat} (h : c ∈ figs o) (ho : o < 256) : ∃ n, n < 16 ∧ c = L2.hexU n := by
  simp only [figs, List.mem_cons, List.not_mem_nil, or_false] at h
  rcases h with rfl | rfl
  · exact ⟨o / 16, by omega, rfl⟩
  · exact ⟨o % 16, by omega, rfl⟩
theorem tail_mem {c : Nat} (h : c ∈ rep3 p ++ figs o) (ho : o < 256) : ∃ n, n < 16 ∧ c = L2.hexU n := by
  rcases List.mem_append.mp h with h | h
  · rcases rep3_mem h with rfl | rfl
    · exact ⟨3, by decide, rfl⟩
    · exact ⟨13, by decide, rfl⟩
  · exact figs_mem h ho
theorem flat_bare {cs : List Nat} (h : ∀ c ∈ cs, L2.bare c = true) : cs.flatMap L2.encS = cs := by
  induction cs with
  | nil => rfl
  | cons c cs ih =>
    rw [List.flatMap_cons, ih fun d hd => h d (.tail _ hd)]
    unfold L2.encS
    rw [if_pos (h c (.head _))]
    rfl
theorem enc_pil (K : SO s o) : (pil s o p).flatMap L2.encS = pil s o (p + 1) := by
  have hs : L2.encS s = [s] := by unfold L2.encS; rw [if_pos (sign_spec s K.s).1]
  cases p with
  | zero =>
    have ho : L2.encS o = 61 :: figs o := by unfold L2.encS; rw [K.nb]; rfl
    simp [pil, hs, ho, rep3]
  | succ p =>
    have h6 : L2.encS 61 = [61, 51, 68] := by decide
    have ht : (rep3 p ++ figs o).flatMap L2.encS = rep3 p ++ figs o := flat_bare fun c hc => by
      obtain ⟨n, hn, rfl⟩ := tail_mem hc K.lt
      exact (hexU_spec n hn).2.1
    show (s :: 61 :: (rep3 p ++ figs o)).flatMap L2.encS = s :: 61 :: (rep3 (p + 1) ++ figs o)
    rw [List.flatMap_cons, List.flatMap_cons, ht, hs, h6]
    rfl
theorem pil_lt (K : SO s o) : ∀ c ∈ pil s o p, c < 256 := by
  have hs := (sign_spec s K.s).2.2.2
  intro c hc
  cases p with
  | zero =>
    simp only [pil, List.mem_cons, List.not_mem_nil, or_false] at hc
    rcases hc with rfl | rfl
    · omega
    · exact K.lt
  | succ p =>
    simp only [pil, List.mem_cons] at hc
    rcases hc with rfl | rfl | hc
    · omega
    · decide
    · obtain ⟨n, hn, rfl⟩ := tail_mem hc K.lt
      have := (hexU_spec n hn).2.2.2.2.2.2.1
      omega
theorem pil_nb (K : SO s o) : ∀ c ∈ pil s o (p + 1), Unicode.isLineBreak c = false := by
  intro c hc
  simp only [pil, List.mem_cons] at hc
  rcases hc with rfl | rfl | hc
  · exact (sign_spec _ K.s).2.1
  · decide +kernel
  · obtain ⟨n, hn, rfl⟩ := tail_mem hc K.lt
    exact (hexU_spec n hn).2.2.1
theorem pil_last : (pil s o (p + 1)).getLast? = some (L2.hexU (o % 16)) := by
  show (s :: 61 :: (rep3 p ++ [L2.hexU (o / 16), L2.hexU (o % 16)])).getLast? = _
  rw [show s :: 61 :: (rep3 p ++ [L2.hexU (o / 16), L2.hexU (o % 16)]) = (s :: 61 :: (rep3 p ++ [L2.hexU (o / 16)])) ++ [L2.hexU (o % 16)] by simp]
  exact List.getLast?_concat
theorem rstr_pil (K : SO s o) : rstr (pil s o (p + 1)) = pil s o (p + 1) := by
  show rstr (s :: 61 :: (rep3 p ++ [L2.hexU (o / 16), L2.hexU (o % 16)])) = s :: 61 :: (rep3 p ++ [L2.hexU (o / 16), L2.hexU (o % 16)])
  rw [show s :: 61 :: (rep3 p ++ [L2.hexU (o / 16), L2.hexU (o % 16)]) = (s :: 61 :: (rep3 p ++ [L2.hexU (o / 16)])) ++ [L2.hexU (o % 16)] by simp]
  exact rstr_none (hexU_spec _ (by omega)).2.2.2.1
theorem decE_tail {cs : List Nat} (h : ∀ c ∈ cs, c ≠ 61) (hne : cs ≠ []) : decE [10] cs = cs ++ [10] := by
  induction cs with
  | nil => exact absurd rfl hne
  | cons c cs ih =>
    rw [decE_plain (h c (.head _))]
    by_cases h0 : cs = []
    · subst h0; rfl
    · rw [if_neg h0, ih (fun d hd => h d (.tail _ hd)) h0]; rfl
theorem dec_pil (K : SO s o) : decAll [10] [pil s o (p + 1)] = pil s o p ++ [10] := by
  have hs := (sign_spec s K.s).2.2.1
  unfold decAll decL
  rw [List.flatMap_cons, List.flatMap_nil, List.append_nil, rstr_pil K, if_neg (by simp [pil])]
  show decE [10] (s :: 61 :: (rep3 p ++ figs o)) = _
  rw [decE_plain hs, if_neg (by simp)]
  have h1 := hexU_spec (o / 16) (by have := K.lt; omega)
  have h2 := hexU_spec (o % 16) (by omega)
  cases p with
  | zero =>
    show s :: decE [10] (61 :: L2.hexU (o / 16) :: L2.hexU (o % 16) :: []) = [s, o] ++ [10]
    rw [decE_hex ⟨h1.1, h2.1⟩, if_pos rfl, h1.2.2.2.2.2.1, h2.2.2.2.2.2.1]
    rw [show 16 * (o / 16) + o % 16 = o by omega]
    rfl
  | succ p =>
    show s :: decE [10] (61 :: 51 :: 68 :: (rep3 p ++ figs o)) = _
    rw [decE_hex (by decide), if_neg (by simp [figs]), decE_tail _ (by simp [figs])]
    · show s :: 61 :: _ = _
      simp [pil]
    · intro c hc
      obtain ⟨n, hn, rfl⟩ := tail_mem hc K.lt
      exact (hexU_spec n hn).2.2.2.2.1
theorem decT_pil (K : SO s o) : decT [10] (pil s o (p + 1)) [pil s o (p + 1)] = pil s o p := by
  have h2 := hexU_spec (o % 16) (by omega)
  unfold decT
  rw [dec_pil K, pil_last, if_pos]
  · simp
  · refine ⟨fun e => ?_, fun e => ?_, by simp, by simp⟩
    · injection e with e
      have := h2.2.2.2.2.2.2.2.2
      simp [e] at this
    · injection e with e
      have := h2.2.2.2.2.2.2.2.2
      simp [e] at this
end
namespace L2
local macro_rules | `(tactic| walk_at "mem") => `(tactic| first | exact List.Mem.head _ | (refine List.Mem.tail _ ?_; walk_at "mem"))
local macro_rules | `(tactic| walk_at "upd") => `(tactic| first | exact Upd.here | (apply Upd.there; walk_at "upd"))
local macro_rules | `(tactic| walk_at "put") => `(tactic| first | exact Put.here | (apply Put.there; walk_at "put"))
local macro_rules | `(tactic| walk_at "pick") => `(tactic| first | exact Pick.here | (apply Pick.there; walk_at "pick"))
local macro_rules | `(tactic| walk_at "name") => `(tactic| first
  | refine w_localName (by assumption) (by walk_at "mem") (by walk_at "mem") ?_ rfl rfl rfl
  | refine w_freeName (by assumption) (by walk_at "mem") ?_ rfl rfl rfl rfl rfl
  | refine w_cellName (by assumption) (by walk_at "mem") ?_ rfl rfl rfl rfl)
local macro_rules | `(tactic| walk_at "load") => `(tactic| refine W.loadLocal (by assumption) (by walk_at "mem") (by walk_at "mem") rfl rfl ?_)
local macro_rules | `(tactic| walk_at "store") => `(tactic| (refine w_store (by assumption) (by walk_at "mem") (by walk_at "put") (by walk_at "upd") rfl rfl ?_))
local macro_rules | `(tactic| walk_at "bi") => `(tactic| refine w_bi (by assumption) (by assumption) (by walk_at "mem") ?_ rfl rfl rfl rfl rfl)
local macro_rules | `(tactic| walk_at "gl") => `(tactic| refine w_gl (by assumption) (by assumption) (by walk_at "mem") ?_ rfl rfl rfl rfl)

theorem encP_spec {Z : Sur} {h : Heap} {l : Led} {k s o p : Nat} {t : Tok} {Q : Value → Heap → Prop} (F : Facts Z) (D : St Z h l) (hk : k < 55) (K : SO s o) (hp : p ≤ 20) (q : ∀ h' t', St Z h' l → Q (.str (S (pil s o (p + 1))) t') h') :
    W Z k (call (.ref 99) [.str (S (pil s o p)) t]) Q h := by
  have hx := hexU_spec (o % 16) (by omega)
  refine enc_spec (z := hexU (o % 16)) F D hk ?_ (pil_lt K) ?_ ?_ ?_ ?_ ?_ ?_ ?_
  · cases p <;> simp [pil]
  · rw [enc_pil K, pil_len]; split <;> omega
  · rw [pil_len]; split <;> omega
  · rw [enc_pil K]; exact pil_nb K
  · rw [enc_pil K]; exact pil_last
  · exact hx.2.2.2.2.2.2.2.1
  · exact hx.2.2.2.2.2.2.2.2
  · rw [enc_pil K]; exact q
theorem decP_spec {Z : Sur} {h : Heap} {l : Led} {k s o p : Nat} {t : Tok} {Q : Value → Heap → Prop} (F : Facts Z) (D : St Z h l) (hk : k < 54) (K : SO s o) (hp : p ≤ 20) (q : ∀ h' t', St Z h' l → Q (.str (S (pil s o p)) t') h') :
    W Z k (call (.ref 107) [.str (S (pil s o (p + 1))) t]) Q h := by
  obtain ⟨td, hdef⟩ := F.dDec
  refine W.call (c_callTop [("encoded", .str (S (pil s o (p + 1))) t), ("eol", .str (S [10]) td)] ["encoded", "eol"] ["decoded", "line", "i", "n", "c"]
    [("encoded", some (.str (S (pil s o (p + 1))) t)), ("eol", some (.str (S [10]) td)), ("decoded", none), ("line", none), ("i", none), ("n", none), ("c", none)]
    F.g D F.dec rfl (Binds.dflt D hdef rfl rfl rfl) rfl rfl rfl rfl (by decide) (by omega) rfl rfl rfl ?_)
  intro L h D
  have hne : pil s o (p + 1) ≠ [] := by simp [pil]
  have hlen : (pil s o (p + 1)).length ≤ 100 := by rw [pil_len]; split <;> omega
  refine dec_body (lns := [pil s o (p + 1)]) F (by omega) (by decide) (by omega) hne (lines_one hne (pil_nb K)) (by rw [cuts_one hne (pil_nb K), sizeLine_eq]; simp) (fun ln hm => ?_) ?_ D ?_
  · simp only [List.mem_cons, List.not_mem_nil, or_false] at hm
    subst hm; omega
  · rw [dec_pil K, List.length_append, pil_len]; simp only [List.length_cons, List.length_nil]; split <;> omega
  · rw [decT_pil K]; exact q
end L2
end Mine

namespace Mine
section
variable {Z : Sur} {h h' : Heap} {l l' : Led} {k : Nat} {env : Env}
theorem St.extNew (D : St Z h l) (he : Heap.ExtBut h.objs.size h h') : St Z h' l := D.grow fun b o e => he b o (Nat.ne_of_lt (Heap.lt_size e)) e
theorem w_AssignTuple {elts : List Expr} {n : Nat} {tpos pos : Pos} {value : Expr} {Q : Flow → Heap → Prop} (q : W Z k (eval value env) (fun v h₁ => W Z k (assign (.Tuple elts n tpos) env v) (fun _ => Q .next) h₁) h)
    (hs : swapsWithSole [.Tuple elts n tpos] value pos.line env = pure false) (hw : swappedStores [.Tuple elts n tpos] value env = pure none) : W Z k (exec (.Assign [.Tuple elts n tpos] value pos) env) Q h := .mk fun tk =>
  Assign_Tuple (q.cps (fun v h₁ tk₁ w => w.cps (fun _ h' tk' w => ⟨h', tk', rfl, w⟩) tk₁) tk) hs hw
theorem w_assignTup {elts : List Expr} {n : Nat} {tpos : Pos} {t : Addr} {vs : List Value} {Q : Unit → Heap → Prop} (D : St Z h l) (ht : (t, .obj (tupObj vs)) ∈ l) (hn : (assignEach elts env).length = vs.length) (hstar : (assignEach elts env).findIdx? (·.1) = none)
    (q : ∀ h', St Z h' l → W Z k (assignInOrder ((assignEach elts env).map (·.2)) vs) Q h') : W Z k (assign (.Tuple elts n tpos) env (.ref t)) Q h := .mk fun tk =>
  wpAny_assign_Tuple (s := Z.st h tk) rfl ⟨_, D.get ht, rfl, _, rfl⟩ (by simpa using hn) hstar fun h' he => (q h' (D.extNew he)).run tk
theorem w_AssignSwap {elts : List Expr} {n : Nat} {tpos pos : Pos} {value : Expr} {names : List Str} {Q : Flow → Heap → Prop}
    (q : W Z k (eval value env) (fun v h₁ => ∃ t vs l, v = .ref t ∧ St Z h₁ l ∧ (t, .obj (tupObj vs)) ∈ l ∧ names.length = vs.length ∧ ∀ h₂, St Z h₂ l → W Z k (assignInOrder (names.reverse.map fun n => bindName env n) vs.reverse) (fun _ => Q .next) h₂) h)
    (hs : swapsWithSole [.Tuple elts n tpos] value pos.line env = pure false) (hw : swappedStores [.Tuple elts n tpos] value env = pure (some names)) : W Z k (exec (.Assign [.Tuple elts n tpos] value pos) env) Q h := .mk fun tk => by
  refine Assign_Tuple_swapped (names := names) (q.cps (fun v h₁ tk₁ w => ?_) tk) hs hw
  obtain ⟨t, vs, l, rfl, D, ht, hn, w⟩ := w
  have hT : (Z.st h₁ tk₁).heap.IsTuple t vs.toArray := ⟨_, D.get ht, rfl, _, rfl⟩
  rw [show names.length = vs.toArray.size by simpa using hn]
  refine wpAny_unpackItems_tuple rfl hT fun h₂ he => ?_
  exact (w h₂ (D.extNew he)).cps (fun _ h' tk' w => ⟨h', tk', rfl, w⟩) tk₁
theorem w_order_nil {Q : Unit → Heap → Prop} (q : Q () h) : W Z k (assignInOrder [] []) Q h := W.pure q
theorem w_order_cons {f : Value → Sem Unit} {fs : List (Value → Sem Unit)} {v : Value} {vs : List Value} {Q : Unit → Heap → Prop} (q : W Z k (f v) (fun _ h₁ => W Z k (assignInOrder fs vs) Q h₁) h) : W Z k (assignInOrder (f :: fs) (v :: vs)) Q h := by
  show W Z k (do PySem.holding vs (f v); assignInOrder fs vs) Q h
  exact W.bind (W.holding q)
end
end Mine

namespace Mine
section
variable {Z : Sur} {h h' : Heap} {l l' : Led} {k : Nat} {env : Env}
abbrev rAt (j n : Nat) : Ob := riOb ((j : Nat) : Int) (((n : Nat) : Int) - ((j : Nat) : Int))
theorem c_forRange {target : PySem.Expr} {it : Addr} {body orelse : List Stmt} {R : Flow → Heap → Prop} {a n : Nat} (J : Nat → Led → Prop) (hJ : J a l) (D : St Z h ((it, rAt a n) :: l)) (han : a ≤ n)
    (turn : ∀ j l h t, a ≤ j → j < n → J j l → St Z h ((it, rAt (j + 1) n) :: l) → W Z k (assign target env (.int (j : Int) t)) (fun _ h₂ => W Z k (execs body env) (fun f h₃ => match f with
      | .next | .cont => ∃ l', J (j + 1) l' ∧ St Z h₃ ((it, rAt (j + 1) n) :: l') | .brk => R .next h₃ | .ret v => R (.ret v) h₃) h₂) h)
    (fin : ∀ l h, J n l → St Z h l → W Z k (execs orelse env) R h) (ht : ∀ v, letOwnedTupleGo target (.ref it) v = PySem.Sem.pure ()) : C Z k (.forLoop target (.ref it) body orelse env) R h := by
  refine c_forLoop (fun m h => ∃ j l, m = n - j ∧ a ≤ j ∧ j ≤ n ∧ J j l ∧ St Z h ((it, rAt j n) :: l)) ?_ (n - a) ⟨a, l, rfl, Nat.le_refl _, han, hJ, D⟩ ht
  rintro m h ⟨j, l, rfl, haj, hj, hJ, D⟩
  by_cases hlt : j < n
  · refine w_nextRange D (by omega) Upd.here fun t h D => ?_
    have D : St Z h ((it, rAt (j + 1) n) :: l) := by
      have e : ((n : Nat) : Int) - ((j : Nat) : Int) - 1 = (n : Int) - ((j + 1 : Nat) : Int) := by omega
      rw [e] at D
      exact D
    refine (turn j l h t haj hlt hJ D).mono fun _ h₂ w => w.mono fun f h₃ w => ?_
    cases f with
    | next => obtain ⟨l', hJ', D'⟩ := w; exact ⟨_, by omega, j + 1, l', rfl, by omega, hlt, hJ', D'⟩
    | cont => obtain ⟨l', hJ', D'⟩ := w; exact ⟨_, by omega, j + 1, l', rfl, by omega, hlt, hJ', D'⟩
    | brk => exact w
    | ret v => exact w
  · have : j = n := by omega
    subst this
    exact w_endRange D (by omega) Pick.here fun h D => fin l h hJ D
theorem c_forList {target : PySem.Expr} {it a : Addr} {vs : List Value} {body orelse : List Stmt} {R : Flow → Heap → Prop} (J : Nat → Led → Prop) (hJ : J 0 l) (D : St Z h ((it, liOb a 0) :: (a, .lst vs) :: l))
    (turn : ∀ j v l h, vs[j]? = some v → J j l → St Z h ((it, liOb a (j + 1)) :: (a, .lst vs) :: l) → W Z k (assign target env v) (fun _ h₂ => W Z k (execs body env) (fun f h₃ => match f with
      | .next | .cont => ∃ l', J (j + 1) l' ∧ St Z h₃ ((it, liOb a (j + 1)) :: (a, .lst vs) :: l') | .brk => R .next h₃ | .ret v => R (.ret v) h₃) h₂) h)
    (fin : ∀ l h, J vs.length l → St Z h ((a, .lst vs) :: l) → W Z k (execs orelse env) R h) (ht : ∀ v, letOwnedTupleGo target (.ref it) v = PySem.Sem.pure ()) : C Z k (.forLoop target (.ref it) body orelse env) R h := by
  refine c_forLoop (fun m h => ∃ j l, m = vs.length - j ∧ j ≤ vs.length ∧ J j l ∧ St Z h ((it, liOb a j) :: (a, .lst vs) :: l)) ?_ vs.length ⟨0, l, rfl, Nat.zero_le _, hJ, D⟩ ht
  rintro m h ⟨j, l, rfl, hj, hJ, D⟩
  by_cases hlt : j < vs.length
  · obtain ⟨v, hv⟩ : ∃ v, vs[j]? = some v := ⟨_, List.getElem?_eq_getElem hlt⟩
    refine w_nextList D (.tail _ (.head _)) hv Upd.here fun h D => ?_
    refine (turn j v l h hv hJ D).mono fun _ h₂ w => w.mono fun f h₃ w => ?_
    cases f with
    | next => obtain ⟨l', hJ', D'⟩ := w; exact ⟨_, by omega, j + 1, l', rfl, hlt, hJ', D'⟩
    | cont => obtain ⟨l', hJ', D'⟩ := w; exact ⟨_, by omega, j + 1, l', rfl, hlt, hJ', D'⟩
    | brk => exact w
    | ret v => exact w
  · have : j = vs.length := by omega
    subst this
    exact w_endList (i := vs.length) D (.tail _ (.head _)) (Nat.le_refl _) Pick.here fun h D => fin l h hJ D
theorem rAt_zero (n : Nat) : riOb 0 (if (0 : Int) < (n : Int) then (n : Int) - 0 else 0) = rAt 0 n := by
  have : (if (0 : Int) < (n : Int) then (n : Int) - 0 else 0) = (n : Int) - ((0 : Nat) : Int) := by split <;> omega
  rw [this]; rfl
end
/-! turns, plainly -/
def turn (q : List Nat) : List Nat := (q.map (· - 1)).filter (· ≠ 0) ++ [q.length]
def turnN : Nat → List Nat → List Nat
  | 0, q => q
  | n + 1, q => turnN n (turn q)
theorem turnN_succ (n : Nat) (q : List Nat) : turnN (n + 1) q = turn (turnN n q) := by
  induction n generalizing q with
  | zero => rfl
  | succ n ih => exact ih (turn q)
structure Good8 (q : List Nat) : Prop where
  pos : ∀ p ∈ q, 0 < p
  sum : q.sum ≤ 8
  ne : q ≠ []
theorem len_le_sum {q : List Nat} (h : ∀ p ∈ q, 0 < p) : q.length ≤ q.sum := by
  induction q with
  | nil => simp
  | cons p q ih =>
    have := h p (.head _)
    have := ih fun r hr => h r (.tail _ hr)
    simp only [List.length_cons, List.sum_cons]; omega
theorem mem_le_sum {q : List Nat} {p : Nat} (h : p ∈ q) : p ≤ q.sum := by
  induction q with
  | nil => cases h
  | cons r q ih =>
    simp only [List.sum_cons]
    rcases List.mem_cons.mp h with rfl | h
    · omega
    · have := ih h; omega
theorem turn_sum {q : List Nat} (h : ∀ p ∈ q, 0 < p) : (turn q).sum = q.sum := by
  have : ((q.map (· - 1)).filter (· ≠ 0)).sum + q.length = q.sum := by
    induction q with
    | nil => rfl
    | cons p q ih =>
      have hp := h p (.head _)
      have := ih fun r hr => h r (.tail _ hr)
      simp only [List.map_cons, List.sum_cons, List.length_cons, List.filter_cons]
      split
      · simp only [List.sum_cons]; omega
      · rename_i h0
        have : p - 1 = 0 := by simpa using h0
        omega
  unfold turn
  rw [List.sum_append]
  simpa using this
theorem Good8.turn {q : List Nat} (G : Good8 q) : Good8 (turn q) := by
  refine ⟨fun p hp => ?_, by rw [turn_sum G.pos]; exact G.sum, by unfold Mine.turn; simp⟩
  unfold Mine.turn at hp
  rcases List.mem_append.mp hp with hp | hp
  · have := (List.mem_filter.mp hp).2
    have : p ≠ 0 := by simpa using this
    omega
  · simp only [List.mem_cons, List.not_mem_nil, or_false] at hp
    subst hp
    exact List.length_pos_iff.mpr G.ne
theorem Good8.turnN {q : List Nat} (G : Good8 q) (n : Nat) : Good8 (turnN n q) := by
  induction n generalizing q with
  | zero => exact G
  | succ n ih => exact ih G.turn
theorem Good8.len {q : List Nat} (G : Good8 q) : q.length ≤ 8 := Nat.le_trans (len_le_sum G.pos) G.sum
/-- the words of a line -/
def wv (s o : Nat) (ps : List (Nat × Tok)) : List Value := ps.map fun p => .str (S (pil s o p.1)) p.2
theorem wv_app (s o : Nat) (a b : List (Nat × Tok)) : wv s o (a ++ b) = wv s o a ++ wv s o b := by simp [wv]
theorem wv_len (s o : Nat) (a : List (Nat × Tok)) : (wv s o a).length = a.length := by simp [wv]
namespace L2
local macro_rules | `(tactic| walk_at "mem") => `(tactic| first | exact List.Mem.head _ | (refine List.Mem.tail _ ?_; walk_at "mem"))
local macro_rules | `(tactic| walk_at "upd") => `(tactic| first | exact Upd.here | (apply Upd.there; walk_at "upd"))
local macro_rules | `(tactic| walk_at "put") => `(tactic| first | exact Put.here | (apply Put.there; walk_at "put"))
local macro_rules | `(tactic| walk_at "pick") => `(tactic| first | exact Pick.here | (apply Pick.there; walk_at "pick"))
local macro_rules | `(tactic| walk_at "name") => `(tactic| first
  | refine w_localName (by assumption) (by walk_at "mem") (by walk_at "mem") ?_ rfl rfl rfl
  | refine w_freeName (by assumption) (by walk_at "mem") ?_ rfl rfl rfl rfl rfl
  | refine w_cellName (by assumption) (by walk_at "mem") ?_ rfl rfl rfl rfl)
local macro_rules | `(tactic| walk_at "load") => `(tactic| refine W.loadLocal (by assumption) (by walk_at "mem") (by walk_at "mem") rfl rfl ?_)
local macro_rules | `(tactic| walk_at "store") => `(tactic| (refine w_store (by assumption) (by walk_at "mem") (by walk_at "put") (by walk_at "upd") rfl rfl ?_))
local macro_rules | `(tactic| walk_at "bi") => `(tactic| refine w_bi (by assumption) (by assumption) (by walk_at "mem") ?_ rfl rfl rfl rfl rfl)
local macro_rules | `(tactic| walk_at "gl") => `(tactic| refine w_gl (by assumption) (by assumption) (by walk_at "mem") ?_ rfl rfl rfl rfl)

theorem St.inward {Z : Sur} {h : Heap} {X : Lex} {σ : LexS} {l : Led} (pre : Led) (D : St Z h (pre ++ (led X σ ++ l))) : St Z h (led X σ ++ (pre ++ l)) := D.perm (List.perm_append_comm_assoc pre (led X σ) l)
theorem St.outward {Z : Sur} {h : Heap} {X : Lex} {σ : LexS} {l : Led} (pre : Led) (D : St Z h (led X σ ++ (pre ++ l))) : St Z h (pre ++ (led X σ ++ l)) := D.perm (List.perm_append_comm_assoc pre (led X σ) l).symm
abbrev tFrame (X : Lex) (s o w n : Nat) (tw tb tn : Tok) (turn left pile one word : Option Value) : Ob :=
  .ns [("lexer", some (.ref X.self)), ("waiting", some (.int (w : Int) tw)), ("bare", some (.str (S [s, o]) tb)), ("count", some (.int (n : Int) tn)), ("turn", turn), ("left", left), ("pile", pile), ("one", one), ("word", word)]
def inI (X : Lex) (σ : LexS) (s o n : Nat) (tb tn : Tok) (L itO : Addr) (jO : Nat) (turn : Option Value) (l : Led) (ps : List (Nat × Tok)) (tw : Tok) (j : Nat) (l' : Led) : Prop :=
  ∃ (pd : List (Nat × Tok)) (tl tp : Tok) (one word : Option Value), pd.map (·.1) = (((ps.take j).map (·.1)).map (· - 1)).filter (· ≠ 0) ∧
    l' = (itO, rAt jO n) :: (L, tFrame X s o ps.length n tw tb tn turn (some (.int ((1 + pd.length : Nat) : Int) tl)) (some (.str (S (pil s o j)) tp)) one word) :: (led X { σ with ws := wv s o (ps.drop j ++ pd) } ++ l)
def outI (X : Lex) (σ : LexS) (s o n : Nat) (tb tn : Tok) (L : Addr) (l : Led) (q : List Nat) (j : Nat) (l' : Led) : Prop :=
  ∃ (ps : List (Nat × Tok)) (tw : Tok) (turn left pile one word : Option Value), ps.map (·.1) = turnN j q ∧ l' = (L, tFrame X s o ps.length n tw tb tn turn left pile one word) :: (led X { σ with ws := wv s o ps } ++ l)
theorem turns_spec {Z : Sur} {h : Heap} {l : Led} {k : Nat} {X : Lex} {σ : LexS} {s o n : Nat} {ps : List (Nat × Tok)} {t1 t2 t3 : Tok} {Q : Value → Heap → Prop} (F : Facts Z) (K : SO s o) (G : Good8 (ps.map (·.1))) (hn : n ≤ 1000)
    (hw : σ.ws = wv s o ps) (D : St Z h (led X σ ++ l)) (hk : k < 50)
    (q : ∀ h' (ps' : List (Nat × Tok)) t', ps'.map (·.1) = turnN n (ps.map (·.1)) → St Z h' (led X { σ with ws := wv s o ps' } ++ l) → Q (.int (ps'.length : Int) t') h') :
    W Z k (call (.ref 126) [.ref X.self, .int (ps.length : Int) t1, .str (S [s, o]) t2, .int (n : Int) t3]) Q h := by
  refine W.call (c_callTop [("lexer", .ref X.self), ("waiting", .int (ps.length : Int) t1), ("bare", .str (S [s, o]) t2), ("count", .int (n : Int) t3)] ["lexer", "waiting", "bare", "count"] ["turn", "left", "pile", "one", "word"]
    [("lexer", some (.ref X.self)), ("waiting", some (.int (ps.length : Int) t1)), ("bare", some (.str (S [s, o]) t2)), ("count", some (.int (n : Int) t3)), ("turn", none), ("left", none), ("pile", none), ("one", none), ("word", none)]
    F.g D F.tur rfl (Binds.of (by kernel_rfl)) rfl rfl rfl rfl (by decide) (by omega) rfl rfl rfl ?_)
  intro L h D
  refine w_execs_cons ?_
  refine w_For (fun _ => rfl) ?_
  refine w_Call rfl ?_
  walk_at "bi"
  refine w_withType rfl ?_
  refine w_arg rfl ?_
  walk_at "name"
  refine w_arg_nil ?_
  refine w_range1 D ?_
  intro r tr1 tr2 h D
  refine w_iterRange D (.head _) (by decide) (by omega) ?_
  intro itO h D
  rw [rAt_zero] at D
  have D := D.drop (.there .here)
  have D0 : St Z h ((itO, rAt 0 n) :: (L, tFrame X s o ps.length n t1 t2 t3 none none none none none) :: (led X { σ with ws := wv s o ps } ++ l)) := by
    rw [← hw]; exact D
  refine c_forRange (outI X σ s o n t2 t3 L l (ps.map (·.1))) ⟨ps, t1, _, _, _, _, _, rfl, rfl⟩ D0 (Nat.zero_le _) ?_ ?_ (fun _ => rfl)
  · clear D D0 hw
    rintro jO _ h tj _ hj ⟨ps, tw, tu, le, pi, on, wo, hps, rfl⟩ D
    have G1 := G.turnN jO
    rw [← hps] at G1
    have hlen : ps.length ≤ 8 := by have := G1.len; simpa using this
    refine w_assignName ?_
    walk_at "store"; intro h D
    refine w_execs_cons ?_
    refine w_AssignSwap (names := ["left", "pile"]) ?_ rfl rfl
    refine w_Tuple ?_
    refine w_arg rfl ?_
    refine w_int fun t4 => ?_
    refine w_arg rfl ?_
    walk_at "name"
    refine w_arg_nil ?_
    refine ⟨Nat.le_of_ble_eq_true rfl, _, D, fun tup h D => ?_⟩
    refine ⟨tup, _, _, rfl, D, by walk_at "mem", rfl, fun h D => ?_⟩
    have D := D.tail
    refine w_order_cons ?_
    refine w_bindName ?_
    walk_at "store"; intro h D
    refine w_order_cons ?_
    refine w_bindName ?_
    walk_at "store"; intro h D
    refine w_order_nil ?_
    refine w_execs_cons ?_
    refine w_For (fun _ => rfl) ?_
    refine w_Call rfl ?_
    walk_at "bi"
    refine w_withType rfl ?_
    refine w_arg rfl ?_
    walk_at "name"
    refine w_arg_nil ?_
    refine w_range1 D ?_
    intro r tr1 tr2 h D
    refine w_iterRange D (.head _) (by decide) (by omega) ?_
    intro it h D
    rw [rAt_zero] at D
    have D := D.drop (.there .here)
    have D0 : St Z h ((it, rAt 0 ps.length) :: (itO, rAt (jO + 1) n) :: (L, tFrame X s o ps.length n tw t2 t3 (some (.int (jO : Int) tj)) (some (.int ((1 + ([] : List (Nat × Tok)).length : Nat) : Int) t4)) (some (.str (S (pil s o 0)) t2)) on wo) :: (led X { σ with ws := wv s o (ps.drop 0 ++ []) } ++ l)) := by
      rw [List.drop_zero, List.append_nil]; exact D
    refine c_forRange (inI X σ s o n t2 t3 L itO (jO + 1) (some (.int (jO : Int) tj)) l ps tw) ⟨[], t4, t2, _, _, rfl, rfl⟩ D0 (Nat.zero_le _) ?_ ?_ (fun _ => rfl)
    · clear D D0
      rintro j _ h t5 _ hjl ⟨pd, tl, tp, on, wo, hpd, rfl⟩ D
      obtain ⟨⟨p, tpj⟩, hx⟩ : ∃ x, ps[j]? = some x := ⟨_, List.getElem?_eq_getElem hjl⟩
      have hdrop : ps.drop j = (p, tpj) :: ps.drop (j + 1) := by
        rw [List.drop_eq_getElem_cons hjl]
        rw [List.getElem?_eq_getElem hjl] at hx
        injection hx with hx
        rw [hx]
      have hmem : p ∈ ps.map (·.1) := List.mem_map.mpr ⟨(p, tpj), List.mem_of_getElem? hx, rfl⟩
      have hp0 := G1.pos p hmem
      have hp8 : p ≤ 8 := Nat.le_trans (mem_le_sum hmem) G1.sum
      obtain ⟨p', rfl⟩ : ∃ p', p = p' + 1 := ⟨p - 1, by omega⟩
      have hpdl : pd.length ≤ 8 := by
        have h1 := congrArg List.length hpd
        have h2 := List.length_filter_le (fun x : Nat => decide (x ≠ 0)) (((ps.take j).map (·.1)).map (· - 1))
        simp only [List.length_map, List.length_take] at h1 h2
        omega
      refine w_assignName ?_
      walk_at "store"; intro h D
      refine w_execs_cons ?_
      refine w_AssignName ?_ rfl
      refine w_Call rfl ?_
      walk_at "gl"
      refine w_withFunction (o := fnObj fDec) (fd := fDec) rfl ?_
      refine w_arg rfl ?_
      refine w_CallMeth rfl rfl rfl ?_
      walk_at "name"
      intro pl
      refine w_methN F.g D F.mGet (by walk_at "mem") (by walk_at "mem") rfl ?_
      refine w_withFunction (o := fnObj fGet) (fd := fGet) rfl ?_
      refine w_arg_nil ?_
      refine ⟨⟨F.get.here D, rfl⟩, ?_⟩
      refine get_wait (v := .str (S (pil s o (p' + 1))) tpj) (ws := wv s o (ps.drop (j + 1) ++ pd)) F (by rw [hdrop]; rfl) (by rw [wv_len, List.length_append, List.length_drop]; omega) (St.inward [_, _, _] D) (by omega) ?_
      intro h D
      have D := St.outward [_, _, _] D
      refine w_arg_nil ?_
      refine ⟨⟨F.dec.here D, rfl⟩, ?_⟩
      refine decP_spec F D (by omega) K (by omega) ?_
      intro h t6 D
      walk_at "store"; intro h D
      refine w_execs_cons ?_
      refine w_AssignName ?_ rfl
      refine w_Call rfl ?_
      walk_at "gl"
      refine w_withFunction (o := fnObj fEnc) (fd := fEnc) rfl ?_
      refine w_arg rfl ?_
      walk_at "name"
      refine w_arg_nil ?_
      refine ⟨⟨F.enc.here D, rfl⟩, ?_⟩
      refine encP_spec F D (by omega) K (by omega) ?_
      intro h t7 D
      walk_at "store"; intro h D
      refine w_execs_cons ?_
      refine w_If ?_
      refine w_isCompare ?_ rfl
      walk_at "name"
      walk_at "name"
      refine w_neStr ?_
      refine w_truthy_bool ?_
      have htake : ps.take (j + 1) = ps.take j ++ [(p' + 1, tpj)] := by rw [List.take_add_one, hx]; rfl
      rw [show (S (pil s o p') != S [s, o]) = decide (p' ≠ 0) by
        rw [S_ne]
        cases p' with
        | zero => simp [pil]
        | succ p' => simp [pil, figs]]
      by_cases h0 : p' = 0
      · rw [decide_eq_false (fun x => x h0), if_neg (by decide)]
        refine w_execs_nil ?_
        refine w_execs_nil ?_
        refine ⟨_, ⟨pd, tl, t7, _, _, ?_, rfl⟩, D⟩
        rw [htake, List.map_append, List.map_append, List.filter_append, hpd, h0]
        simp
      · rw [decide_eq_true h0, if_pos rfl]
        refine w_execs_cons ?_
        refine w_Expr ?_ rfl rfl
        refine w_CallMeth rfl rfl rfl ?_
        walk_at "name"
        intro pl
        refine w_methN F.g D F.mPush (by walk_at "mem") (by walk_at "mem") rfl ?_
        refine w_withFunction (o := fnObj fPush) (fd := fPush) rfl ?_
        refine w_arg rfl ?_
        walk_at "name"
        refine w_arg_nil ?_
        refine ⟨⟨F.push.here D, rfl⟩, ?_⟩
        refine push_spec F (by show (wv s o (ps.drop (j + 1) ++ pd)).length ≤ 1000; rw [wv_len, List.length_append, List.length_drop]; omega) (St.inward [_, _, _] D) (by omega) ?_
        intro h D
        have D := St.outward [_, _, _] D
        dsimp only
        refine w_execs_cons ?_
        refine w_AugName ?_
        walk_at "load"
        refine w_int fun t8 => ?_
        refine w_iaddInt fun t9 => ?_
        walk_at "store"; intro h D
        refine w_execs_nil ?_
        refine w_execs_nil ?_
        have e1 : ((1 + pd.length : Nat) : Int) + 1 = ((1 + (pd ++ [(p', t6)]).length : Nat) : Int) := by rw [List.length_append]; simp only [List.length_cons, List.length_nil]; omega
        have e2 : wv s o (ps.drop (j + 1) ++ pd) ++ [.str (S (pil s o p')) t6] = wv s o (ps.drop (j + 1) ++ (pd ++ [(p', t6)])) := by rw [← List.append_assoc, wv_app _ _ (ps.drop (j + 1) ++ pd)]; rfl
        rw [e1] at D
        refine ⟨_, ⟨pd ++ [(p', t6)], t9, t7, some (.int (j : Int) t5), some (.str (S (pil s o p')) t6), ?_, rfl⟩, ?_⟩
        · rw [htake, List.map_append, hpd]
          simp [h0]
        · rw [← e2]; exact D
    · rintro _ h ⟨pd, tl, tp, on, wo, hpd, rfl⟩ D
      rw [List.take_length] at hpd
      have hpdl : pd.length ≤ 8 := by
        have h1 := congrArg List.length hpd
        have h2 := List.length_filter_le (fun x : Nat => decide (x ≠ 0)) ((ps.map (·.1)).map (· - 1))
        simp only [List.length_map] at h1 h2
        omega
      refine w_execs_nil ?_
      refine w_execs_cons ?_
      refine w_Expr ?_ rfl rfl
      refine w_CallMeth rfl rfl rfl ?_
      walk_at "name"
      intro pl
      refine w_methN F.g D F.mPush (by walk_at "mem") (by walk_at "mem") rfl ?_
      refine w_withFunction (o := fnObj fPush) (fd := fPush) rfl ?_
      refine w_arg rfl ?_
      walk_at "name"
      refine w_arg_nil ?_
      refine ⟨⟨F.push.here D, rfl⟩, ?_⟩
      refine push_spec F (by show (wv s o (ps.drop ps.length ++ pd)).length ≤ 1000; rw [wv_len, List.length_append, List.length_drop]; omega) (St.inward [_, _] D) (by omega) ?_
      intro h D
      have D := St.outward [_, _] D
      dsimp only
      refine w_execs_cons ?_
      refine w_AssignName ?_ rfl
      walk_at "name"
      walk_at "store"; intro h D
      refine w_execs_nil ?_
      have e1 : 1 + pd.length = (pd ++ [(ps.length, tp)]).length := by rw [List.length_append]; simp only [List.length_cons, List.length_nil]; omega
      have e2 : wv s o (ps.drop ps.length ++ pd) ++ [.str (S (pil s o ps.length)) tp] = wv s o (pd ++ [(ps.length, tp)]) := by rw [List.drop_length, List.nil_append, wv_app]; rfl
      refine ⟨_, ⟨pd ++ [(ps.length, tp)], tl, some (.int (jO : Int) tj), some (.int ((1 + pd.length : Nat) : Int) tl), some (.str (S (pil s o ps.length)) tp), on, wo, ?_, rfl⟩, ?_⟩
      · rw [turnN_succ, ← hps, List.map_append, hpd]
        simp [turn]
      · rw [← e1, ← e2]; exact D
  · rintro _ h ⟨ps', tw, tu, le, pi, on, wo, hps, rfl⟩ D
    refine w_execs_nil ?_
    refine w_execs_cons ?_
    refine w_Return ?_
    walk_at "name"
    exact q _ ps' _ hps D.tail
end L2
end Mine

namespace Mine
section
variable {Z : Sur} {h h' : Heap} {l l' : Led} {k : Nat} {env : Env}
/-- what stands behind a comprehension's loop: its frame goes -/
def CompEnd (Z : Sur) (Cc : Addr) (Q : Heap → Prop) (h : Heap) : Prop := ∃ al l, St Z h ((Cc, .ns al) :: l) ∧ ∀ h', St Z h' l → Q h'
theorem compEnd_ns {Cc : Addr} {Q : Heap → Prop} (e : CompEnd Z Cc Q h) : ∃ m, h.Ns Cc m ∧ ∀ h', Heap.SameBut Cc h h' → Q h' := by
  obtain ⟨al, l, D, q⟩ := e
  exact ⟨_, (D.at_ _ (.head _)).2, fun h' hs => q h' (D.lose hs.extBut)⟩
def CompGo (Z : Sur) (k : Nat) (e : PySem.Expr) (it : Value) (acc : Addr) (cenv : Env) (R : Heap → Prop) (h : Heap) : Prop :=
  W Z k (pyIter it) (fun it' h' => it' = it ∧ h' = h) h ∧ C Z k (.compLoop e 0 it (.ref acc) cenv) (fun _ h' => R h') h
theorem comp_start {elt target iter : PySem.Expr} {ifs : List PySem.Expr} {scope : Scope} {pos : Pos} {it : Value} {acc : Addr} {cenv : Env} {R : Heap → Prop}
    (g : CompGo Z k (.ListComp elt [⟨target, iter, ifs, 0⟩] scope pos) it acc cenv R h) : C Z k (.compStart (.ListComp elt [⟨target, iter, ifs, 0⟩] scope pos) 0 it (.ref acc) cenv) (fun _ h' => R h') h := .mk fun tk => by
  refine codeAny_compStart_list (g.2.run tk) (wpAny_mono (g.1.run tk) ?_ fun _ _ e => e.elim)
  rintro it' _ ⟨h', tk', rfl, rfl, rfl⟩
  exact g.2.run tk'
theorem ns_names {names : List Str} : locMap (names.map fun y => (y, (none : Option Value))) = fun _ => none := by
  funext x; exact lookup_map_none names x
theorem comp_core {e : PySem.Expr} {elt target iter : PySem.Expr} {ifs : List PySem.Expr} {scope : Scope} {pos p2 : Pos} {cl : List (Str × Addr)} {use : Option (Value → Sem Unit)} {Q : Value → Heap → Prop} (names : List Str) (he : e = .ListComp elt [⟨target, iter, ifs, 0⟩] scope pos)
    (hclos : closureFor scope env = pure cl) (hs : ∀ x, foldedSetIterable iter env x = PySem.Sem.pure x) (hkind : scope.kind = .function) (hn : (scope.names.all fun x => x.2 != .local || scope.names.lookup x.1 == some .local) = true)
    (hc : (scope.names.all fun x => x.2 != .cell) = true) (hnd : names.Nodup)
    (q : W Z k (eval iter env) (fun xv h₁ => W Z k (pyIter xv) (fun it h₂ => ∃ l, St Z h₂ l ∧ ∀ acc Cc h₃, St Z h₃ ((Cc, .ns (names.map fun y => (y, none))) :: (acc, .lst []) :: l) →
      CompGo Z k e it acc (compEnvC scope cl Cc env) (fun h₄ => match use with
        | none => CompEnd Z Cc (Q (.ref acc)) h₄
        | some u => W Z k (u (.ref acc)) (fun _ h₅ => CompEnd Z Cc (Q .none) h₅) h₄) h₃) h₁) h) :
    W Z k (comprehension e scope env p2 (newList []) false (eval iter env) use) Q h := .mk fun tk => by
  subst he
  refine wpAny_comprehension_free (g := ⟨target, iter, ifs, 0⟩) (gs := []) rfl hs hclos hkind (fun x hx hl => by
      have := List.all_eq_true.mp hn x hx
      rw [hl] at this
      simpa using this) (q.cps (fun xv h₁ tk₁ w => w.cps (fun it h₂ tk₂ w => ?_) tk₁) tk)
  obtain ⟨l, D, w⟩ := w
  refine wpAny_newObj_type (wpAny_newFunctionEnv (fun x hx => by simpa using List.all_eq_true.mp hc x hx) (by intro y hy; simp at hy) (fun h₃ hns hsb => ?_) hkind)
  have D2 : St Z (h₂.push { cls := .type "list", data := .seq ([] : List Value).toArray }) ((h₂.objs.size, .lst []) :: l) := D.newList
  have hk2 : ∀ b o, (h₂.push { cls := .type "list", data := .seq ([] : List Value).toArray }).get? b = some o → h₃.get? b = some o := fun b o e =>
    hsb.extBut b o (Nat.ne_of_lt (Heap.lt_size e)) (Heap.get?_push_of_some _ e)
  have D3 : St Z h₃ (((h₂.push { cls := .type "list", data := .seq ([] : List Value).toArray }).objs.size, .ns (names.map fun y => (y, none))) :: (h₂.objs.size, .lst []) :: l) :=
    D2.cons hk2 ⟨by simpa [Function.comp_def] using hnd, by rw [ns_names]; exact hns⟩ (Nat.le_refl _)
  have g := comp_start (w _ _ _ D3)
  refine codeAny_mono (g.run _) ?_
  rintro r _ ⟨f, h', tk', rfl, rfl, w⟩
  cases use with
  | none =>
    obtain ⟨m, hm, w⟩ := compEnd_ns w
    exact ⟨m, hm, fun h'' hs => ⟨h'', tk', rfl, w h'' hs⟩⟩
  | some u =>
    refine W.cps w (fun _ h₅ tk₅ w => ?_) tk'
    obtain ⟨m, hm, w⟩ := compEnd_ns w
    exact ⟨m, hm, fun h'' hs => ⟨h'', tk₅, rfl, w h'' hs⟩⟩
theorem w_ListComp {elt target iter : PySem.Expr} {ifs : List PySem.Expr} {scope : Scope} {pos : Pos} {cl : List (Str × Addr)} {Q : Value → Heap → Prop} (names : List Str)
    (hclos : closureFor scope env = pure cl) (hs : ∀ x, foldedSetIterable iter env x = PySem.Sem.pure x) (hkind : scope.kind = .function) (hn : (scope.names.all fun x => x.2 != .local || scope.names.lookup x.1 == some .local) = true)
    (hc : (scope.names.all fun x => x.2 != .cell) = true) (hnd : names.Nodup)
    (q : W Z k (eval iter env) (fun xv h₁ => W Z k (pyIter xv) (fun it h₂ => ∃ l, St Z h₂ l ∧ ∀ acc Cc h₃, St Z h₃ ((Cc, .ns (names.map fun y => (y, none))) :: (acc, .lst []) :: l) →
      CompGo Z k (.ListComp elt [⟨target, iter, ifs, 0⟩] scope pos) it acc (compEnvC scope cl Cc env) (fun h₄ => CompEnd Z Cc (Q (.ref acc)) h₄) h₃) h₁) h) :
    W Z k (eval (.ListComp elt [⟨target, iter, ifs, 0⟩] scope pos) env) Q h := by
  rw [eval_ListComp]
  exact comp_core (use := none) names rfl hclos hs hkind hn hc hnd q
theorem w_AssignComp {x : Str} {pos' spos : Pos} {elt target iter : PySem.Expr} {ifs : List PySem.Expr} {scope : Scope} {pos : Pos} {cl : List (Str × Addr)} {Q : Flow → Heap → Prop} (names : List Str)
    (hsw : swapsWith (.ListComp elt [⟨target, iter, ifs, 0⟩] scope pos) (some (.Name x pos')) spos.line env = pure true)
    (hclos : closureFor scope env = pure cl) (hs : ∀ x, foldedSetIterable iter env x = PySem.Sem.pure x) (hkind : scope.kind = .function) (hn : (scope.names.all fun x => x.2 != .local || scope.names.lookup x.1 == some .local) = true)
    (hc : (scope.names.all fun x => x.2 != .cell) = true) (hnd : names.Nodup)
    (q : W Z k (eval iter env) (fun xv h₁ => W Z k (pyIter xv) (fun it h₂ => ∃ l, St Z h₂ l ∧ ∀ acc Cc h₃, St Z h₃ ((Cc, .ns (names.map fun y => (y, none))) :: (acc, .lst []) :: l) →
      CompGo Z k (.ListComp elt [⟨target, iter, ifs, 0⟩] scope pos) it acc (compEnvC scope cl Cc env) (fun h₄ => W Z k (storeName env x (.ref acc)) (fun _ h₅ => CompEnd Z Cc (Q .next) h₅) h₄) h₃) h₁) h) :
    W Z k (exec (.Assign [.Name x pos'] (.ListComp elt [⟨target, iter, ifs, 0⟩] scope pos) spos) env) Q h := by
  rw [exec_Assign_Name_used x pos' _ spos hsw]
  refine W.bind (W.standAt ?_)
  have core : W Z k (comprehension (.ListComp elt [⟨target, iter, ifs, 0⟩] scope pos) scope env iter.pos (newList []) false (eval iter env) (some (assign (.Name x pos') env))) (fun v h' => Q .next h') h := by
    refine comp_core (Q := fun _ h' => Q .next h') (use := some (assign (.Name x pos') env)) names rfl hclos hs hkind hn hc hnd (q.mono fun xv h₁ w => w.mono fun it h₂ w => ?_)
    obtain ⟨l, D, w⟩ := w
    refine ⟨l, D, fun acc Cc h₃ D => ?_⟩
    obtain ⟨w1, w2⟩ := w acc Cc h₃ D
    exact ⟨w1, w2.mono fun f h' w => w_assignName w⟩
  refine W.bind ?_
  show W Z k (comprehension (.ListComp elt [⟨target, iter, ifs, 0⟩] scope pos) scope env iter.pos (newList []) false (eval iter env) (some (assign (.Name x pos') env)) >>= fun _ => pure ()) _ h
  exact W.bind (core.mono fun v h' w => W.pure (W.pure w))
/-! the loop of a comprehension -/
theorem c_compLoop {elt target iter : PySem.Expr} {ifs : List PySem.Expr} {scope : Scope} {pos : Pos} {it : Value} {acc : Addr} {R : Heap → Prop} (I : Nat → Heap → Prop)
    (turn : ∀ n h, I n h → W Z k (pyNext it) (fun r h₁ => match r with
      | Option.none => R h₁
      | some v => W Z k (letOwnedTupleGo target it v) (fun _ h₂ => W Z k (assign target env v) (fun _ h₃ =>
          W Z k (forIn ifs true fun c r => if r = true then do let ok ← isTrue c env (eval c env); pure (ForInStep.yield ok) else pure (ForInStep.yield r)) (fun ok h₄ =>
            if ok = true then W Z k (eval elt env) (fun x h₅ => W Z k (call (.builtin "list.append") [.ref acc, x]) (fun _ h₆ => ∃ m, m < n ∧ I m h₆) h₅) h₄ else ∃ m, m < n ∧ I m h₄) h₃) h₂) h₁) h)
    (n : Nat) (hI : I n h) : C Z k (.compLoop (.ListComp elt [⟨target, iter, ifs, 0⟩] scope pos) 0 it (.ref acc) env) (fun _ h' => R h') h := .mk fun tk => by
  refine codeAny_loop rfl (fun n s => ∃ h tk, s = Z.st h tk ∧ I n h) ?_ n ⟨h, tk, rfl, hI⟩
  rintro n _ ⟨h, tk, rfl, hI⟩
  show wpAny _ _ ((compTurn (.ListComp elt [⟨target, iter, ifs, 0⟩] scope pos) 0 it (.ref acc) env).onRaise (fun x => do noteFrame x env; theTreesLotGoes x)) _ _ _
  refine wpAny_noted ?_
  rw [compTurn_list]
  refine wpAny_bind (wpAny_standAt (wpAny_bind (wpAny_mono ((turn n h hI).run tk) (fun r s₁ h₁ => ?_) fun _ _ h' => h'.elim)))
  obtain ⟨h₁, tk₁, rfl, w⟩ := h₁
  cases r with
  | none => exact wpAny_pure ⟨_, h₁, tk₁, rfl, rfl, w⟩
  | some v =>
    refine wpAny_bind (wpAny_mono (w.run tk₁) (fun _ s₂ h₂ => ?_) fun _ _ h' => h'.elim)
    obtain ⟨h₂, tk₂, rfl, w⟩ := h₂
    refine wpAny_bind (wpAny_mono (w.run tk₂) (fun _ s₃ h₃ => ?_) fun _ _ h' => h'.elim)
    obtain ⟨h₃, tk₃, rfl, w⟩ := h₃
    refine wpAny_bind (wpAny_mono (w.run tk₃) (fun ok s₄ h₄ => ?_) fun _ _ h' => h'.elim)
    obtain ⟨h₄, tk₄, rfl, w⟩ := h₄
    cases ok with
    | false => obtain ⟨m, hm, hI⟩ := w; exact wpAny_pure ⟨rfl, m, hm, h₄, tk₄, rfl, hI⟩
    | true =>
      refine wpAny_bind (wpAny_bind (wpAny_mono (w.run tk₄) (fun x s₅ h₅ => ?_) fun _ _ h' => h'.elim))
      obtain ⟨h₅, tk₅, rfl, w⟩ := h₅
      refine wpAny_bind (wpAny_mono (w.run tk₅) (fun _ s₆ h₆ => ?_) fun _ _ h' => h'.elim)
      obtain ⟨h₆, tk₆, rfl, m, hm, hI⟩ := h₆
      exact wpAny_pure (wpAny_pure ⟨rfl, m, hm, h₆, tk₆, rfl, hI⟩)
theorem w_ifs_nil {f : PySem.Expr → Bool → Sem (ForInStep Bool)} {Q : Bool → Heap → Prop} (q : Q true h) : W Z k (forIn ([] : List PySem.Expr) true f) Q h := by
  rw [List.forIn_nil]; exact W.pure q
theorem w_ifs_one {c : PySem.Expr} {Q : Bool → Heap → Prop} (q : W Z k (isTrue c env (eval c env)) Q h) :
    W Z k (forIn [c] true fun c r => if r = true then do let ok ← isTrue c env (eval c env); pure (ForInStep.yield ok) else pure (ForInStep.yield r)) Q h := by
  rw [List.forIn_cons]
  refine W.bind ?_
  rw [if_pos rfl]
  refine W.bind (q.mono fun b h' w => W.pure ?_)
  dsimp only
  rw [List.forIn_nil]; exact W.pure w
/-! a def with cells called -/
def cellLed (n : Nat) : List (Str × Option Value) → Led
  | [] => []
  | p :: r => (n, .cell p.2) :: cellLed (n + 1) r
def cellRev (n : Nat) : List (Str × Option Value) → List (Str × Addr) → List (Str × Addr)
  | [], acc => acc
  | p :: r, acc => cellRev (n + 1) r ((p.1, n) :: acc)
theorem w_storeC {x : Str} {c : Addr} {v₀ : Option Value} {v : Value} {Q : Unit → Heap → Prop} (D : St Z h l) (hk : env.scope.kind = .function) (hl : env.kindOf x = some .cell) (hc : env.cells.lookup x = some c) (U : Upd l c (.cell v₀) (.cell (some v)) l')
    (q : ∀ h', St Z h' l' → Q () h') : W Z k (storeName env x v) Q h := .mk fun tk =>
  wpAny_storeName_cell (s := Z.st h tk) hk hl hc (D.at_ _ U.mem) fun h' hc' hs => ⟨h', tk, rfl, q h' (D.upd U hs hc')⟩
theorem bindL_eq (kd : Str → Option NameKind) : ∀ (binds : List (Str × Value)) (m : Str → Option Value) (y : Str), bindL kd binds m y = match (binds.filter fun b => kd b.1 == some .local).reverse.lookup y with | some v => some v | none => m y
  | [], m, y => rfl
  | (n, v) :: r, m, y => by
    unfold bindL
    rw [bindL_eq kd r]
    by_cases hl : kd n = some .local
    · rw [if_pos hl, List.filter_cons_of_pos (by simp [hl]), List.reverse_cons, List.lookup_append]
      cases hq : ((r.filter fun b => kd b.1 == some .local).reverse.lookup y) with
      | some w => simp
      | none =>
        simp only [Option.none_or, List.lookup_cons, List.lookup_nil]
        by_cases e : y = n
        · subst e; simp
        · have : (y == n) = false := beq_eq_false_iff_ne.mpr e
          simp [this, e]
    · rw [if_neg hl, List.filter_cons_of_neg (by simp [hl])]
theorem cellLed_at {h₀ : Heap} {cs : List (Str × Addr)} {cm : Str → Option Value} (hcell : ∀ n c, (n, c) ∈ cs → h₀.IsCell c (cm n)) :
    ∀ (cl : List (Str × Option Value)) (n : Nat), (∀ (i : Nat) p, cl[i]? = some p → (p.1, n + i) ∈ cs ∧ cm p.1 = p.2) → ∀ p ∈ cellLed n cl, p.2.At h₀ p.1
  | [], n, _, p, hp => nomatch hp
  | q :: r, n, hi, p, hp => by
    rcases List.mem_cons.mp hp with rfl | hp
    · obtain ⟨h1, h2⟩ := hi 0 q rfl
      have := hcell _ _ h1
      rw [h2] at this
      exact this
    · refine cellLed_at hcell r (n + 1) (fun i p hpi => ?_) p hp
      have := hi (i + 1) p hpi
      rwa [show n + (i + 1) = n + 1 + i by omega] at this
theorem cellRev_mem : ∀ (cl : List (Str × Option Value)) (n : Nat) (acc : List (Str × Addr)), (∀ x ∈ acc, x ∈ cellRev n cl acc) ∧ ∀ (i : Nat) p, cl[i]? = some p → (p.1, n + i) ∈ cellRev n cl acc
  | [], n, acc => ⟨fun x h => h, fun i p h => by cases h⟩
  | q :: r, n, acc => by
    have ih := cellRev_mem r (n + 1) ((q.1, n) :: acc)
    refine ⟨fun x hx => ih.1 x (.tail _ hx), fun i p hp => ?_⟩
    cases i with
    | zero =>
      injection hp with hp
      subst hp
      exact ih.1 _ (.head _)
    | succ i =>
      have := ih.2 i p hp
      rwa [show n + 1 + i = n + (i + 1) by omega] at this
theorem cellLed_keys : ∀ (cl : List (Str × Option Value)) (n : Nat), (∀ x ∈ (cellLed n cl).map (·.1), n ≤ x) ∧ ((cellLed n cl).map (·.1)).Nodup
  | [], n => ⟨fun x hx => (nomatch hx), List.nodup_nil⟩
  | q :: r, n => by
    obtain ⟨h1, h2⟩ := cellLed_keys r (n + 1)
    refine ⟨fun x hx => ?_, ?_⟩
    · rcases List.mem_cons.mp hx with rfl | hx
      · exact Nat.le_refl _
      · exact Nat.le_of_succ_le (h1 x hx)
    · refine List.nodup_cons.mpr ⟨fun hm => ?_, h2⟩
      have := h1 n hm
      omega
theorem lookup_mem_cs {cs : List (Str × Addr)} (hp : (cs.map (·.1)).Nodup) {n : Str} {c : Addr} (h : (n, c) ∈ cs) : cs.lookup n = some c := lookup_of_mem hp h
theorem cellRev_names : ∀ (cl : List (Str × Option Value)) (n : Nat) (acc : List (Str × Addr)), (cellRev n cl acc).map (·.1) = (cl.map (·.1)).reverse ++ acc.map (·.1)
  | [], n, acc => rfl
  | p :: r, n, acc => by rw [cellRev, cellRev_names r]; simp
theorem c_callCells {fd : FuncData} {body : List Stmt} {a : Addr} {o : Obj} {vals : List Value} {Q : Value → Heap → Prop} (binds : List (Str × Value)) (names more : List Str) (al cl : List (Str × Option Value)) (cn : List Str) (G : Good Z) (D : St Z h l)
    (ho : h.get? a = some o) (hdata : o.data = .func fd) (hcd : h.CodeRec fd.code fd.qualname) (hbody : fd.body = .stmts body) (hbind : bindArgs fd ⟨vals, []⟩ = pure binds) (hclo : fd.closure = [])
    (hb : (binds.filter fun b => fd.scope.names.lookup b.1 == some .local).map (·.1) = names) (hal : frameOf (binds.filter fun b => fd.scope.names.lookup b.1 == some .local) more = al) (hnd : (names ++ more).Nodup)
    (hcl : ∀ n, cellsFrom n fd.scope.names [] = cellRev n cl []) (hcv : cl.map (fun p => bindC (fun x => fd.scope.names.lookup x) binds (fun _ => none) p.1) = cl.map (·.2)) (hcn1 : cl.map (·.1) = cn) (hcn2 : cn.Nodup)
    (hkind : (binds.all fun x => fd.scope.names.lookup x.1 == some .local || (fd.scope.names.lookup x.1 == some .cell && (cl.map (·.1)).contains x.1)) = true) (hk : k < 60)
    (hco : fd.scope.isCoroutine = false) (hgen : fd.scope.isGenerator = false) (hkd : fd.scope.kind = .function)
    (q : ∀ L h₀, St Z h₀ ((L, .ns al) :: (cellLed (L + 1) cl ++ l)) → W Z (k + 1) (execs body (callEnvC fd L a)) (fun f h' => Q (match f with | .ret v => v | _ => .none) h') h₀) :
    C Z k (.call (.ref a) ⟨vals, []⟩) (fun f h' => ∃ v, f = .ret v ∧ Q v h') h := .mk fun tk => by
  subst hb hal hcn1
  have hcn : ∀ n, ((cellRev n cl []).map (·.1)).Nodup := fun n => by rw [cellRev_names, List.map_nil, List.append_nil]; exact (List.reverse_perm _).nodup_iff.mpr hcn2
  refine codeAny_call_cells (s := Z.st h tk) (show 310 + 10 * k < 1000 by omega) ho hdata (D.lim G) hcd hbody hbind hclo (fun x hx => ?_) (fun s₁ I => ?_) hco hgen hkd
  · have := List.all_eq_true.mp hkind x hx
    rw [Bool.or_eq_true, beq_iff_eq, Bool.and_eq_true, beq_iff_eq] at this
    rcases this with e | ⟨e, e2⟩
    · exact .inl e
    · refine .inr ⟨e, ?_⟩
      rw [hcl]
      rw [List.contains_iff_mem] at e2
      obtain ⟨p, hp, hpe⟩ := List.mem_map.mp e2
      obtain ⟨i, hi, hpi⟩ := List.mem_iff_getElem.mp hp
      have := (cellRev_mem cl ((Z.st h tk).heap.objs.size + 1) []).2 i p (by rw [List.getElem?_eq_getElem hi, hpi])
      rw [hpe] at this
      rw [lookup_mem_cs (hcn _) this]; rfl
  · obtain ⟨h₀, tk₀, rfl⟩ := I.toInCall.same
    have hkeep : ∀ b o, h.get? b = some o → h₀.get? b = some o := I.toInCall.keep
    have hL : (callEnvC fd (Z.st h tk).heap.objs.size a).locals = h.objs.size := rfl
    have hcells : (callEnvC fd (Z.st h tk).heap.objs.size a).cells = cellRev (h.objs.size + 1) cl [] := hcl _
    have hns : h₀.Ns h.objs.size (locMap (frameOf (binds.filter fun b => fd.scope.names.lookup b.1 == some .local) more)) := by
      have := I.toInCall.ns
      rw [frame_map hnd]
      have e : (bindL (callEnvC fd (Z.st h tk).heap.objs.size a).kindOf binds fun _ => none) = fun x => (binds.filter fun b => fd.scope.names.lookup b.1 == some .local).reverse.lookup x := by
        funext y
        rw [bindL_eq]
        show (match ((binds.filter fun b => fd.scope.names.lookup b.1 == some .local).reverse.lookup y) with | some v => some v | none => none) = _
        cases (binds.filter fun b => fd.scope.names.lookup b.1 == some .local).reverse.lookup y <;> rfl
      rw [e] at this
      exact this
    have hcm : ∀ n c, (n, c) ∈ cellRev (h.objs.size + 1) cl [] → h₀.IsCell c (bindC (fun x => fd.scope.names.lookup x) binds (fun _ => none) n) := fun n c hm =>
      I.cell n c (by rw [hcells]; exact lookup_mem_cs (hcn _) hm)
    have hat := cellLed_at hcm cl (h.objs.size + 1) (fun i p hp => ⟨(cellRev_mem cl (h.objs.size + 1) []).2 i p hp, by
      have := congrArg (fun x => x[i]?) hcv
      simpa [hp] using this⟩)
    have D1 := D.grow hkeep
    have D' : St Z h₀ ((h.objs.size, .ns (frameOf (binds.filter fun b => fd.scope.names.lookup b.1 == some .local) more)) :: (cellLed (h.objs.size + 1) cl ++ l)) := by
      have hsz := D.sz
      have hkeys := cellLed_keys cl (h.objs.size + 1)
      refine ⟨D1.old, fun p hp => ?_, ?_, fun p hp => ?_, D1.la⟩
      · rcases List.mem_cons.mp hp with rfl | hp
        · exact ⟨frame_nd hnd, hns⟩
        · rcases List.mem_append.mp hp with hp | hp
          · exact hat p hp
          · exact D1.at_ p hp
      · rw [List.map_cons, List.map_append, List.nodup_cons, List.nodup_append]
        have hlt : ∀ x ∈ l.map (·.1), x < h.objs.size := fun x hx => by
          obtain ⟨p, hp, rfl⟩ := List.mem_map.mp hx
          exact (D.at_ p hp).lt
        refine ⟨fun hm => ?_, hkeys.2, D.nd, fun x hx y hy e => ?_⟩
        · rcases List.mem_append.mp hm with hm | hm
          · have := hkeys.1 _ hm; omega
          · exact absurd (hlt _ hm) (Nat.lt_irrefl _)
        · have h1 := hkeys.1 _ hx
          have h2 := hlt _ hy
          subst e
          omega
      · rcases List.mem_cons.mp hp with rfl | hp
        · exact .inr hsz
        · rcases List.mem_append.mp hp with hp | hp
          · have := hkeys.1 _ (List.mem_map_of_mem hp)
            exact .inr (by omega)
          · exact D.lo p hp
    refine wpAny_weaken (A' := Lv (k + 1)) (wpAny_mono ((q _ _ D').run _) ?_ fun _ _ e => e.elim) rfl ?_ rfl rfl ?_
    · rintro f _ ⟨h', tk', rfl, w⟩
      exact ⟨_, h', tk', rfl, rfl, _, rfl, w⟩
    · show 310 + 10 * k + 1 ≤ 310 + 10 * (k + 1); omega
    · show 50 + 100 * k + 3 ≤ 50 + 100 * (k + 1); omega
end
end Mine

namespace Mine
/-! enumerate over a tuple: what a tuple's iterator hands on -/
section
variable {prog : Program} {w : World} {A : Around} {E : Value → Shared → Prop} {s : Shared}
theorem nextOf_tup {it t : Addr} {i : Nat} {items : Array Value} {x : Value} {Q : Value → Shared → Prop} (hit : s.heap.IsTupleIter it t i) (ht : s.heap.IsTuple t items) (hx : items[i]? = some x)
    (hQ : ∀ h', h'.IsTupleIter it t (i + 1) → Heap.SameBut it s.heap h' → Q x { s with heap := h' }) : wpAny (model prog w) A (Builtin.SmallTypes.nextOf (.ref it)) Q E s := by
  obtain ⟨o, ho, hc, hd⟩ := id hit
  obtain ⟨ol, hol, _, nl, hdl⟩ := ht
  unfold Builtin.SmallTypes.nextOf
  refine wpAny_bind (wpAny_callSpecial?_slot (name := Str.ofString "__next__") hit.typeIs PySem.F.slot_tuple_iterator_next
    (wpAny_call_entry PySem.F.slot_tuple_iterator_next hit.typeIs PySem.F.entry_tuple_iterator_next ?_ (PySem.F.args_tuple_iterator_next_1 _)))
  show wpAny _ _ (field (.ref it) 0 >>= _) _ _ s
  refine wpAny_bind (wpAny_field ho hd (x := .ref t) rfl ?_)
  show wpAny _ _ (if (Value.ref t == Value.none) = true then _ else _) _ _ s
  rw [if_neg (show ¬ ((Value.ref t == Value.none) = true) from Bool.false_ne_true)]
  show wpAny _ _ (field (.ref it) 1 >>= _) _ _ s
  refine wpAny_bind (wpAny_field ho hd (x := .int i 0) rfl ?_)
  show wpAny _ _ (seqItems? (.ref t) >>= _) _ _ s
  refine wpAny_bind (wpAny_seqItems hol hdl ?_)
  simp only [Int.toNat_natCast, hx]
  refine wpAny_bind (wpAny_setField ho hd (by simp) (wpAny_pure ⟨x, rfl, wpAny_pure (hQ _ ?_ (Heap.SameBut.update ..))⟩))
  exact ⟨_, Heap.get?_update_self _ ho (Obj.isFreed_of_fields (Obj.data_mapFields hd _)), (Obj.cls_mapFields ..).trans hc, by rw [Obj.data_mapFields hd]; simp [rawInt]⟩
theorem nextOf_tupEnd {it t : Addr} {i : Nat} {items : Array Value} {Q : Value → Shared → Prop} (hh : A.handled = none) (hit : s.heap.IsTupleIter it t i) (ht : s.heap.IsTuple t items) (hx : items[i]? = none)
    (hE : ∀ h' e, Heap.ExtBut it s.heap h' → (∃ o, h'.get? e = some o ∧ o.cls = .type "StopIteration") → E (.ref e) { s with heap := h' }) : wpAny (model prog w) A (Builtin.SmallTypes.nextOf (.ref it)) Q E s := by
  obtain ⟨o, ho, hc, hd⟩ := id hit
  obtain ⟨ol, hol, _, nl, hdl⟩ := ht
  unfold Builtin.SmallTypes.nextOf
  refine wpAny_bind (wpAny_callSpecial?_slot (name := Str.ofString "__next__") hit.typeIs PySem.F.slot_tuple_iterator_next
    (wpAny_call_entry PySem.F.slot_tuple_iterator_next hit.typeIs PySem.F.entry_tuple_iterator_next ?_ (PySem.F.args_tuple_iterator_next_1 _)))
  show wpAny _ _ (field (.ref it) 0 >>= _) _ _ s
  refine wpAny_bind (wpAny_field ho hd (x := .ref t) rfl ?_)
  show wpAny _ _ (if (Value.ref t == Value.none) = true then _ else _) _ _ s
  rw [if_neg (show ¬ ((Value.ref t == Value.none) = true) from Bool.false_ne_true)]
  show wpAny _ _ (field (.ref it) 1 >>= _) _ _ s
  refine wpAny_bind (wpAny_field ho hd (x := .int i 0) rfl ?_)
  show wpAny _ _ (seqItems? (.ref t) >>= _) _ _ s
  refine wpAny_bind (wpAny_seqItems hol hdl ?_)
  simp only [Int.toNat_natCast, hx]
  refine wpAny_bind (wpAny_rule (wpAny_bind (wpAny_setField ho hd (by simp) ?_)))
  show wpAny _ _ (newExc (.type "StopIteration") [] >>= _) _ _ _
  refine wpAny_bind ?_
  simp only [newExc, newTuple]
  refine wpAny_bind (wpAny_newObj_type ?_ (by size_fits))
  refine wpAny_bind (m := firstArgMember _ _) (wpAny_of_eq (a := Value.none) (by first | rfl | (simp only [firstArgMember]; rfl)) ?_)
  refine wpAny_newObj_type ?_ (by size_fits)
  simp only [raiseNew]
  refine wpAny_bind (wpAny_handled ?_)
  first | rw [show A.in1.handled = none from hh] | rw [hh]
  refine wpAny_bind (wpAny_pure (wpAny_throw ?_))
  exact hE _ _ (((Heap.SameBut.update ..).extBut.push _).push _) ⟨_, Heap.get?_push_size _ rfl, rfl⟩
theorem draws_tup (hh : A.handled = none) (it t : Addr) (hne : t ≠ it) (items : Array Value) :
    Draws prog w A it [it, t] items.size (fun i v => items[i]? = some v) (fun i h => h.IsTupleIter it t i ∧ h.IsTuple t items) where
  live := fun _ _ st => let ⟨o, ho, _⟩ := st.1; ⟨o, ho⟩
  frame := fun _ _ _ st hk => ⟨let ⟨o, ho, r⟩ := st.1; ⟨o, hk it (by simp) o ho, r⟩, let ⟨o, ho, r⟩ := st.2; ⟨o, hk t (by simp) o ho, r⟩⟩
  item := fun i s Q E hi st hQ => by
    refine nextOf_tup st.1 st.2 (x := items[i]) (by simp [hi]) fun h' hit' hs' => ?_
    exact hQ _ h' s.toks (by simp [hi]) ⟨hit', st.2.extBut hs'.extBut hne⟩ hs'
  done := fun s Q E st hE => nextOf_tupEnd hh st.1 st.2 (by simp) hE
theorem meets_enumT (l : Addr) (items : Array Value) :
    Meets (Builtin.«enumerate.__new__» ⟨[.type "enumerate", .ref l], []⟩) (fun _ R s => s.heap.get? l = some { cls := .type "tuple", data := .seq items } ∧
      R (.ok (.ret (.ref (s.heap.push { cls := .type "tuple_iterator", data := .fields #[.ref l, .int 0 0] }).objs.size)))
        { s with heap := (s.heap.push { cls := .type "tuple_iterator", data := .fields #[.ref l, .int 0 0] }).push { cls := .type "enumerate", data := .fields #[.none, .bool false, .ref s.heap.objs.size, rawInt 0, .none, .none] } }) :=
  .of_wp fun prog w A R s h => by
    obtain ⟨hp, g, d, tk, os⟩ := s; obtain ⟨hl, h⟩ := h
    have hsub := sub_enumerate
    have hL : Heap.IsTuple (Shared.heap ⟨hp, g, d, tk, os⟩) l items := ⟨_, hl, rfl, 0, rfl⟩
    wp_walk using AutoSeq1.wpAny_loadPart' hl
    refine wpAny_stack_any fun st => wpAny_pure ?_
    split
    · rename_i c _ _ _ _ _
      cases (c == Value.type "enumerate")
      · wp_walk using AutoSeq1.wpAny_loadPart' hl, wpAny_pyIter_tuple hL
        exact ⟨_, rfl, h⟩
      · wp_walk using AutoSeq1.wpAny_loadPart' hl, wpAny_pyIter_tuple hL
        exact ⟨_, rfl, h⟩
    · wp_walk using AutoSeq1.wpAny_loadPart' hl, wpAny_pyIter_tuple hL
      exact ⟨_, rfl, h⟩
end
abbrev tiOb (a : Addr) (i : Nat) : Ob := .rcd "tuple_iterator" #[.ref a, .int i 0]
abbrev enOb (it : Addr) (i : Nat) (old : Value) : Ob := .obj { cls := .type "enumerate", data := .fields #[.none, .bool false, .ref it, rawInt ((i : Nat) : Int), .none, old] }
abbrev enOut (it : Addr) (i : Nat) (item : Value) (a : Addr) : Ob := .obj { cls := .type "enumerate", data := .fields #[rawInt a, .bool false, .ref it, rawInt ((i : Nat) : Int), .none, item] }
section
variable {Z : Sur} {h h' : Heap} {l l' : Led} {k : Nat} {env : Env}
theorem keys_mem {l : Led} {a : Addr} {o : Ob} (hm : (a, o) ∈ l) : a ∈ l.map (·.1) := List.mem_map.mpr ⟨_, hm, rfl⟩
theorem w_enumT {t : Addr} {vs : List Value} {Q : Value → Heap → Prop} (D : St Z h l) (ht : (t, .obj (tupObj vs)) ∈ l) (q : ∀ e it h', St Z h' ((e, enOb it 0 .none) :: (it, tiOb t 0) :: l) → Q (.ref e) h') : W Z k (call (.type "enumerate") [.ref t]) Q h := .mk fun tk => by
  refine callType_new PySem.F.called_enumerate (by decide) (PySem.F.typeCall_enumerate_1 _) (PySem.F.newCall_enumerate_1 _) (fun obj => PySem.F.args_object_init_2 obj _) PySem.F.entry_enumerate_new
    (meets_enumT t vs.toArray) ⟨D.get ht, ⟨_, Heap.get?_push_size _ rfl, rfl⟩, ?_⟩
  have D1 : St Z (h.push { cls := .type "tuple_iterator", data := .fields #[.ref t, .int 0 0] }) ((h.objs.size, tiOb t 0) :: l) := D.cons (fun _ _ e => Heap.get?_push_of_some _ e) ⟨_, Heap.get?_push_size _ rfl, rfl, rfl⟩ (Nat.le_refl _)
  exact ⟨_, tk, rfl, q _ _ _ (D1.alloc rfl)⟩
theorem w_enumL {a : Addr} {vs : List Value} {Q : Value → Heap → Prop} (D : St Z h l) (ht : (a, .lst vs) ∈ l) (q : ∀ e it h', St Z h' ((e, enOb it 0 .none) :: (it, liOb a 0) :: l) → Q (.ref e) h') : W Z k (call (.type "enumerate") [.ref a]) Q h := .mk fun tk => by
  refine call_enumerate_list (s := Z.st h tk) (D.list ht) fun h' he hit hz hk => ⟨h', tk, rfl, q (h.objs.size + 1) h.objs.size h' ?_⟩
  have D1 := D.grow hk
  have hsz := D.sz
  have hz' : h'.objs.size = h.objs.size + 2 := hz
  refine ⟨D1.old, fun p hp => ?_, ?_, fun p hp => ?_, D1.la⟩
  · rcases List.mem_cons.mp hp with rfl | hp
    · exact he
    · rcases List.mem_cons.mp hp with rfl | hp
      · exact hit
      · exact D1.at_ p hp
  · have hlt : ∀ x ∈ l.map (·.1), x < h.objs.size := fun x hx => by
      obtain ⟨p, hp, rfl⟩ := List.mem_map.mp hx
      exact (D.at_ p hp).lt
    rw [List.map_cons, List.map_cons, List.nodup_cons, List.nodup_cons]
    refine ⟨fun hm => ?_, fun hm => ?_, D.nd⟩
    · rcases List.mem_cons.mp hm with e | hm
      · exact absurd e (Nat.succ_ne_self _)
      · exact absurd (hlt _ hm) (Nat.not_lt.mpr (Nat.le_succ _))
    · exact absurd (hlt _ hm) (Nat.lt_irrefl _)
  · rcases List.mem_cons.mp hp with rfl | hp
    · exact .inr (Nat.le_succ_of_le hsz)
    · rcases List.mem_cons.mp hp with rfl | hp
      · exact .inr hsz
      · exact D.lo p hp
theorem w_iterEnum {e it : Addr} {i : Nat} {old : Value} {Q : Value → Heap → Prop} (D : St Z h l) (he : (e, enOb it i old) ∈ l) (q : Q (.ref e) h) : W Z k (pyIter (.ref e)) Q h := .mk fun tk =>
  wpAny_pyIter_enum (s := Z.st h tk) (D.get he) ⟨h, tk, rfl, q⟩
/-- one more pair from an enumerate over a list, which then lets its tuple go -/
theorem w_nextEnumL {e it a : Addr} {i : Nat} {vs : List Value} {v old : Value} {Q : Option Value → Heap → Prop} (D : St Z h ((e, enOb it i old) :: (it, liOb a i) :: l)) (hm : (a, .lst vs) ∈ l) (hx : vs[i]? = some v)
    (q : ∀ t tt h', St Z h' ((t, .obj (tupObj [.int (i : Int) tt, v])) :: (e, enOut it (i + 1) v t) :: (it, liOb a (i + 1)) :: l) → Q (some (.ref t)) h') : W Z k (pyNext (.ref e)) Q h := .mk fun tk => by
  have hne : e ≠ it := by
    have := D.nd
    rw [List.map_cons, List.map_cons, List.nodup_cons] at this
    exact fun x => this.1 (by rw [x]; exact .head _)
  refine wpAny_pyNext_enum_item (s := Z.st h tk) (D.get (.head _)) (D.at_ _ (.tail _ (.head _))) (D.list (.tail _ (.tail _ hm))) (by simpa using hx) hne fun h' he hit ht hz hk => ⟨h', tk + 1, rfl, q _ tk h' ?_⟩
  have D1 : St Z h' ([(e, enOut it (i + 1) v h.objs.size), (it, liOb a (i + 1))] ++ l) := St.swap (c := [(e, enOb it i old), (it, liOb a i)]) D (fun b o hb x => hk b o (by rintro rfl; exact hb (.head _)) (by rintro rfl; exact hb (.tail _ (.head _))) x) (List.Sublist.refl _)
    (fun p hp => by
      rcases List.mem_cons.mp hp with rfl | hp
      · exact he
      · rcases List.mem_cons.mp hp with rfl | hp
        · exact hit
        · cases hp)
  refine ⟨D1.old, fun p hp => ?_, ?_, fun p hp => ?_, D1.la⟩
  · rcases List.mem_cons.mp hp with rfl | hp
    · exact ht
    · exact D1.at_ p hp
  · rw [List.map_cons, List.nodup_cons]
    refine ⟨fun hm => ?_, D1.nd⟩
    have : h.objs.size ∈ ((e, enOb it i old) :: (it, liOb a i) :: l).map (·.1) := hm
    obtain ⟨p, hp, e'⟩ := List.mem_map.mp this
    have := (D.at_ p hp).lt
    rw [e'] at this
    exact Nat.lt_irrefl _ this
  · rcases List.mem_cons.mp hp with rfl | hp
    · exact .inr D.sz
    · exact D1.lo p hp
theorem w_nextEnumT {e it a : Addr} {i : Nat} {vs : List Value} {v old : Value} {Q : Option Value → Heap → Prop} (D : St Z h ((e, enOb it i old) :: (it, tiOb a i) :: l)) (hm : (a, .obj (tupObj vs)) ∈ l) (hx : vs[i]? = some v)
    (q : ∀ t tt h', St Z h' ((t, .obj (tupObj [.int (i : Int) tt, v])) :: (e, enOut it (i + 1) v t) :: (it, tiOb a (i + 1)) :: l) → Q (some (.ref t)) h') : W Z k (pyNext (.ref e)) Q h := .mk fun tk => by
  have hnd := D.nd
  rw [List.map_cons, List.map_cons, List.nodup_cons, List.nodup_cons] at hnd
  have hne : e ≠ it := fun x => hnd.1 (by rw [x]; exact .head _)
  have hae : e ≠ a := fun x => hnd.1 (by rw [x]; exact .tail _ (keys_mem hm))
  have hai : a ≠ it := fun x => hnd.2.1 (by rw [← x]; exact keys_mem hm)
  have hlt : i < vs.toArray.size := by
    rcases Nat.lt_or_ge i vs.length with y | y
    · simpa using y
    · rw [List.getElem?_eq_none y] at hx; cases hx
  refine wpAny_pyNext_enum_itemD (s := Z.st h tk) (draws_tup rfl it a hai vs.toArray) (D.get (.head _)) ⟨D.at_ _ (.tail _ (.head _)), ⟨_, D.get (.tail _ (.tail _ hm)), rfl, _, rfl⟩⟩ hlt hne (by simp [hne, hae]) fun x h' tk' hxx he hit ht hz hk => ?_
  obtain rfl : x = v := by simpa [hx] using hxx.symm
  refine ⟨h', tk' + 1, rfl, q _ tk' h' ?_⟩
  have D1 : St Z h' ([(e, enOut it (i + 1) x h.objs.size), (it, tiOb a (i + 1))] ++ l) := St.swap (c := [(e, enOb it i old), (it, tiOb a i)]) D (fun b o hb x => hk b o (by rintro rfl; exact hb (.head _)) (by rintro rfl; exact hb (.tail _ (.head _))) x) (List.Sublist.refl _)
    (fun p hp => by
      rcases List.mem_cons.mp hp with rfl | hp
      · exact he
      · rcases List.mem_cons.mp hp with rfl | hp
        · exact hit.1
        · cases hp)
  refine ⟨D1.old, fun p hp => ?_, ?_, fun p hp => ?_, D1.la⟩
  · rcases List.mem_cons.mp hp with rfl | hp
    · exact ht
    · exact D1.at_ p hp
  · rw [List.map_cons, List.nodup_cons]
    refine ⟨fun hm => ?_, D1.nd⟩
    have : h.objs.size ∈ ((e, enOb it i old) :: (it, tiOb a i) :: l).map (·.1) := hm
    obtain ⟨p, hp, e'⟩ := List.mem_map.mp this
    have := (D.at_ p hp).lt
    rw [e'] at this
    exact Nat.lt_irrefl _ this
  · rcases List.mem_cons.mp hp with rfl | hp
    · exact .inr D.sz
    · exact D1.lo p hp
theorem w_endEnumL {e it a : Addr} {i : Nat} {vs : List Value} {old : Value} {Q : Option Value → Heap → Prop} (D : St Z h ((e, enOb it i old) :: (it, liOb a i) :: l)) (hm : (a, .lst vs) ∈ l) (hx : vs.length ≤ i) (q : ∀ h', St Z h' l → Q none h') : W Z k (pyNext (.ref e)) Q h := .mk fun tk =>
  wpAny_pyNext_enum_end (s := Z.st h tk) rfl (D.get (.head _)) (D.at_ _ (.tail _ (.head _))) (D.list (.tail _ (.tail _ hm))) (by simpa using hx) fun h' hk => ⟨h', tk, rfl, q h' (D.tail.lose hk)⟩
theorem w_endEnumT {e it a : Addr} {vs : List Value} {old : Value} {Q : Option Value → Heap → Prop} (D : St Z h ((e, enOb it vs.length old) :: (it, tiOb a vs.length) :: l)) (hm : (a, .obj (tupObj vs)) ∈ l) (q : ∀ h', St Z h' l → Q none h') : W Z k (pyNext (.ref e)) Q h := .mk fun tk => by
  have hnd := D.nd
  rw [List.map_cons, List.map_cons, List.nodup_cons, List.nodup_cons] at hnd
  have hai : a ≠ it := fun x => hnd.2.1 (by rw [← x]; exact keys_mem hm)
  refine wpAny_pyNext_enum_endD (s := Z.st h tk) (draws_tup rfl it a hai vs.toArray) (D.get (.head _)) ⟨?_, ⟨_, D.get (.tail _ (.tail _ hm)), rfl, _, rfl⟩⟩ fun h' hk => ⟨h', tk, rfl, q h' (D.tail.lose hk)⟩
  have : (tiOb a vs.length).At h it := D.at_ _ (.tail _ (.head _))
  rw [show vs.toArray.size = vs.length by simp]
  exact this
theorem w_goEnum {elts : List PySem.Expr} {n : Nat} {pos : Pos} {e it t : Addr} {i : Nat} {item : Value} {Q : Unit → Heap → Prop} (D : St Z h l) (U : Upd l e (enOut it i item t) (enOb it i item) l') (q : ∀ h', St Z h' l' → Q () h') :
    W Z k (letOwnedTupleGo (.Tuple elts n pos) (.ref e) (.ref t)) Q h := .mk fun tk =>
  wpAny_letOwnedTupleGo_enum (s := Z.st h tk) (D.get U.mem) fun h' he hs => ⟨h', tk, rfl, q h' (D.upd U hs he)⟩
end
end Mine

namespace Mine
def iv (xs : List (Int × Tok)) : List Value := xs.map fun p => .int p.1 p.2
theorem iv_items (xs : List (Int × Tok)) : intItems xs.toArray = (iv xs).toArray := by simp [intItems, iv]
section
variable {Z : Sur} {h h' : Heap} {l l' : Led} {k : Nat} {env : Env} {a b : Addr} {t u : Tok}
theorem w_sumList {xs : List (Int × Tok)} {Q : Value → Heap → Prop} (D : St Z h l) (hm : (a, .lst (iv xs)) ∈ l) (q : ∀ t' h', St Z h' l → Q (.int (xs.map (·.1)).sum t') h') : W Z k (call (.builtin "sum") [.ref a]) Q h := .mk fun tk => by
  have hl : (Z.st h tk).heap.IsList a (intItems xs.toArray) := by rw [iv_items]; exact D.list hm
  refine sum_intListG rfl hl fun h' tk' t' hk => ⟨h', tk', rfl, ?_⟩
  have e : preSum (numAt xs.toArray) xs.toArray.size = (xs.map (·.1)).sum := by
    rw [preSum_eq, List.take_of_length_le (by simp)]
  rw [e]
  exact q t' h' (D.grow hk)
theorem w_maxList {xs : List (Int × Tok)} {Q : Value → Heap → Prop} (D : St Z h l) (hm : (a, .lst (iv xs)) ∈ l) (hne : xs ≠ [])
    (q : ∀ (p : Int × Tok) h', xs[argBest (fun i j => decide (numAt xs.toArray i > numAt xs.toArray j)) (xs.length - 1)]? = some p → St Z h' l → Q (.int p.1 p.2) h') : W Z k (call (.builtin "max") [.ref a]) Q h := .mk fun tk => by
  have hl : (Z.st h tk).heap.IsList a (intItems xs.toArray) := by rw [iv_items]; exact D.list hm
  refine max_intList rfl hl (by simpa using List.length_pos_iff.mpr hne) fun v h' tk' hv hk => ?_
  rw [iv_items] at hv
  simp only [iv, List.getElem?_toArray, List.getElem?_map, List.size_toArray, Option.map_eq_some_iff] at hv
  obtain ⟨p, hp, rfl⟩ := hv
  exact ⟨h', tk', rfl, q p h' hp (D.grow hk)⟩
theorem w_addList {xs ys : List Value} {Q : Value → Heap → Prop} (D : St Z h l) (ha : (a, .lst xs) ∈ l) (hb : (b, .lst ys) ∈ l) (hz : xs.length + ys.length ≤ 100000) (q : ∀ c h', St Z h' ((c, .lst (xs ++ ys)) :: l) → Q (.ref c) h') :
    W Z k (binaryOp .Add (.ref a) (.ref b)) Q h := .mk fun tk => by
  obtain ⟨n, ha⟩ := D.at_ _ ha
  obtain ⟨m, hb⟩ := D.at_ _ hb
  refine P.add_list (s := Z.st h tk) ha hb ⟨_, tk, rfl, q _ _ ?_⟩ (by simp [sizeLine_eq]; omega)
  show St Z (h.push { cls := .type "list", data := .seq (xs.toArray ++ ys.toArray) }) ((h.objs.size, .lst (xs ++ ys)) :: l)
  rw [show xs.toArray ++ ys.toArray = (xs ++ ys).toArray by simp]
  exact D.newList
/-! the same values -/
inductive Same : Value → Value → Prop
  | str {x : Str} {t u : Tok} : Same (.str x t) (.str x u)
  | int {i : Int} {t u : Tok} : Same (.int i t) (.int i u)
  | none : Same .none .none
theorem Same.eqAt {A : Around} {s : Shared} {v w : Value} (x : Same v w) : SeqAt.EqAt A s v w true := by
  cases x with
  | @str x t u => have := SeqAt.EqAt.str_str (A := A) (s := s) x t x u; simpa using this
  | @int i t u => have := SeqAt.EqAt.int_int (A := A) (s := s) i t i u; simpa using this
  | none => exact SeqAt.EqAt.same _
theorem w_neSame {xs ys : List Value} {Q : Value → Heap → Prop} (D : St Z h l) (ha : (a, .lst xs) ∈ l) (hb : (b, .lst ys) ∈ l) (hs : xs.length = ys.length) (he : ∀ (j : Nat) v w, xs[j]? = some v → ys[j]? = some w → Same v w) (hk : k < 60) (q : Q (.bool false) h) :
    W Z k (compareOp .NotEq (.ref a) (.ref b)) Q h := .mk fun tk => by
  have := SeqAt.RcNeAt.lists (A := Lv k) (s := Z.st h tk) (e := fun _ => true) (D.list ha) (D.list hb) (by simpa using hs) (show 50 + 100 * k < 9900 by omega) (fun j h1 h2 => (he j _ _ (List.getElem?_eq_getElem (by simpa using h1)) (List.getElem?_eq_getElem (by simpa using h2))).eqAt)
  refine this Z.prog Z.w _ _ ⟨h, tk, rfl, ?_⟩
  have e : (!(List.range xs.toArray.size).all fun _ => true) = false := by simp
  rw [e]; exact q
theorem rep_flat (n : Nat) (xs : List Value) : List.foldl (fun x1 x2 => x1 ++ x2) #[] (List.replicate n xs.toArray) = (List.replicate n xs).flatten.toArray := by
  have : ∀ (n : Nat) (acc : List Value), List.foldl (fun x1 x2 => x1 ++ x2) acc.toArray (List.replicate n xs.toArray) = (acc ++ (List.replicate n xs).flatten).toArray := by
    intro n
    induction n with
    | zero => intro acc; simp
    | succ n ih =>
      intro acc
      rw [List.replicate_succ, List.foldl_cons, show acc.toArray ++ xs.toArray = (acc ++ xs).toArray by simp, ih, List.replicate_succ, List.flatten_cons, List.append_assoc]
  exact this n []
theorem mulL {prog : Program} {w : World} {A : Around} {E : Value → Shared → Prop} {s : Shared} {l : Addr} {items : Array Value} {k : Nat} {x : Int} {u : Tok} {Q : Value → Shared → Prop}
    (hl : s.heap.get? l = some { cls := .type "list", dict := none, data := .seq items k, slots := #[] }) (hlo : -(2 ^ 63 : Int) ≤ x) (hhi : x < 2 ^ 63) (hsz : items.size * x.toNat ≤ 2 ^ 24)
    (h : Q (.ref s.heap.objs.size) { s with heap := s.heap.push { cls := .type "list", data := .seq (List.foldl (fun x1 x2 => x1 ++ x2) #[] (List.replicate (if items.isEmpty = true then 0 else x.toNat) items)) } }) :
    wpAny (model prog w) A (binaryOp .Mult (.ref l) (.int x u)) Q E s :=
  wpAny_binaryOp_repeat_ref (T := "list") (U := "int") (by decide) ⟨_, hl, rfl⟩ (fun s' => typeIs_int s' x u) noFill_list_mul PySem.F.fills_int_mul PySem.F.slot_int_rmul repeat_list PySem.F.slot_int_index.lookup
    (call_meets PySem.F.slot_int_rmul (typeIs_int s x u) PySem.F.entry_int_rmul (PySem.F.args_int_rmul_2 _ _) (int___rmul___int_list x u l items k)
      ⟨hl, rfl, ⟨_, hl, rfl⟩, call_meets PySem.F.slot_list_mul ⟨_, hl, rfl⟩ PySem.F.entry_list_mul (PySem.F.args_list_mul_2 _ _)
        (AutoListH.list___mul___list_int_3 l items k x u (by simp [Builtin.List.listFitsIndex]; omega) (by omega) (by simp [Builtin.List.listTooLong, sizeLine]; omega)) ⟨hl, h⟩⟩)
theorem w_mulList {xs : List Value} {n : Nat} {Q : Value → Heap → Prop} (D : St Z h l) (ha : (a, .lst xs) ∈ l) (hne : xs ≠ []) (hz : xs.length * n ≤ 100000) (hn : n ≤ 100000) (q : ∀ c h', St Z h' ((c, .lst (List.replicate n xs).flatten) :: l) → Q (.ref c) h') :
    W Z k (binaryOp .Mult (.ref a) (.int (n : Int) u)) Q h := .mk fun tk => by
  obtain ⟨m, ho⟩ := D.at_ _ ha
  have e : (if xs.toArray.isEmpty = true then 0 else ((n : Int)).toNat) = n := by
    rw [if_neg (by simpa using hne), Int.toNat_natCast]
  refine mulL (s := Z.st h tk) ho (by omega) (by omega) (by rw [Int.toNat_natCast]; simp only [List.size_toArray]; omega) ⟨_, tk, rfl, q _ _ ?_⟩
  rw [e, rep_flat]
  exact D.newList
/-! slices of lists -/
def SliceL (Z : Sur) (Q : Value → Heap → Prop) (o va vb vc : Value) (h : Heap) : Prop :=
  ∃ l a xs lo hi st, St Z h l ∧ o = .ref a ∧ (a, .lst xs) ∈ l ∧ IsPart va lo ∧ IsPart vb hi ∧ IsPart vc st ∧ st ≠ some 0 ∧ xs.length ≤ 100000 ∧ ∀ c h', St Z h' ((c, .lst (slicePick xs.toArray lo hi st).toList) :: l) → Q (.ref c) h'
theorem w_SubSliceL {v : PySem.Expr} {lo hi : Option PySem.Expr} {p pos : Pos} {Q : Value → Heap → Prop}
    (q : W Z k (eval v env) (fun o h₁ => W Z k (evalPart lo env) (fun va h₂ => W Z k (evalPart hi env) (fun vb h₃ => SliceL Z Q o va vb .none h₃) h₂) h₁) h)
    (ht : ∀ o r, letTemporaryGo v o r = pure ()) : W Z k (eval (.Subscript v (.Slice lo hi none p) pos) env) Q h := .mk fun tk => by
  refine wpAny_Subscript_list_slice (q.cps (fun o h₁ t₁ w => w.cps (fun va h₂ t₂ w => w.cps (fun vb h₃ t₃ w => ?_) t₂) t₁) tk) ht
  obtain ⟨l, a, xs, lo', hi', st, D, rfl, ha, pa, pb, pc, h0, hz, q⟩ := w
  cases pc
  refine ⟨a, xs.toArray, lo', hi', rfl, D.list ha, by simp [sizeLine_eq]; omega, pa, pb, _, t₃, rfl, ?_⟩
  have D1 : St Z (h₃.push { cls := .type "slice", data := .fields #[va, vb, .none] }) l := D.push _
  have D2 := D1.newList (vs := (slicePick xs.toArray lo' hi' none).toList)
  have := q _ _ D2
  rw [Heap.size_push] at this
  exact this
theorem w_SubStepL {v s : PySem.Expr} {lo hi : Option PySem.Expr} {p pos : Pos} {Q : Value → Heap → Prop}
    (q : W Z k (eval v env) (fun o h₁ => W Z k (evalPart lo env) (fun va h₂ => W Z k (evalPart hi env) (fun vb h₃ => W Z k (eval s env) (fun vc h₄ => SliceL Z Q o va vb vc h₄) h₃) h₂) h₁) h)
    (ht : ∀ o r, letTemporaryGo v o r = pure ()) : W Z k (eval (.Subscript v (.Slice lo hi (some s) p) pos) env) Q h := .mk fun tk => by
  refine wpAny_Subscript_Slice_step (T := "list") list_getitem_lookup (q.cps (fun o h₁ t₁ w => wpAny_Slice (w.cps (fun va h₂ t₂ w => w.cps (fun vb h₃ t₃ w => W.cps (t := evalPart (some s) env) w (fun vc h₄ t₄ w => ?_) t₃) t₂) t₁)) tk) ht
  obtain ⟨l, a, xs, lo', hi', st, D, rfl, ha, pa, pb, pc, h0, hz, q⟩ := w
  have D1 : St Z (h₄.push { cls := .type "slice", data := .fields #[va, vb, vc] }) l := D.push _
  refine ⟨(D1.list ha).typeIs (s := Z.st (h₄.push { cls := .type "slice", data := .fields #[va, vb, vc] }) t₄), wpAny_getItem_list_slice (s := Z.st (h₄.push { cls := .type "slice", data := .fields #[va, vb, vc] }) t₄) (D1.list ha) (Heap.IsSliceOf.new ..) pa pb pc h0 ⟨_, t₄, rfl, q _ _ ?_⟩ (by simp [sizeLine_eq]; omega)⟩
  exact D1.newList (vs := (slicePick xs.toArray lo' hi' st).toList)
/-! in a tuple of ints -/
theorem w_inTup {xs : List (Int × Tok)} {x : Int} {Q : Value → Heap → Prop} (D : St Z h l) (ha : (a, .obj (tupObj (iv xs))) ∈ l) (q : Q (.bool (xs.any fun p => p.1 == x)) h) : W Z k (compareOp .In (.int x t) (.ref a)) Q h := .mk fun tk => by
  refine SeqAt.in_tupleAt (s := Z.st h tk) (fun y => match y with | .int i _ => i == x | _ => false) ⟨_, D.get ha, rfl, _, rfl⟩ (fun y hy => ?_) ⟨h, tk, rfl, ?_⟩
  · obtain ⟨p, _, rfl⟩ := List.mem_map.mp (show y ∈ iv xs by simpa using hy)
    exact SeqAt.EqAt.int_int p.1 p.2 x t
  · have : ((iv xs).toArray.any fun y => match y with | .int i _ => i == x | _ => false) = xs.any fun p => p.1 == x := by
      simp [iv, List.any_map, Function.comp_def]
    rw [this]; exact q
theorem w_notInTup {xs : List (Int × Tok)} {x : Int} {Q : Value → Heap → Prop} (D : St Z h l) (ha : (a, .obj (tupObj (iv xs))) ∈ l) (q : Q (.bool (!xs.any fun p => p.1 == x)) h) : W Z k (compareOp .NotIn (.int x t) (.ref a)) Q h := .mk fun tk => by
  refine SeqAt.notIn_tupleAt (s := Z.st h tk) (fun y => match y with | .int i _ => i == x | _ => false) ⟨_, D.get ha, rfl, _, rfl⟩ (fun y hy => ?_) ⟨h, tk, rfl, ?_⟩
  · obtain ⟨p, _, rfl⟩ := List.mem_map.mp (show y ∈ iv xs by simpa using hy)
    exact SeqAt.EqAt.int_int p.1 p.2 x t
  · have : ((iv xs).toArray.any fun y => match y with | .int i _ => i == x | _ => false) = xs.any fun p => p.1 == x := by
      simp [iv, List.any_map, Function.comp_def]
    rw [this]; exact q
end
end Mine

namespace Mine
/-! zip of two lists -/
abbrev ziOb (TI TO : Addr) (f : Value) : Ob := .obj { cls := .type "zip", data := .fields #[f, .bool false, .bool false, .ref TI, .ref TO] }
abbrev zLed (z TI TO i1 i2 : Addr) (f va vb : Value) (l1 l2 : Addr) (j : Nat) : Led := [(z, ziOb TI TO f), (TO, .obj (tupObj [va, vb])), (i1, liOb l1 j), (i2, liOb l2 j), (TI, .obj (tupObj [.ref i1, .ref i2]))]
section
variable {Z : Sur} {h h' : Heap} {l l' : Led} {k : Nat} {env : Env}
theorem St.adds {new : Led} (D : St Z h l) (hk : ∀ b o, h.get? b = some o → h'.get? b = some o) (hn : (new.map (·.1)).Nodup) (hlo : ∀ p ∈ new, h.objs.size ≤ p.1) (ha : ∀ p ∈ new, p.2.At h' p.1) : St Z h' (new ++ l) := by
  have D1 := D.grow hk
  refine ⟨D1.old, fun p hp => ?_, ?_, fun p hp => ?_, D1.la⟩
  · rcases List.mem_append.mp hp with hp | hp
    · exact ha p hp
    · exact D1.at_ p hp
  · rw [List.map_append]
    refine List.nodup_append.mpr ⟨hn, D.nd, fun x hx y hy e => ?_⟩
    obtain ⟨p, hp, rfl⟩ := List.mem_map.mp hx
    obtain ⟨p', hp', rfl⟩ := List.mem_map.mp hy
    have h1 := hlo p hp
    have h2 := (D.at_ p' hp').lt
    rw [← e] at h2
    exact absurd h2 (Nat.not_lt.mpr h1)
  · rcases List.mem_append.mp hp with hp | hp
    · exact .inr (Nat.le_trans D.sz (hlo p hp))
    · exact D.lo p hp
theorem w_zip {a b : Addr} {xs ys : List Value} {Q : Value → Heap → Prop} (D : St Z h l) (ha : (a, .lst xs) ∈ l) (hb : (b, .lst ys) ∈ l) (q : ∀ z TI TO i1 i2 h', St Z h' (zLed z TI TO i1 i2 .none .none .none a b 0 ++ l) → Q (.ref z) h') :
    W Z k (call (.type "zip") [.ref a, .ref b]) Q h := .mk fun tk => by
  refine call_zip_2 (s := Z.st h tk) (D.list ha) (D.list hb) fun h' hz hTI hTO h1 h2 hsz hk => ⟨h', tk, rfl, q (h.objs.size + 4) (h.objs.size + 2) (h.objs.size + 3) h.objs.size (h.objs.size + 1) h' ?_⟩
  refine D.adds hk ?_ ?_ ?_
  · show [h.objs.size + 4, h.objs.size + 3, h.objs.size, h.objs.size + 1, h.objs.size + 2].Nodup
    simp
  · intro p hp
    simp only [zLed, List.mem_cons, List.not_mem_nil, or_false] at hp
    rcases hp with rfl | rfl | rfl | rfl | rfl <;> show h.objs.size ≤ _ <;> simp
  · intro p hp
    simp only [zLed, List.mem_cons, List.not_mem_nil, or_false] at hp
    rcases hp with rfl | rfl | rfl | rfl | rfl
    · exact hz
    · exact hTO
    · exact h1
    · exact h2
    · exact hTI
theorem w_iterZip {z TI TO : Addr} {f : Value} {Q : Value → Heap → Prop} (D : St Z h l) (hz : (z, ziOb TI TO f) ∈ l) (q : Q (.ref z) h) : W Z k (pyIter (.ref z)) Q h := .mk fun tk => wpAny_pyIter_zip (s := Z.st h tk) (D.get hz) ⟨h, tk, rfl, q⟩
theorem apart_of {z TI TO i1 i2 a b : Addr} {f va vb : Value} {j : Nat} {xs ys : List Value} (D : St Z h (zLed z TI TO i1 i2 f va vb a b j ++ l)) (ha : (a, .lst xs) ∈ l) (hb : (b, .lst ys) ∈ l) : ZipApart z TI TO i1 i2 a b := by
  have hnd := D.nd
  rw [List.map_append] at hnd
  obtain ⟨h1, h2, h3⟩ := List.nodup_append.mp hnd
  have h1 : [z, TO, i1, i2, TI].Nodup := h1
  have ka := keys_mem ha
  have kb := keys_mem hb
  have h3 : ∀ x ∈ [z, TO, i1, i2, TI], ∀ y ∈ l.map (·.1), x ≠ y := h3
  simp only [List.nodup_cons, List.mem_cons, List.not_mem_nil, or_false, not_or, List.nodup_nil, and_true] at h1
  obtain ⟨⟨n1, n2, n3, n4⟩, ⟨n5, n6, n7⟩, ⟨n8, n9⟩, n10⟩ := h1
  exact ⟨Ne.symm n4, Ne.symm n1, Ne.symm n2, Ne.symm n3, Ne.symm n7, Ne.symm n9, Ne.symm n10.1, n5, n6, n8,
    (h3 z (by simp) a ka).symm, (h3 TO (by simp) a ka).symm, (h3 i1 (by simp) a ka).symm, (h3 i2 (by simp) a ka).symm,
    (h3 z (by simp) b kb).symm, (h3 TO (by simp) b kb).symm, (h3 i1 (by simp) b kb).symm, (h3 i2 (by simp) b kb).symm⟩
theorem w_nextZip {z TI TO i1 i2 a b : Addr} {va vb x y : Value} {j : Nat} {xs ys : List Value} {Q : Option Value → Heap → Prop} (D : St Z h (zLed z TI TO i1 i2 .none va vb a b j ++ l)) (ha : (a, .lst xs) ∈ l) (hb : (b, .lst ys) ∈ l)
    (hx : xs[j]? = some x) (hy : ys[j]? = some y) (q : ∀ t h', St Z h' ((t, .obj (tupObj [x, y])) :: (zLed z TI TO i1 i2 (rawInt t) x y a b (j + 1) ++ l)) → Q (some (.ref t)) h') : W Z k (pyNext (.ref z)) Q h := .mk fun tk => by
  have A := apart_of D ha hb
  have mem : ∀ p ∈ zLed z TI TO i1 i2 .none va vb a b j, p.2.At h p.1 := fun p hp => D.at_ p (List.mem_append_left _ hp)
  refine wpAny_pyNext_zip_item (s := Z.st h tk) A (mem _ (.head _)) (mem _ (.tail _ (.tail _ (.tail _ (.tail _ (.head _)))))) (mem _ (.tail _ (.head _))) (mem _ (.tail _ (.tail _ (.head _)))) (mem _ (.tail _ (.tail _ (.tail _ (.head _)))))
    (D.list (List.mem_append_right _ ha)) (D.list (List.mem_append_right _ hb)) (by simpa using hx) (by simpa using hy) fun h' hz hTO h1 h2 ht hsz hk => ⟨h', tk, rfl, q _ h' ?_⟩
  have hTI : h'.get? TI = some (tupObj [.ref i1, .ref i2]) := hk TI _ A.TIz A.TITO A.TIi1 A.TIi2 (mem _ (.tail _ (.tail _ (.tail _ (.tail _ (.head _))))))
  have D1 : St Z h' (zLed z TI TO i1 i2 (rawInt h.objs.size) x y a b (j + 1) ++ l) := St.swap (c := zLed z TI TO i1 i2 .none va vb a b j) D
    (fun c o hc e => hk c o (fun x => hc (by rw [x]; exact .head _)) (fun x => hc (by rw [x]; exact .tail _ (.head _))) (fun x => hc (by rw [x]; exact .tail _ (.tail _ (.head _)))) (fun x => hc (by rw [x]; exact .tail _ (.tail _ (.tail _ (.head _))))) e)
    (List.Sublist.refl _) (fun p hp => by
      simp only [zLed, List.mem_cons, List.not_mem_nil, or_false] at hp
      rcases hp with rfl | rfl | rfl | rfl | rfl
      · exact hz
      · exact hTO
      · exact h1
      · exact h2
      · exact hTI)
  refine ⟨D1.old, fun p hp => ?_, ?_, fun p hp => ?_, D1.la⟩
  · rcases List.mem_cons.mp hp with rfl | hp
    · exact ht
    · exact D1.at_ p hp
  · rw [List.map_cons, List.nodup_cons]
    refine ⟨fun hm => ?_, D1.nd⟩
    have : h.objs.size ∈ (zLed z TI TO i1 i2 .none va vb a b j ++ l).map (·.1) := hm
    obtain ⟨p, hp, e'⟩ := List.mem_map.mp this
    have := (D.at_ p hp).lt
    rw [e'] at this
    exact Nat.lt_irrefl _ this
  · rcases List.mem_cons.mp hp with rfl | hp
    · exact .inr D.sz
    · exact D1.lo p hp
theorem w_endZip {z TI TO i1 i2 a b : Addr} {va vb : Value} {j : Nat} {xs ys : List Value} {Q : Option Value → Heap → Prop} (D : St Z h (zLed z TI TO i1 i2 .none va vb a b j ++ l)) (ha : (a, .lst xs) ∈ l) (hb : (b, .lst ys) ∈ l)
    (hx : xs.length ≤ j ∨ ys.length ≤ j) (q : ∀ h', St Z h' l → Q none h') : W Z k (pyNext (.ref z)) Q h := .mk fun tk => by
  have A := apart_of D ha hb
  have mem : ∀ p ∈ zLed z TI TO i1 i2 .none va vb a b j, p.2.At h p.1 := fun p hp => D.at_ p (List.mem_append_left _ hp)
  refine wpAny_pyNext_zip_end (s := Z.st h tk) rfl A (mem _ (.head _)) (mem _ (.tail _ (.tail _ (.tail _ (.tail _ (.head _)))))) (mem _ (.tail _ (.head _))) (mem _ (.tail _ (.tail _ (.head _)))) (mem _ (.tail _ (.tail _ (.tail _ (.head _)))))
    (D.list (List.mem_append_right _ ha)) (D.list (List.mem_append_right _ hb)) (by rcases hx with x | x; exact .inl (by simpa using x); exact .inr (by simpa using x)) fun h' hk => ⟨h', tk, rfl, q h' ?_⟩
  exact St.swap (c := zLed z TI TO i1 i2 .none va vb a b j) (c' := []) D
    (fun c o hc e => hk c o (fun x => hc (by rw [x]; exact .head _)) (fun x => hc (by rw [x]; exact .tail _ (.head _))) (fun x => hc (by rw [x]; exact .tail _ (.tail _ (.head _)))) (fun x => hc (by rw [x]; exact .tail _ (.tail _ (.tail _ (.head _))))) e)
    (List.nil_sublist _) (fun p hp => nomatch hp)
theorem w_goZip {elts : List PySem.Expr} {n : Nat} {pos : Pos} {z TI TO t : Addr} {Q : Unit → Heap → Prop} (D : St Z h l) (U : Upd l z (ziOb TI TO (rawInt t)) (ziOb TI TO .none) l') (q : ∀ h', St Z h' l' → Q () h') :
    W Z k (letOwnedTupleGo (.Tuple elts n pos) (.ref z) (.ref t)) Q h := .mk fun tk =>
  wpAny_letOwnedTupleGo_zip (s := Z.st h tk) (D.get U.mem) fun h' he hs => ⟨h', tk, rfl, q h' (D.upd U hs he)⟩
end
end Mine

namespace Mine
section
variable {Z : Sur} {h h' : Heap} {l l' : Led} {k : Nat} {cenv : Env} {elt target iter : PySem.Expr} {ifs : List PySem.Expr} {scope : Scope} {pos : Pos} {acc : Addr} {R : Heap → Prop}
theorem w_iterRI {it : Addr} {x left : Int} {Q : Value → Heap → Prop} (D : St Z h l) (hm : (it, riOb x left) ∈ l) (q : Q (.ref it) h) : W Z k (pyIter (.ref it)) Q h := .mk fun tk => wpAny_pyIter_rangeiter (s := Z.st h tk) (D.get hm) ⟨h, tk, rfl, q⟩
theorem w_iterLI {it a : Addr} {i : Nat} {Q : Value → Heap → Prop} (D : St Z h l) (hm : (it, liOb a i) ∈ l) (q : Q (.ref it) h) : W Z k (pyIter (.ref it)) Q h := .mk fun tk => wpAny_pyIter_listiter (s := Z.st h tk) (D.at_ _ hm) ⟨h, tk, rfl, q⟩
/-- what a turn does behind its target -/
def Turn (Z : Sur) (k : Nat) (cenv : Env) (elt : PySem.Expr) (ifs : List PySem.Expr) (acc : Addr) (I : Heap → Prop) (h : Heap) : Prop :=
  W Z k (forIn ifs true fun c r => if r = true then do let ok ← isTrue c cenv (eval c cenv); pure (ForInStep.yield ok) else pure (ForInStep.yield r)) (fun ok h₄ =>
    if ok = true then W Z k (eval elt cenv) (fun x h₅ => W Z k (call (.builtin "list.append") [.ref acc, x]) (fun _ h₆ => I h₆) h₅) h₄ else I h₄) h
theorem Turn.mono {I I' : Heap → Prop} (x : Turn Z k cenv elt ifs acc I h) (q : ∀ h, I h → I' h) : Turn Z k cenv elt ifs acc I' h :=
  W.mono x fun ok h₄ w => by
    cases ok with
    | false => exact q _ w
    | true => exact W.mono w fun x h₅ w => W.mono w fun _ h₆ w => q _ w
theorem go_range {it : Addr} {a n : Nat} (J : Nat → Led → Prop) (hJ : J a l) (D : St Z h ((it, rAt a n) :: l)) (han : a ≤ n)
    (turn : ∀ j l h t, a ≤ j → j < n → J j l → St Z h ((it, rAt (j + 1) n) :: l) → W Z k (assign target cenv (.int (j : Int) t)) (fun _ h₃ => Turn Z k cenv elt ifs acc (fun h₆ => ∃ l', J (j + 1) l' ∧ St Z h₆ ((it, rAt (j + 1) n) :: l')) h₃) h)
    (fin : ∀ l h, J n l → St Z h l → R h) (ht : ∀ v, letOwnedTupleGo target (.ref it) v = PySem.Sem.pure ()) : CompGo Z k (.ListComp elt [⟨target, iter, ifs, 0⟩] scope pos) (.ref it) acc cenv R h := by
  refine ⟨w_iterRI D (.head _) ⟨rfl, rfl⟩, c_compLoop (fun m h => ∃ j l, m = n - j ∧ a ≤ j ∧ j ≤ n ∧ J j l ∧ St Z h ((it, rAt j n) :: l)) ?_ (n - a) ⟨a, l, rfl, Nat.le_refl _, han, hJ, D⟩⟩
  rintro m h ⟨j, l, rfl, haj, hj, hJ, D⟩
  by_cases hlt : j < n
  · refine w_nextRange D (by omega) Upd.here fun t h D => ?_
    have D : St Z h ((it, rAt (j + 1) n) :: l) := by
      have e : ((n : Nat) : Int) - ((j : Nat) : Int) - 1 = (n : Int) - ((j + 1 : Nat) : Int) := by omega
      rw [e] at D
      exact D
    dsimp only
    rw [ht]
    refine W.pure' ?_
    refine (turn j l h t haj hlt hJ D).mono fun _ h₃ w => w.mono fun h₆ ⟨l', hJ', D'⟩ => ⟨_, by omega, j + 1, l', rfl, by omega, hlt, hJ', D'⟩
  · have : j = n := by omega
    subst this
    exact w_endRange D (by omega) Pick.here fun h D => fin l h hJ D
theorem go_list {it a : Addr} {vs : List Value} (J : Nat → Led → Prop) (hJ : J 0 l) (D : St Z h ((it, liOb a 0) :: (a, .lst vs) :: l))
    (turn : ∀ j v l h, vs[j]? = some v → J j l → St Z h ((it, liOb a (j + 1)) :: (a, .lst vs) :: l) → W Z k (assign target cenv v) (fun _ h₃ => Turn Z k cenv elt ifs acc (fun h₆ => ∃ l', J (j + 1) l' ∧ St Z h₆ ((it, liOb a (j + 1)) :: (a, .lst vs) :: l')) h₃) h)
    (fin : ∀ l h, J vs.length l → St Z h ((a, .lst vs) :: l) → R h) (ht : ∀ v, letOwnedTupleGo target (.ref it) v = PySem.Sem.pure ()) : CompGo Z k (.ListComp elt [⟨target, iter, ifs, 0⟩] scope pos) (.ref it) acc cenv R h := by
  refine ⟨w_iterLI D (.head _) ⟨rfl, rfl⟩, c_compLoop (fun m h => ∃ j l, m = vs.length - j ∧ j ≤ vs.length ∧ J j l ∧ St Z h ((it, liOb a j) :: (a, .lst vs) :: l)) ?_ vs.length ⟨0, l, rfl, Nat.zero_le _, hJ, D⟩⟩
  rintro m h ⟨j, l, rfl, hj, hJ, D⟩
  by_cases hlt : j < vs.length
  · obtain ⟨v, hv⟩ : ∃ v, vs[j]? = some v := ⟨_, List.getElem?_eq_getElem hlt⟩
    refine w_nextList D (.tail _ (.head _)) hv Upd.here fun h D => ?_
    dsimp only
    rw [ht]
    refine W.pure' ?_
    refine (turn j v l h hv hJ D).mono fun _ h₃ w => w.mono fun h₆ ⟨l', hJ', D'⟩ => ⟨_, by omega, j + 1, l', rfl, hlt, hJ', D'⟩
  · have : j = vs.length := by omega
    subst this
    exact w_endList (i := vs.length) D (.tail _ (.head _)) (Nat.le_refl _) Pick.here fun h D => fin l h hJ D
theorem go_enumL {e it a : Addr} {vs : List Value} {elts : List PySem.Expr} {nn : Nat} {tpos : Pos} (J : Nat → Led → Prop) (hJ : J 0 l) (D : St Z h ((e, enOb it 0 .none) :: (it, liOb a 0) :: (a, .lst vs) :: l))
    (turn : ∀ j v l h t tt, vs[j]? = some v → J j l → St Z h ((t, .obj (tupObj [.int (j : Int) tt, v])) :: (e, enOb it (j + 1) v) :: (it, liOb a (j + 1)) :: (a, .lst vs) :: l) →
      W Z k (assign (.Tuple elts nn tpos) cenv (.ref t)) (fun _ h₃ => Turn Z k cenv elt ifs acc (fun h₆ => ∃ l', J (j + 1) l' ∧ St Z h₆ ((e, enOb it (j + 1) v) :: (it, liOb a (j + 1)) :: (a, .lst vs) :: l')) h₃) h)
    (fin : ∀ l h, J vs.length l → St Z h ((a, .lst vs) :: l) → R h) : CompGo Z k (.ListComp elt [⟨.Tuple elts nn tpos, iter, ifs, 0⟩] scope pos) (.ref e) acc cenv R h := by
  refine ⟨w_iterEnum D (.head _) ⟨rfl, rfl⟩, c_compLoop (fun m h => ∃ j l old, m = vs.length - j ∧ j ≤ vs.length ∧ J j l ∧ St Z h ((e, enOb it j old) :: (it, liOb a j) :: (a, .lst vs) :: l)) ?_ vs.length ⟨0, l, _, rfl, Nat.zero_le _, hJ, D⟩⟩
  rintro m h ⟨j, l, old, rfl, hj, hJ, D⟩
  by_cases hlt : j < vs.length
  · obtain ⟨v, hv⟩ : ∃ v, vs[j]? = some v := ⟨_, List.getElem?_eq_getElem hlt⟩
    refine w_nextEnumL D (.head _) hv fun t tt h D => ?_
    dsimp only
    refine w_goEnum D (.there .here) fun h D => ?_
    refine (turn j v l h t tt hv hJ D).mono fun _ h₃ w => w.mono fun h₆ ⟨l', hJ', D'⟩ => ⟨_, by omega, j + 1, l', _, rfl, hlt, hJ', D'⟩
  · have : j = vs.length := by omega
    subst this
    exact w_endEnumL D (.head _) (Nat.le_refl _) fun h D => fin l h hJ D
theorem go_enumT {e it a : Addr} {vs : List Value} {elts : List PySem.Expr} {nn : Nat} {tpos : Pos} (J : Nat → Led → Prop) (hJ : J 0 l) (D : St Z h ((e, enOb it 0 .none) :: (it, tiOb a 0) :: (a, .obj (tupObj vs)) :: l))
    (turn : ∀ j v l h t tt, vs[j]? = some v → J j l → St Z h ((t, .obj (tupObj [.int (j : Int) tt, v])) :: (e, enOb it (j + 1) v) :: (it, tiOb a (j + 1)) :: (a, .obj (tupObj vs)) :: l) →
      W Z k (assign (.Tuple elts nn tpos) cenv (.ref t)) (fun _ h₃ => Turn Z k cenv elt ifs acc (fun h₆ => ∃ l', J (j + 1) l' ∧ St Z h₆ ((e, enOb it (j + 1) v) :: (it, tiOb a (j + 1)) :: (a, .obj (tupObj vs)) :: l')) h₃) h)
    (fin : ∀ l h, J vs.length l → St Z h ((a, .obj (tupObj vs)) :: l) → R h) : CompGo Z k (.ListComp elt [⟨.Tuple elts nn tpos, iter, ifs, 0⟩] scope pos) (.ref e) acc cenv R h := by
  refine ⟨w_iterEnum D (.head _) ⟨rfl, rfl⟩, c_compLoop (fun m h => ∃ j l old, m = vs.length - j ∧ j ≤ vs.length ∧ J j l ∧ St Z h ((e, enOb it j old) :: (it, tiOb a j) :: (a, .obj (tupObj vs)) :: l)) ?_ vs.length ⟨0, l, _, rfl, Nat.zero_le _, hJ, D⟩⟩
  rintro m h ⟨j, l, old, rfl, hj, hJ, D⟩
  by_cases hlt : j < vs.length
  · obtain ⟨v, hv⟩ : ∃ v, vs[j]? = some v := ⟨_, List.getElem?_eq_getElem hlt⟩
    refine w_nextEnumT D (.head _) hv fun t tt h D => ?_
    dsimp only
    refine w_goEnum D (.there .here) fun h D => ?_
    refine (turn j v l h t tt hv hJ D).mono fun _ h₃ w => w.mono fun h₆ ⟨l', hJ', D'⟩ => ⟨_, by omega, j + 1, l', _, rfl, hlt, hJ', D'⟩
  · have : j = vs.length := by omega
    subst this
    exact w_endEnumT D (.head _) fun h D => fin l h hJ D
theorem go_zip {z TI TO i1 i2 a b : Addr} {xs ys : List Value} {elts : List PySem.Expr} {nn : Nat} {tpos : Pos} (J : Nat → Led → Prop) (hJ : J 0 l) (D : St Z h (zLed z TI TO i1 i2 .none .none .none a b 0 ++ ((a, .lst xs) :: (b, .lst ys) :: l)))
    (turn : ∀ j x y l h t, xs[j]? = some x → ys[j]? = some y → J j l → St Z h ((t, .obj (tupObj [x, y])) :: (zLed z TI TO i1 i2 .none x y a b (j + 1) ++ ((a, .lst xs) :: (b, .lst ys) :: l))) →
      W Z k (assign (.Tuple elts nn tpos) cenv (.ref t)) (fun _ h₃ => Turn Z k cenv elt ifs acc (fun h₆ => ∃ l', J (j + 1) l' ∧ St Z h₆ (zLed z TI TO i1 i2 .none x y a b (j + 1) ++ ((a, .lst xs) :: (b, .lst ys) :: l'))) h₃) h)
    (fin : ∀ l h, J (min xs.length ys.length) l → St Z h ((a, .lst xs) :: (b, .lst ys) :: l) → R h) : CompGo Z k (.ListComp elt [⟨.Tuple elts nn tpos, iter, ifs, 0⟩] scope pos) (.ref z) acc cenv R h := by
  refine ⟨w_iterZip D (.head _) ⟨rfl, rfl⟩, c_compLoop (fun m h => ∃ j l va vb, m = min xs.length ys.length - j ∧ j ≤ min xs.length ys.length ∧ J j l ∧ St Z h (zLed z TI TO i1 i2 .none va vb a b j ++ ((a, .lst xs) :: (b, .lst ys) :: l))) ?_ (min xs.length ys.length) ⟨0, l, _, _, rfl, Nat.zero_le _, hJ, D⟩⟩
  rintro m h ⟨j, l, va, vb, rfl, hj, hJ, D⟩
  by_cases hlt : j < min xs.length ys.length
  · obtain ⟨x, hx⟩ : ∃ v, xs[j]? = some v := ⟨_, List.getElem?_eq_getElem (by omega)⟩
    obtain ⟨y, hy⟩ : ∃ v, ys[j]? = some v := ⟨_, List.getElem?_eq_getElem (by omega)⟩
    refine w_nextZip D (.head _) (.tail _ (.head _)) hx hy fun t h D => ?_
    dsimp only
    refine w_goZip D (.there .here) fun h D => ?_
    refine (turn j x y l h t hx hy hJ D).mono fun _ h₃ w => w.mono fun h₆ ⟨l', hJ', D'⟩ => ⟨_, by omega, j + 1, l', _, _, rfl, hlt, hJ', D'⟩
  · have : j = min xs.length ys.length := by omega
    subst this
    exact w_endZip D (.head _) (.tail _ (.head _)) (by omega) fun h D => fin l h hJ D
/-- a turn without tests -/
theorem turn_plain {I : Heap → Prop} (q : W Z k (eval elt cenv) (fun x h₅ => W Z k (call (.builtin "list.append") [.ref acc, x]) (fun _ h₆ => I h₆) h₅) h) : Turn Z k cenv elt [] acc I h := w_ifs_nil (by rw [if_pos rfl]; exact q)
theorem turn_if {c : PySem.Expr} {I : Heap → Prop} (q : W Z k (isTrue c cenv (eval c cenv)) (fun ok h₄ => if ok = true then W Z k (eval elt cenv) (fun x h₅ => W Z k (call (.builtin "list.append") [.ref acc, x]) (fun _ h₆ => I h₆) h₅) h₄ else I h₄) h) : Turn Z k cenv elt [c] acc I h := w_ifs_one q
end
end Mine

namespace Mine
section
variable {Z : Sur} {h h' : Heap} {l l' : Led} {k : Nat} {env : Env}
theorem St.add {a : Addr} {o : Ob} (D : St Z h l) (ha : o.At h a) (hn : a ∉ l.map (·.1)) (hlo : Z.h₁.objs.size ≤ a) : St Z h ((a, o) :: l) := by
  refine ⟨D.old, fun p hp => ?_, ?_, fun p hp => ?_, D.la⟩
  · rcases List.mem_cons.mp hp with rfl | hp
    · exact ha
    · exact D.at_ p hp
  · rw [List.map_cons, List.nodup_cons]; exact ⟨hn, D.nd⟩
  · rcases List.mem_cons.mp hp with rfl | hp
    · exact .inr hlo
    · exact D.lo p hp
theorem St.keyLt (D : St Z h l) {a : Addr} (ha : a ∈ l.map (·.1)) : a < h.objs.size := by
  obtain ⟨p, hp, rfl⟩ := List.mem_map.mp ha
  exact (D.at_ p hp).lt
theorem builtinsAt_keep (D : St Z h l) (hb : Z.h₁.BuiltinsAt Z.mg Z.T) : h.BuiltinsAt Z.mg Z.T :=
  let ⟨bm, o, a, b, c, d, e, r⟩ := hb; ⟨bm, o, a, b, c, d, D.old _ _ d e, r⟩
theorem codeHd_keep {c : Addr} (D : St Z h l) (x : CodeHd Z.h₁ c Z.T) : CodeHd h c Z.T :=
  let ⟨o, vs, file, tf, flags, tg, inF, text, tt, e, e1, e2, e3, e4, e5, e6, e7, e8, r⟩ := x; ⟨o, vs, file, tf, flags, tg, inF, text, tt, D.old _ _ r e, e1, e2, e3, e4, e5, e6, e7, e8, r⟩
/-! defs and lambdas made in a body -/
section
variable {name qual : Str} {params : Arguments} {scope : Scope} {pos : Pos} {firstLine : Nat} {clos : List (Str × Addr)} {c : Addr} {ps : Array Value}
theorem tabStep {c' : Addr} {oc fo : Obj} {ps' : Array Value} (D : St Z h ((Z.T, .obj (tabObj ps)) :: l)) (hx : Heap.ExtBut Z.T h h') (hge : h.objs.size ≤ c') (hoc : h'.get? c' = some oc) (htb : h'.get? Z.T = some (tabObj ps')) (hf : fo.isFreed = false) :
    St Z (h'.push fo) ((h'.objs.size, .obj fo) :: (c', .obj oc) :: (Z.T, .obj (tabObj ps')) :: l) := by
  have D1 : St Z h' ([(Z.T, .obj (tabObj ps'))] ++ l) := St.swap (c := [(Z.T, .obj (tabObj ps))]) D (fun b o hb e => hx b o (by simpa using hb) e) (List.Sublist.refl _) (fun p hp => by
    rcases List.mem_cons.mp hp with rfl | hp
    · exact htb
    · cases hp)
  have D2 : St Z h' ((c', .obj oc) :: (Z.T, .obj (tabObj ps')) :: l) := St.add D1 hoc (fun hm => absurd (D.keyLt (a := c') hm) (Nat.not_lt.mpr hge)) (Nat.le_trans D.sz hge)
  exact D2.alloc hf
theorem w_makeFn {body : List Stmt} {Q : Value → Heap → Prop} (G : Good Z) (hb : Z.h₁.BuiltinsAt Z.mg Z.T) (hC : CodeHd Z.h₁ c Z.T) (D : St Z h ((Z.T, .obj (tabObj ps)) :: l)) (ht : TriplesOk ps.toList) (hnf : codeAmong pos ps.toList = none)
    (hcl : closureFor scope env = pure clos) (hge : env.globals = mainGlobals) (hcode : env.code = .ref c)
    (q : ∀ f c' oc vs t ctv doc h', oc.data = .fields vs → vs[1]? = some (.str qual t) →
      St Z h' ((f, .obj (fnMade name qual params body scope clos doc ((Z.mg "__name__").getD .none) c' ctv)) :: (c', .obj oc) :: (Z.T, .obj (tabObj (ps ++ #[rawInt pos.line, rawInt pos.col, .ref c']))) :: l) → Q (.ref f) h') :
    W Z k (makeFunction name qual params (.stmts body) scope env [] [] [] pos firstLine) Q h := .mk fun tk => by
  refine makeFunction_K (s := Z.st h tk) (mg := Z.mg) hcl hge (D.global G) hcode (codeHd_keep D hC) (D.get (.head _)) ht hnf G.hT.1 (builtinsAt_keep D hb) fun c' ctv doc h' tk hx hge hlt hrec htb => ?_
  obtain ⟨c₂, oc, vs, t, e2, hoc, hd, hv⟩ := hrec
  cases e2
  exact ⟨_, tk, rfl, q _ c' oc vs t ctv doc _ hd hv (tabStep D hx hge hoc htb rfl)⟩
theorem w_makeLam {body : Expr} {Q : Value → Heap → Prop} (G : Good Z) (hb : Z.h₁.BuiltinsAt Z.mg Z.T) (hC : CodeHd Z.h₁ c Z.T) (D : St Z h ((Z.T, .obj (tabObj ps)) :: l)) (ht : TriplesOk ps.toList) (hnf : codeAmong pos ps.toList = none)
    (hcl : closureFor scope env = pure clos) (hge : env.globals = mainGlobals) (hcode : env.code = .ref c) (hdef : defaultsOf params env = ([], []))
    (q : ∀ f c' oc ctv h', St Z h' ((f, .obj (kla_obj "<lambda>" (env.qual ++ "<lambda>") params body scope clos ((Z.mg "__name__").getD .none) c' ctv)) :: (c', .obj oc) :: (Z.T, .obj (tabObj (ps ++ #[rawInt pos.line, rawInt pos.col, .ref c']))) :: l) → Q (.ref f) h') :
    W Z k (eval (.Lambda params body scope pos) env) Q h := .mk fun tk => by
  refine kla_eval hdef ?_
  refine kla_makeFunction (s := Z.st h tk) (mg := Z.mg) hcl hge (D.global G) hcode (codeHd_keep D hC) (D.get (.head _)) ht hnf G.hT.1 (builtinsAt_keep D hb) fun c' ctv h' tk hx hge hlt hrec htb => ?_
  obtain ⟨c₂, oc, vs, t, e2, hoc, hd, hv⟩ := hrec
  cases e2
  exact ⟨_, tk, rfl, q _ c' oc ctv _ (tabStep D hx hge hoc htb rfl)⟩
theorem w_Def {body : List Stmt} {Q : Flow → Heap → Prop} (hd0 : params.defaults = []) (hk0 : params.kw_defaults = []) (ha : annTrees params none env = [])
    (q : W Z k (makeFunction name (qualnameIn env name name) params (.stmts body) scope env [] [] [] pos pos.line) (fun v h₁ => W Z k (storeName env name v) (fun _ => Q .next) h₁) h) :
    W Z k (exec (.FunctionDef name params body [] none [] scope none name pos) env) Q h := .mk fun tk =>
  nestDef_K hd0 hk0 ha (q.cps (fun v h₁ tk₁ w => w.cps (fun _ h₂ tk₂ w => ⟨h₂, tk₂, rfl, w⟩) tk₁) tk)
end
/-! an attribute laid on a def -/
theorem lk_fn_sa : typeLookup (.type "function") "__setattr__" = pure (some (.builtin "object.__setattr__")) := by rw [typeLookup_type, builtinLookup_eq_fast]; kernel_rfl
theorem slot_fn_sa : Slot "function" "__setattr__" "object.__setattr__" :=
  .of (owner := "object") (n := "__setattr__") lk_fn_sa (by decide +kernel) (by decide +kernel) (by decide +kernel) (.inl (by rw [find?_eq_fast]; kernel_rfl)) sub_fn_object
theorem mro_fn : mroOf (.type "function") = pure [.type "function", .type "object"] := by first | rfl | kernel_rfl
theorem refuse_fn (self : Value) : refuseLoop self "__setattr__" [.type "function", .type "object"] = pure () := by kernel_rfl
theorem w_fnSet {a : Addr} {fd : FuncData} {v : Value} {Q : Unit → Heap → Prop} (D : St Z h ((a, .obj { cls := .type "function", data := .func fd }) :: l))
    (q : ∀ d h', St Z h' ((a, .obj { cls := .type "function", dict := some d, data := .func fd }) :: (d, .dct [("read", some v)]) :: l) → Q () h') : W Z k (setAttr (.ref a) "read" v) Q h := .mk fun tk => by
  have hg := D.get (.head _)
  have hT : ∀ tk, (Z.st h tk).TypeIs (.ref a) "function" := fun tk => ⟨_, hg, rfl⟩
  unfold setAttr
  refine wpAny_bind (wpAny_mkText (wpAny_bind (wpAny_callSpecial?_slot (name := Str.ofString "__setattr__") (hT _) slot_fn_sa (wpAny_call_entry slot_fn_sa (hT _) PySem.F.store_object.entry ?_ (PySem.F.store_object.args _ _ _)))))
  rw [osa_eq, refuse_eq]
  refine wpAny_bind (wpAny_bind (wpAny_typeOf (hT _) (wpAny_bind (wpAny_of_eq mro_fn ?_))))
  rw [refuse_fn]
  refine wpAny_pure (wpAny_bind (wpAny_typeOf (hT _) (wpAny_bind (wpAny_of_eq lk_fn_read (wpAny_bind (wpAny_pure ?_))))))
  show wpAny _ _ (Builtin.ObjectAttr.storeInOwnDict _ _ _ _ _ _) _ _ _
  unfold Builtin.ObjectAttr.storeInOwnDict
  refine wpAny_bind (wpAny_of_eq (a := ()) rfl ?_)
  rw [if_neg (by decide)]
  refine wpAny_bind (m := Builtin.ObjectAttr.ownDictForStores (.ref a)) ?_
  show wpAny _ _ (instanceDict a true) _ _ _
  unfold instanceDict
  refine wpAny_bind (wpAny_loadPart hg ?_)
  dsimp only
  rw [if_neg (by decide +kernel)]
  refine wpAny_bind (wpAny_alloc ?_)
  have hne : a ≠ h.objs.size := Nat.ne_of_lt (Heap.lt_size hg)
  have hg1 : (h.push emptyDict).get? a = some { cls := .type "function", data := .func fd } := Heap.get?_push_of_some _ hg
  refine wpAny_bind (wpAny_update (s := Z.st (h.push emptyDict) (tk + 1)) hg1 ?_)
  refine wpAny_of_eq (a := some h.objs.size) (by first | rfl | kernel_rfl) ?_
  dsimp only
  have hd1 : (h.push emptyDict).get? h.objs.size = some emptyDict := Heap.get?_push_size _ rfl
  obtain ⟨H, hH⟩ : ∃ H, (h.push emptyDict).update a (fun o => { cls := o.cls, dict := some h.objs.size, data := o.data, slots := o.slots }) = H := ⟨_, rfl⟩
  have hs : Heap.SameBut a (h.push emptyDict) H := hH ▸ Heap.SameBut.update ..
  have hga : H.get? a = some { cls := .type "function", dict := some h.objs.size, data := .func fd } := by rw [← hH, Heap.get?_update_self _ hg1 rfl]
  have hgd : H.get? h.objs.size = some emptyDict := (hs.2 _ hne.symm).trans hd1
  unfold Builtin.ObjectAttr.storeInDict
  refine wpAny_bind (wpAny_pure (wpAny_bind ?_))
  subst hH
  refine nsSet_d (s := Z.st ((h.push emptyDict).update a (fun o => { cls := o.cls, dict := some h.objs.size, data := o.data, slots := o.slots })) (tk + 1)) hgd (by intro e he; simp at he) fun h' es' ep' hg' sk' hm' hz' hs' => ?_
  have hnil : nsFind (#[] : Array DictEntry) "read" = none := rfl
  rw [hnil] at hz'
  have hz1 : es'.size = 1 := by simpa using hz'
  refine wpAny_bind (wpAny_lookBehind (s := Z.st h' (tk + 1 + 1)) hg' (pastItsLine_dict (by rw [hz1, sizeLine_eq]; decide)) ?_)
  refine wpAny_pure ⟨_, rfl, wpAny_pure ⟨h', _, rfl, q h.objs.size h' ?_⟩⟩
  have hga' : h'.get? a = some { cls := .type "function", dict := some h.objs.size, data := .func fd } := (hs'.2 _ hne).trans hga
  have D1 : St Z h' ([(a, .obj { cls := .type "function", dict := some h.objs.size, data := .func fd })] ++ l) := St.swap (c := [(a, .obj { cls := .type "function", data := .func fd })]) D (fun b o hb e => by
      have hba : b ≠ a := by simpa using hb
      have hbd : b ≠ h.objs.size := Nat.ne_of_lt (Heap.lt_size e)
      exact (hs'.2 _ hbd).trans ((hs.2 _ hba).trans (Heap.get?_push_of_some _ e))) (List.Sublist.refl _) (fun p hp => by
    rcases List.mem_cons.mp hp with rfl | hp
    · exact hga'
    · cases hp)
  have D2 : St Z h' ((h.objs.size, .dct [("read", some v)]) :: (a, .obj { cls := .type "function", dict := some h.objs.size, data := .func fd }) :: l) := by
    refine St.add D1 ⟨by simp, es', ep', hg', sk', fun x => ?_, by rw [hz1]; rfl⟩ (fun hm => absurd (D.keyLt (a := h.objs.size) hm) (Nat.lt_irrefl _)) D.sz
    rw [hm']
    unfold locMap
    rw [List.lookup_cons]
    by_cases e : x = "read"
    · subst e; simp
    · rw [if_neg e, beq_eq_false_iff_ne.mpr e]; rfl
  exact D2.perm (.swap ..)
end
end Mine

namespace Mine
section
variable {Z : Sur} {h h' : Heap} {l l' : Led} {k : Nat} {env : Env}
theorem w_withK {pos : Pos} {f : Value} {first : List Value} {args : List (Bool × Sem Value)} {Q : Value → Heap → Prop} (G : Good Z) (hk : keepIn Z.K f = true) (hp : args.any (·.1) = false)
    (q : W Z k (spliced args) (fun vs h' => (∃ l, St Z h' l) ∧ W Z k (PySem.call f (first ++ vs)) Q h') h) : W Z k (callWith pos f first args []) Q h := .mk fun tk => by
  refine callWith_of (P := Z.K.In) (by rw [hp]; rfl) (keeps_K hk) ?_
  exact (w_evalArgs (Q := fun a h' => (∃ l, St Z h' l) ∧ W Z k (PySem.call f (first ++ a.pos) a.kw) Q h') hp q).cps (fun a h₁ tk₁ w => by
    obtain ⟨⟨l, D⟩, w⟩ := w
    exact ⟨D.inK G, w.run tk₁⟩) tk
/-- an instance of the text's own class made -/
theorem c_make {Cl fI : Addr} {rest : List Value} {names : List Str} {Q : Value → Heap → Prop} (G : Good Z) (D : St Z h l) (hm : makesIn Z.K Cl = true) (hi : findIn Z.K (.ref Cl) "__init__" = some (some (.ref fI))) (hf : isFn Z.K (.ref fI) = true) (hn : names.Nodup)
    (q : ∀ x dx h', St Z h' ((x, .obj (instObj Cl dx)) :: (dx, .dct (names.map fun y => (y, none))) :: l) → C Z (k + 1) (.call (.ref fI) ⟨.ref x :: rest, []⟩) (fun f h'' => ∃ v, f = .ret v ∧ v = .none ∧ Q (.ref x) h'') h') :
    C Z k (.call (.ref Cl) ⟨rest, []⟩) (fun f h' => ∃ v, f = .ret v ∧ Q v h') h := .mk fun tk => by
  have X := D.inK G
  have D1 : St Z (h.push emptyDict) ((h.objs.size, .dct (names.map fun y => (y, none))) :: l) := by
    refine D.cons (fun _ _ e => Heap.get?_push_of_some _ e) ⟨by simpa [Function.comp_def] using hn, #[], 0, Heap.get?_push_size _ rfl, by intro e he; simp at he, fun x => ?_, ?_⟩ (Nat.le_refl _)
    · rw [ns_names]; rfl
    · unfold locCount
      clear q hn
      induction names with
      | nil => rfl
      | cons y ys ih => simpa using ih
  have D2 := D1.alloc (o := instObj Cl h.objs.size) rfl
  rw [Heap.size_push] at D2
  refine make_core (makes_of X hm) (looks_findIn X hi) (fun self => bind_fn X self (beq_iff_eq.mp hf)) (.inl rfl) ?_
  refine codeAny_weaken (A' := Lv (k + 1)) (codeAny_mono ((q _ _ _ D2).run tk) ?_) rfl ?_ rfl rfl ?_
  · rintro r s ⟨f, h', tk', rfl, rfl, v, rfl, rfl, w⟩
    exact ⟨rfl, _, h', tk', rfl, rfl, _, rfl, w⟩
  · rw [depth_under_make]
    show 310 + 10 * k + 1 ≤ 310 + 10 * (k + 1); omega
  · show 50 + 100 * k + (1 + 3 * 0) ≤ 50 + 100 * (k + 1); omega
end
namespace L2
local macro_rules | `(tactic| walk_at "mem") => `(tactic| first | exact List.Mem.head _ | (refine List.Mem.tail _ ?_; walk_at "mem"))
local macro_rules | `(tactic| walk_at "upd") => `(tactic| first | exact Upd.here | (apply Upd.there; walk_at "upd"))
local macro_rules | `(tactic| walk_at "put") => `(tactic| first | exact Put.here | (apply Put.there; walk_at "put"))
local macro_rules | `(tactic| walk_at "pick") => `(tactic| first | exact Pick.here | (apply Pick.there; walk_at "pick"))
local macro_rules | `(tactic| walk_at "name") => `(tactic| first
  | refine w_localName (by assumption) (by walk_at "mem") (by walk_at "mem") ?_ rfl rfl rfl
  | refine w_freeName (by assumption) (by walk_at "mem") ?_ rfl rfl rfl rfl rfl
  | refine w_cellName (by assumption) (by walk_at "mem") ?_ rfl rfl rfl rfl)
local macro_rules | `(tactic| walk_at "load") => `(tactic| refine W.loadLocal (by assumption) (by walk_at "mem") (by walk_at "mem") rfl rfl ?_)
local macro_rules | `(tactic| walk_at "store") => `(tactic| (refine w_store (by assumption) (by walk_at "mem") (by walk_at "put") (by walk_at "upd") rfl rfl ?_))
local macro_rules | `(tactic| walk_at "bi") => `(tactic| refine w_bi (by assumption) (by assumption) (by walk_at "mem") ?_ rfl rfl rfl rfl rfl)
local macro_rules | `(tactic| walk_at "gl") => `(tactic| refine w_gl (by assumption) (by assumption) (by walk_at "mem") ?_ rfl rfl rfl rfl)

local macro_rules | `(tactic| walk_at "attr") => `(tactic| first
  | refine w_attr (Facts.g (by assumption)) (by assumption) (Facts.cls (by assumption)) (Facts.aIn (by assumption)) (by walk_at "mem") (by walk_at "mem") (by walk_at "mem") rfl ?_
  | refine w_attr (Facts.g (by assumption)) (by assumption) (Facts.cls (by assumption)) (Facts.aPb (by assumption)) (by walk_at "mem") (by walk_at "mem") (by walk_at "mem") rfl ?_
  | refine w_attr (Facts.g (by assumption)) (by assumption) (Facts.cls (by assumption)) (Facts.aWs (by assumption)) (by walk_at "mem") (by walk_at "mem") (by walk_at "mem") rfl ?_
  | refine w_attr (Facts.g (by assumption)) (by assumption) (Facts.cls (by assumption)) (Facts.aLine (by assumption)) (by walk_at "mem") (by walk_at "mem") (by walk_at "mem") rfl ?_)
theorem init_spec {Z : Sur} {h : Heap} {l : Led} {k : Nat} {x dx st : Addr} {Q : Value → Heap → Prop} (F : Facts Z) (D : St Z h ((x, .obj (instObj 52 dx)) :: (dx, .dct [("lineno", none), ("instream", none), ("whitespace", none), ("pushback", none)]) :: l)) (hk : k < 58)
    (q : ∀ h' tn tw pb, St Z h' ((pb, .lst []) :: (x, .obj (instObj 52 dx)) :: (dx, .dct [("lineno", some (.int 1 tn)), ("instream", some (.ref st)), ("whitespace", some (.str (S [10, 9, 13, 32]) tw)), ("pushback", some (.ref pb))]) :: l) → Q .none h') :
    C Z k (.call (.ref 28) ⟨[.ref x, .ref st], []⟩) (fun f h' => ∃ v, f = .ret v ∧ Q v h') h := by
  refine c_callTop [("self", .ref x), ("fp", .ref st)] ["self", "fp"] [] [("self", some (.ref x)), ("fp", some (.ref st))] F.g D F.init rfl (Binds.of (by kernel_rfl)) rfl rfl rfl rfl (by decide) (by omega) rfl rfl rfl ?_
  intro L h D
  refine w_execs_cons ?_
  refine w_AssignAttr ?_ rfl
  refine w_int fun t1 => ?_
  walk_at "name"
  refine w_setA F.g D F.cls F.aLine (by walk_at "mem") (by walk_at "mem") (by walk_at "put") (by walk_at "upd") rfl ?_
  intro h D
  refine w_execs_cons ?_
  refine w_AssignAttr ?_ rfl
  walk_at "name"
  walk_at "name"
  refine w_setA F.g D F.cls F.aIn (by walk_at "mem") (by walk_at "mem") (by walk_at "put") (by walk_at "upd") rfl ?_
  intro h D
  refine w_execs_cons ?_
  refine w_AssignAttr ?_ rfl
  refine w_str fun t2 => ?_
  walk_at "name"
  refine w_setA F.g D F.cls F.aWs (by walk_at "mem") (by walk_at "mem") (by walk_at "put") (by walk_at "upd") rfl ?_
  intro h D
  refine w_execs_cons ?_
  refine w_AssignAttr ?_ rfl
  refine w_List ?_
  refine w_arg_nil ?_
  refine ⟨by decide, _, D, fun pb h D => ?_⟩
  walk_at "name"
  refine w_setA F.g D F.cls F.aPb (by walk_at "mem") (by walk_at "mem") (by walk_at "put") (by walk_at "upd") rfl ?_
  intro h D
  refine w_execs_nil ?_
  exact q _ t1 t2 pb (D.drop (.there .here))
end L2
end Mine

namespace Mine
namespace L2
local macro_rules | `(tactic| walk_at "mem") => `(tactic| first | exact List.Mem.head _ | (refine List.Mem.tail _ ?_; walk_at "mem"))
local macro_rules | `(tactic| walk_at "upd") => `(tactic| first | exact Upd.here | (apply Upd.there; walk_at "upd"))
local macro_rules | `(tactic| walk_at "put") => `(tactic| first | exact Put.here | (apply Put.there; walk_at "put"))
local macro_rules | `(tactic| walk_at "pick") => `(tactic| first | exact Pick.here | (apply Pick.there; walk_at "pick"))
local macro_rules | `(tactic| walk_at "name") => `(tactic| first
  | refine w_localName (by assumption) (by walk_at "mem") (by walk_at "mem") ?_ rfl rfl rfl
  | refine w_freeName (by assumption) (by walk_at "mem") ?_ rfl rfl rfl rfl rfl
  | refine w_cellName (by assumption) (by walk_at "mem") ?_ rfl rfl rfl rfl)
local macro_rules | `(tactic| walk_at "load") => `(tactic| refine W.loadLocal (by assumption) (by walk_at "mem") (by walk_at "mem") rfl rfl ?_)
local macro_rules | `(tactic| walk_at "store") => `(tactic| (refine w_store (by assumption) (by walk_at "mem") (by walk_at "put") (by walk_at "upd") rfl rfl ?_))
local macro_rules | `(tactic| walk_at "bi") => `(tactic| refine w_bi (by assumption) (by assumption) (by walk_at "mem") ?_ rfl rfl rfl rfl rfl)
local macro_rules | `(tactic| walk_at "gl") => `(tactic| refine w_gl (by assumption) (by assumption) (by walk_at "mem") ?_ rfl rfl rfl rfl)

theorem lexer_spec {Z : Sur} {h : Heap} {l : Led} {k : Nat} {cs : List Nat} {tt : Tok} {Q : Value → Heap → Prop} (F : Facts Z) (D : St Z h ((Z.T, .obj (tabObj #[])) :: l)) (hz : cs.length ≤ 100000) (hk : k < 50)
    (q : ∀ h' X σ ps, X.cs = cs → LexOk X → LexAt X σ → σ.p = 0 → σ.ws = [] → St Z h' (led X σ ++ ((Z.T, .obj (tabObj ps)) :: l)) → Q (.ref X.self) h') :
    W Z k (call (.ref 114) [.str (S cs) tt]) Q h := by
  refine W.call (c_callCells (fd := fLex) [("text", .str (S cs) tt)] [] ["read", "stream"] [("read", none), ("stream", none)] [("text", some (.str (S cs) tt)), ("place", none)] ["text", "place"] F.g D (F.lex.here D) rfl (F.lex.rec_ D) rfl rfl rfl rfl rfl (by decide) (fun n => rfl) rfl rfl (by decide) rfl (by omega) rfl rfl rfl ?_)
  intro L h D
  dsimp only [cellLed, List.cons_append, List.nil_append] at D
  refine w_execs_cons ?_
  refine w_AssignName ?_ rfl
  refine w_List ?_
  refine w_arg rfl ?_
  refine w_int fun t1 => ?_
  refine w_arg_nil ?_
  refine ⟨Nat.le_of_ble_eq_true rfl, _, D, fun pl h D => ?_⟩
  refine w_storeC D rfl rfl rfl (by walk_at "upd") ?_
  intro h D
  refine w_execs_cons ?_
  refine w_Def rfl rfl rfl ?_
  have D := D.front (p := (Z.T, .obj (tabObj #[]))) (by walk_at "pick")
  refine w_makeFn F.g F.bm F.hd D trivial rfl rfl rfl rfl ?_
  intro f c' oc vs t ctv doc h e1 e2 D
  walk_at "store"; intro h D
  refine w_execs_cons ?_
  refine w_AssignName ?_ rfl
  have D := D.front (p := (Z.T, .obj (tabObj _))) (by walk_at "pick")
  refine w_makeLam F.g F.bm F.hd D trivial rfl rfl rfl rfl rfl ?_
  intro st lc loc lctv h D
  walk_at "store"; intro h D
  refine w_execs_cons ?_
  refine w_AssignAttr ?_ rfl
  walk_at "name"
  walk_at "name"
  have D := D.front (p := (st, _)) (by walk_at "pick")
  refine w_fnSet D ?_
  intro sd h D
  refine w_execs_cons ?_
  refine w_Return ?_
  refine w_Call rfl ?_
  walk_at "gl"
  refine w_withK F.g F.keep rfl ?_
  refine w_arg rfl ?_
  walk_at "name"
  refine w_arg_nil ?_
  refine ⟨⟨_, D⟩, ?_⟩
  refine W.call ?_
  refine c_make (names := ["lineno", "instream", "whitespace", "pushback"]) F.g D F.made F.mInit F.iInit (by decide) ?_
  intro x dx h D
  refine C.mono (init_spec (Q := fun v h'' => v = .none ∧ Q (.ref x) h'') F D (by omega) ?_) (fun f h' w => w)
  intro h tn tw pb D
  refine ⟨rfl, ?_⟩
  have D := D.drop (p := (lc, _)) (by walk_at "pick")
  have D := D.drop (p := (L, _)) (by walk_at "pick")
  have D := D.front (p := (Z.T, _)) (by walk_at "pick")
  have D := D.front (p := (pl, _)) (by walk_at "pick")
  have D := D.front (p := (L + 1 + 1, _)) (by walk_at "pick")
  have D := D.front (p := (L + 1, _)) (by walk_at "pick")
  have D := D.front (p := (c', _)) (by walk_at "pick")
  have D := D.front (p := (f, _)) (by walk_at "pick")
  have D := D.front (p := (sd, _)) (by walk_at "pick")
  have D := D.front (p := (st, _)) (by walk_at "pick")
  have D := D.front (p := (pb, _)) (by walk_at "pick")
  have D := D.front (p := (dx, _)) (by walk_at "pick")
  have D := D.front (p := (x, _)) (by walk_at "pick")
  refine q h { self := x, dx := dx, pb := pb, st := st, sd := sd, rf := f, rc := c', ct := L + 1, cp := L + 1 + 1, pl := pl, tw := tw, tt := tt, lam := kla_fn "<lambda>" _ _ _ _ _ _ (.ref lc) lctv, pm := (Z.mg "__name__").getD .none, clt := ctv, doc := doc, oc := oc, cs := cs }
    { p := 0, tp := t1, n := 1, tn := tn, ws := [] } _ rfl ⟨⟨vs, t, e1, e2⟩, hz⟩ ⟨?_, Nat.zero_le _⟩ rfl rfl D
  show (1 : Int) = 1 + ((cs.take 0).count 10 : Nat)
  simp
end L2
end Mine

namespace Mine
/-! the cutting, plainly -/
def cutAt (cuts : Int) (j : Nat) : Bool := cuts / 2 ^ j % 2 == 1
def endsTo (cuts : Int) (n : Nat) : List Nat := (List.range' 1 (n - 1)).filter (cutAt cuts)
def endsOf (cards : Nat) (cuts : Int) : List Nat := endsTo cuts cards ++ [cards]
def pilesOf (cards : Nat) (cuts : Int) : List Int := List.zipWith (fun a b : Nat => (b : Int) - (a : Int)) (0 :: endsOf cards cuts) (endsOf cards cuts)
theorem endsTo_succ {cuts : Int} {n : Nat} (h : 1 ≤ n) : endsTo cuts (n + 1) = endsTo cuts n ++ if cutAt cuts n then [n] else [] := by
  unfold endsTo
  obtain ⟨m, rfl⟩ : ∃ m, n = m + 1 := ⟨n - 1, by omega⟩
  rw [Nat.add_sub_cancel, Nat.add_sub_cancel, List.range'_concat, List.filter_append]
  congr 1
  rw [show 1 + 1 * m = m + 1 by omega, List.filter_cons, List.filter_nil]
theorem endsTo_len {cuts : Int} {n : Nat} : (endsTo cuts n).length ≤ n - 1 := by
  unfold endsTo
  have := List.length_filter_le (cutAt cuts) (List.range' 1 (n - 1))
  simpa using this
section
variable {Z : Sur} {h : Heap} {k : Nat}
/-- ints that stand for numbers -/
def nv (xs : List (Nat × Tok)) : List Value := xs.map fun p => .int (p.1 : Int) p.2
theorem nv_app (xs ys : List (Nat × Tok)) : nv (xs ++ ys) = nv xs ++ nv ys := by simp [nv]
theorem rAt_one {n : Nat} (h : 1 ≤ n) : riOb 1 (if (1 : Int) < (n : Int) then (n : Int) - 1 else 0) = rAt 1 n := by
  have : (if (1 : Int) < (n : Int) then (n : Int) - 1 else 0) = (n : Int) - ((1 : Nat) : Int) := by split <;> omega
  rw [this]; rfl
end
namespace L2
local macro_rules | `(tactic| walk_at "mem") => `(tactic| first | exact List.Mem.head _ | (refine List.Mem.tail _ ?_; walk_at "mem"))
local macro_rules | `(tactic| walk_at "upd") => `(tactic| first | exact Upd.here | (apply Upd.there; walk_at "upd"))
local macro_rules | `(tactic| walk_at "put") => `(tactic| first | exact Put.here | (apply Put.there; walk_at "put"))
local macro_rules | `(tactic| walk_at "pick") => `(tactic| first | exact Pick.here | (apply Pick.there; walk_at "pick"))
local macro_rules | `(tactic| walk_at "name") => `(tactic| first
  | refine w_localName (by assumption) (by walk_at "mem") (by walk_at "mem") ?_ rfl rfl rfl
  | refine w_freeName (by assumption) (by walk_at "mem") ?_ rfl rfl rfl rfl rfl
  | refine w_cellName (by assumption) (by walk_at "mem") ?_ rfl rfl rfl rfl)
local macro_rules | `(tactic| walk_at "load") => `(tactic| refine W.loadLocal (by assumption) (by walk_at "mem") (by walk_at "mem") rfl rfl ?_)
local macro_rules | `(tactic| walk_at "store") => `(tactic| (refine w_store (by assumption) (by walk_at "mem") (by walk_at "put") (by walk_at "upd") rfl rfl ?_))
local macro_rules | `(tactic| walk_at "bi") => `(tactic| refine w_bi (by assumption) (by assumption) (by walk_at "mem") ?_ rfl rfl rfl rfl rfl)
local macro_rules | `(tactic| walk_at "gl") => `(tactic| refine w_gl (by assumption) (by assumption) (by walk_at "mem") ?_ rfl rfl rfl rfl)

theorem piles_spec {Z : Sur} {h : Heap} {l : Led} {k cards : Nat} {cuts : Int} {t1 t2 : Tok} {Q : Value → Heap → Prop} (F : Facts Z) (D : St Z h l) (hc : 1 ≤ cards ∧ cards ≤ 50) (hk : k < 50)
    (q : ∀ h' a ps, ps.map (·.1) = pilesOf cards cuts → St Z h' ((a, .lst (iv ps)) :: l) → Q (.ref a) h') :
    W Z k (call (.ref 119) [.int (cards : Int) t1, .int cuts t2]) Q h := by
  refine W.call (c_callCells (fd := fPil) [("cards", .int (cards : Int) t1), ("cuts", .int cuts t2)] ["cards"] ["ends"] [("cards", some (.int (cards : Int) t1)), ("ends", none)] [("cuts", some (.int cuts t2))] ["cuts"] F.g D (F.pil.here D) rfl (F.pil.rec_ D) rfl rfl rfl rfl rfl (by decide) (fun n => rfl) rfl rfl (by decide) rfl (by omega) rfl rfl rfl ?_)
  intro L h D
  dsimp only [cellLed, List.cons_append, List.nil_append] at D
  refine w_execs_cons ?_
  refine w_AssignName ?_ rfl
  refine w_BinOp ?_
  refine w_ListComp (cl := [("cuts", L + 1)]) ["j"] rfl (fun _ => rfl) rfl rfl rfl (by decide) ?_
  refine w_Call rfl ?_
  walk_at "bi"
  refine w_withType rfl ?_
  refine w_arg rfl ?_
  refine w_int fun t3 => ?_
  refine w_arg rfl ?_
  walk_at "name"
  refine w_arg_nil ?_
  refine w_range2 D ?_
  intro r tr h D
  refine w_iterRange D (.head _) (by decide) (by omega) ?_
  intro itO h D
  rw [rAt_one hc.1] at D
  have D := D.drop (.there .here)
  refine ⟨_, D, fun acc Cc h D => ?_⟩
  have D := D.front (p := (itO, _)) (by walk_at "pick")
  refine go_range (fun j l' => ∃ (xs : List (Nat × Tok)) (jv : Option Value), xs.map (·.1) = endsTo cuts j ∧ l' = (Cc, .ns [("j", jv)]) :: (acc, .lst (nv xs)) :: (L, .ns [("cards", some (.int (cards : Int) t1)), ("ends", none)]) :: (L + 1, .cell (some (.int cuts t2))) :: l) ⟨[], none, rfl, rfl⟩ D hc.1 ?_ ?_ (fun _ => rfl)
  · clear D
    rintro j _ h tj h1 hj ⟨xs, jv, hxs, rfl⟩ D
    refine w_assignName ?_
    walk_at "store"; intro h D
    refine turn_if ?_
    refine w_isCompare ?_ rfl
    refine w_BinOp ?_
    refine w_BinOp ?_
    walk_at "name"
    refine w_BinOp ?_
    refine w_int fun t4 => ?_
    walk_at "name"
    refine w_powInt (by have : (Builtin.Int.intBits 2 : Int) = 2 := by decide
                        rw [this]; omega) fun t5 => ?_
    refine w_divInt (by exact Int.pow_pos (by decide)) ?_ fun t6 => ?_
    · have : (2 : Int) ^ j = ((2 ^ j : Nat) : Int) := by simp
      rw [this]
      exact Int.ofNat_lt.mpr (Nat.pow_lt_pow_right (by decide) (by omega))
    refine w_int fun t7 => ?_
    refine w_modInt (by decide) fun t8 => ?_
    refine w_int fun t9 => ?_
    refine w_eqInt ?_
    refine w_truthy_bool ?_
    by_cases hb : cutAt cuts j = true
    · have hb' : (cuts / 2 ^ j % 2 == 1) = true := hb
      rw [hb', if_pos rfl]
      walk_at "name"
      have hlen : xs.length ≤ 100 := by
        have h1 := congrArg List.length hxs
        have h2 := endsTo_len (cuts := cuts) (n := j)
        rw [List.length_map] at h1; omega
      refine w_append D (by walk_at "upd") (by unfold nv; rw [List.length_map]; omega) ?_
      intro h D
      refine ⟨_, ⟨xs ++ [(j, tj)], some (.int (j : Int) tj), ?_, rfl⟩, ?_⟩
      · rw [List.map_append, hxs, endsTo_succ h1, hb]; rfl
      · rw [nv_app]; exact D
    · have hb' : (cuts / 2 ^ j % 2 == 1) = false := by simpa [cutAt] using hb
      rw [hb', if_neg (by decide)]
      refine ⟨_, ⟨xs, some (.int (j : Int) tj), ?_, rfl⟩, D⟩
      rw [endsTo_succ h1, if_neg hb, List.append_nil, hxs]
  · rintro _ h ⟨xs, jv, hxs, rfl⟩ D
    refine ⟨_, _, D, fun h D => ?_⟩
    refine w_List ?_
    refine w_arg rfl ?_
    walk_at "name"
    refine w_arg_nil ?_
    refine ⟨Nat.le_of_ble_eq_true rfl, _, D, fun b h D => ?_⟩
    have hlen : xs.length ≤ 100 := by
      have h1 := congrArg List.length hxs
      have h2 := endsTo_len (cuts := cuts) (n := cards)
      rw [List.length_map] at h1; omega
    refine w_addList D (by walk_at "mem") (by walk_at "mem") (by unfold nv; rw [List.length_map]; simp only [List.length_cons, List.length_nil]; omega) ?_
    intro e h D
    have D : St Z h ((e, .lst (nv (xs ++ [(cards, t1)]))) :: (L, .ns [("cards", some (.int (cards : Int) t1)), ("ends", none)]) :: l) := by
      rw [nv_app]
      exact (D.drop (p := (b, _)) (by walk_at "pick")).drop (p := (acc, _)) (by walk_at "pick") |>.drop (p := (L + 1, _)) (by walk_at "pick")
    have hys : (xs ++ [(cards, t1)]).map (·.1) = endsOf cards cuts := by rw [List.map_append, hxs]; rfl
    have hylen : (xs ++ [(cards, t1)]).length ≤ 101 := by rw [List.length_append]; simp only [List.length_cons, List.length_nil]; omega
    generalize xs ++ [(cards, t1)] = ys at D hys hylen
    clear hxs hlen
    walk_at "store"; intro h D
    refine w_execs_cons ?_
    refine w_Return ?_
    refine w_ListComp (cl := []) ["ahead", "behind"] rfl (fun _ => rfl) rfl rfl rfl (by decide) ?_
    refine w_Call rfl ?_
    walk_at "bi"
    refine w_withType rfl ?_
    refine w_arg rfl ?_
    refine w_BinOp ?_
    refine w_List ?_
    refine w_arg rfl ?_
    refine w_int fun t4 => ?_
    refine w_arg_nil ?_
    refine ⟨Nat.le_of_ble_eq_true rfl, _, D, fun b h D => ?_⟩
    walk_at "name"
    refine w_addList D (by walk_at "mem") (by walk_at "mem") (by unfold nv; rw [List.length_map]; simp only [List.length_cons, List.length_nil]; omega) ?_
    intro e2 h D
    refine w_arg rfl ?_
    walk_at "name"
    refine w_arg_nil ?_
    have D : St Z h ((e2, .lst (nv ((0, t4) :: ys))) :: (e, .lst (nv ys)) :: (L, .ns [("cards", some (.int (cards : Int) t1)), ("ends", some (.ref e))]) :: l) := D.drop (p := (b, _)) (by walk_at "pick")
    refine w_zip D (by walk_at "mem") (by walk_at "mem") ?_
    intro z TI TO i1 i2 h D
    refine w_iterZip D (.head _) ?_
    refine ⟨_, D, fun acc Cc h D => ?_⟩
    have D : St Z h (zLed z TI TO i1 i2 .none .none .none e2 e 0 ++ ((e2, .lst (nv ((0, t4) :: ys))) :: (e, .lst (nv ys)) :: (Cc, .ns [("ahead", none), ("behind", none)]) :: (acc, .lst []) :: (L, .ns [("cards", some (.int (cards : Int) t1)), ("ends", some (.ref e))]) :: l)) :=
      D.perm ((List.perm_append_comm_assoc [_, _] (zLed z TI TO i1 i2 .none .none .none e2 e 0) _).trans (List.Perm.append_left _ (List.perm_append_comm_assoc [_, _] [_, _] _)))
    refine go_zip (fun j l' => ∃ (ps : List (Int × Tok)) (av bv : Option Value), ps.map (·.1) = (pilesOf cards cuts).take j ∧ l' = (Cc, .ns [("ahead", av), ("behind", bv)]) :: (acc, .lst (iv ps)) :: (L, .ns [("cards", some (.int (cards : Int) t1)), ("ends", some (.ref e))]) :: l) ⟨[], none, none, rfl, rfl⟩ D ?_ ?_
    · clear D
      rintro j x y _ h tup hx hy ⟨ps, av, bv, hps, rfl⟩ D
      refine w_assignTup D (.head _) rfl rfl ?_
      intro h D
      have D := D.tail
      obtain ⟨⟨a, ta⟩, ha, rfl⟩ : ∃ p : Nat × Tok, ((0, t4) :: ys)[j]? = some p ∧ (.int (p.1 : Int) p.2 : Value) = x := by
        unfold nv at hx; rw [List.getElem?_map] at hx; exact Option.map_eq_some_iff.mp hx
      obtain ⟨⟨b, tb⟩, hb, rfl⟩ : ∃ p : Nat × Tok, ys[j]? = some p ∧ (.int (p.1 : Int) p.2 : Value) = y := by
        unfold nv at hy; rw [List.getElem?_map] at hy; exact Option.map_eq_some_iff.mp hy
      have hpj : (pilesOf cards cuts)[j]? = some ((b : Int) - (a : Int)) := by
        unfold pilesOf
        rw [← hys, List.getElem?_zipWith]
        have e1 : (0 :: ys.map (·.1))[j]? = some a := by
          have := congrArg (Option.map (·.1)) ha
          rw [← List.getElem?_map] at this
          exact this
        rw [e1, List.getElem?_map, hb]
        rfl
      have hpl : ps.length ≤ 101 := by
        have h1 := congrArg List.length hps
        rw [List.length_map, List.length_take] at h1
        have h2 : (pilesOf cards cuts).length ≤ ys.length := by
          unfold pilesOf; rw [List.length_zipWith, ← hys, List.length_map]; omega
        omega
      refine w_order_cons ?_
      refine w_assignName ?_
      walk_at "store"; intro h D
      refine w_order_cons ?_
      refine w_assignName ?_
      walk_at "store"; intro h D
      refine w_order_nil ?_
      refine turn_plain ?_
      refine w_BinOp ?_
      walk_at "name"
      walk_at "name"
      refine w_subInt fun t5 => ?_
      refine w_append D (by walk_at "upd") (by unfold iv; rw [List.length_map]; omega) ?_
      intro h D
      refine ⟨_, ⟨ps ++ [((b : Int) - (a : Int), t5)], some (.int (a : Int) ta), some (.int (b : Int) tb), ?_, rfl⟩, ?_⟩
      · rw [List.map_append, hps, List.take_add_one, hpj]; rfl
      · have e : iv (ps ++ [((b : Int) - (a : Int), t5)]) = iv ps ++ [.int ((b : Int) - (a : Int)) t5] := by simp [iv]
        rw [e]; exact D
    · rintro _ h ⟨ps, av, bv, hps, rfl⟩ D
      have D := (D.drop (p := (e2, _)) (by walk_at "pick")).drop (p := (e, _)) (by walk_at "pick")
      refine ⟨_, _, D, fun h D => ?_⟩
      refine q _ _ ps ?_ (D.drop (p := (L, _)) (by walk_at "pick"))
      rw [hps, List.take_of_length_le]
      unfold pilesOf nv
      simp only [List.length_zipWith, List.length_map, List.length_cons, ← hys]
      omega
end L2
end Mine

namespace Mine
/-! piles cut -/
theorem endsTo_lt {cuts : Int} {n c : Nat} (h : c ∈ endsTo cuts n) : 1 ≤ c ∧ c < n := by
  unfold endsTo at h
  have := (List.mem_filter.mp h).1
  rw [List.mem_range'_1] at this
  omega
theorem ends_sorted {cuts : Int} {n : Nat} (hn : 1 ≤ n) : (0 :: endsOf n cuts).Pairwise (· < ·) := by
  unfold endsOf
  rw [List.pairwise_cons]
  refine ⟨fun a ha => ?_, ?_⟩
  · rcases List.mem_append.mp ha with ha | ha
    · have := (endsTo_lt ha).1; omega
    · simp only [List.mem_cons, List.not_mem_nil, or_false] at ha; omega
  · rw [List.pairwise_append]
    refine ⟨?_, List.pairwise_singleton _ _, fun a ha b hb => ?_⟩
    · exact List.Pairwise.filter _ List.pairwise_lt_range'
    · simp only [List.mem_cons, List.not_mem_nil, or_false] at hb
      have := (endsTo_lt ha).2; omega
def difs : Nat → List Nat → List Nat
  | _, [] => []
  | a, b :: r => (b - a) :: difs b r
theorem difs_zip : ∀ (a : Nat) (l : List Nat), (a :: l).Pairwise (· < ·) → List.zipWith (fun a b : Nat => (b : Int) - (a : Int)) (a :: l) l = (difs a l).map (fun n : Nat => (n : Int))
  | _, [], _ => rfl
  | a, b :: r, h => by
    rw [List.pairwise_cons] at h
    rw [List.zipWith_cons_cons, difs_zip b r h.2, difs, List.map_cons]
    have := h.1 b (.head _)
    congr 1
    omega
theorem difs_pos : ∀ (a : Nat) (l : List Nat), (a :: l).Pairwise (· < ·) → ∀ p ∈ difs a l, 0 < p
  | _, [], _, p, hp => by cases hp
  | a, b :: r, h, p, hp => by
    rw [List.pairwise_cons] at h
    rcases List.mem_cons.mp hp with rfl | hp
    · have := h.1 b (.head _); omega
    · exact difs_pos b r h.2 p hp
theorem difs_sum : ∀ (a : Nat) (l : List Nat), (a :: l).Pairwise (· < ·) → a + (difs a l).sum = (a :: l).getLastD 0
  | _, [], _ => by simp [difs]
  | a, b :: r, h => by
    rw [List.pairwise_cons] at h
    have ih := difs_sum b r h.2
    have := h.1 b (.head _)
    rw [difs, List.sum_cons]
    rw [show (a :: b :: r).getLastD 0 = (b :: r).getLastD 0 by simp, ← ih]
    omega
def pileN (cards : Nat) (cuts : Int) : List Nat := difs 0 (endsOf cards cuts)
theorem piles_nat {cards : Nat} {cuts : Int} (h : 1 ≤ cards) : pilesOf cards cuts = (pileN cards cuts).map (fun n : Nat => (n : Int)) := difs_zip 0 _ (ends_sorted h)
theorem pileN_sum {cards : Nat} {cuts : Int} (h : 1 ≤ cards) : (pileN cards cuts).sum = cards := by
  have := difs_sum 0 (endsOf cards cuts) (ends_sorted h)
  unfold pileN
  unfold endsOf at this ⊢
  rw [Nat.zero_add] at this
  rw [this, ← List.cons_append, List.getLastD_concat]
theorem pileN_good {cards : Nat} {cuts : Int} (h : 1 ≤ cards) (h8 : cards ≤ 8) : Good8 (pileN cards cuts) := by
  refine ⟨difs_pos 0 _ (ends_sorted h), by rw [pileN_sum h]; exact h8, fun e => ?_⟩
  have := pileN_sum (cuts := cuts) h
  rw [e] at this
  simp at this; omega
/-! the stairs -/
def comps : Nat → List (List Nat)
  | 0 => [[]]
  | n + 1 => (comps n).map (fun q => 1 :: q) ++ (comps n).filterMap fun q => match q with | [] => none | p :: r => some ((p + 1) :: r)
theorem comps_mem : ∀ (n : Nat) (q : List Nat), (∀ p ∈ q, 0 < p) → q.sum = n → q ∈ comps n
  | 0, [], _, _ => .head _
  | 0, p :: q, h, e => by
    have := h p (.head _)
    rw [List.sum_cons] at e; omega
  | n + 1, [], _, e => by simp at e
  | n + 1, p :: q, h, e => by
    have hp := h p (.head _)
    rw [List.sum_cons] at e
    rw [comps, List.mem_append]
    by_cases h1 : p = 1
    · subst h1
      exact .inl (List.mem_map.mpr ⟨q, comps_mem n q (fun r hr => h r (.tail _ hr)) (by omega), rfl⟩)
    · refine .inr (List.mem_filterMap.mpr ⟨(p - 1) :: q, comps_mem n _ (fun r hr => ?_) (by rw [List.sum_cons]; omega), ?_⟩)
      · rcases List.mem_cons.mp hr with rfl | hr
        · omega
        · exact h r (.tail _ hr)
      · show some ((p - 1 + 1) :: q) = some (p :: q)
        rw [show p - 1 + 1 = p by omega]
def kOf (n : Nat) : Nat := if 6 ≤ n then 3 else if 3 ≤ n then 2 else 1
def addIdx (xs : List Nat) : List Nat := go 0 xs where
  go : Nat → List Nat → List Nat
  | _, [] => []
  | j, x :: r => (j + x) :: go (j + 1) r
/-- the line behind the first turns -/
def line1 (n : Nat) (q : List Nat) : List Nat := turnN (n + kOf n * (kOf n - 1) / 2 - 1) q
def steps (n : Nat) (q : List Nat) : List Nat := List.replicate (kOf n + 1 - q.length) 0 ++ q
def stairOk (n : Nat) (q : List Nat) : Bool :=
  let q1 := line1 n q
  let zs := steps n q1
  decide (q1.length ≤ kOf n + 1) && (decide (zs.length = kOf n + 1) && ((List.range (kOf n + 1)).all (fun j => decide (zs.getD j 0 = j ∨ zs.getD j 0 = j + 1)) &&
    (List.range (kOf n + 2)).all fun t =>
      let more := (List.range (kOf n + 1)).map fun j => zs.getD j 0 - j
      decide ((addIdx (more.drop t ++ more.take t)).filter (fun p => decide (0 < p)) = turnN t q1)))
theorem stair_all : ∀ n ∈ [1, 2, 3, 4, 5, 6, 7, 8], (comps n).all (stairOk n) = true := by decide +kernel
theorem stair_ok {n : Nat} {q : List Nat} (h1 : 1 ≤ n) (h8 : n ≤ 8) (hp : ∀ p ∈ q, 0 < p) (hs : q.sum = n) : stairOk n q = true := by
  have hm : n ∈ [1, 2, 3, 4, 5, 6, 7, 8] := by
    simp only [List.mem_cons, List.not_mem_nil, or_false]; omega
  exact List.all_eq_true.mp (stair_all n hm) q (comps_mem n q hp hs)
end Mine

namespace Mine
/-! how the words are written, and read -/
theorem lexB_end (r : List Nat) (c : Nat) (h : c ∈ [10, 9, 13, 32]) : lexB (c :: r) = ([], r) := by
  cases r <;> simp [lexB, h]
theorem lexB_plain {c : Nat} {r : List Nat} (h1 : c ∉ [10, 9, 13, 32]) (h2 : c ≠ 92) (hr : r ≠ []) : lexB (c :: r) = (c :: (lexB r).1, (lexB r).2) := by
  cases r with
  | nil => exact absurd rfl hr
  | cons d r => rw [lexB]; simp [h1, h2]
theorem lexB_hid {d : Nat} {r : List Nat} : lexB (92 :: d :: r) = (d :: (lexB r).1, (lexB r).2) := by
  rw [lexB]; simp
theorem lexQ_end (r : List Nat) : lexQ (34 :: r) = ([], r) := by
  cases r <;> simp [lexQ]
theorem lexQ_plain {c : Nat} {r : List Nat} (h1 : c ≠ 34) (h2 : c ≠ 92) (hr : r ≠ []) : lexQ (c :: r) = (c :: (lexQ r).1, (lexQ r).2) := by
  cases r with
  | nil => exact absurd rfl hr
  | cons d r => rw [lexQ]; simp [h1, h2]
theorem lexQ_hid {d : Nat} {r : List Nat} : lexQ (92 :: d :: r) = (d :: (lexQ r).1, (lexQ r).2) := by
  rw [lexQ]; simp
/-- signs that need no backslash -/
def Tame (w : List Nat) : Prop := ∀ c ∈ w, c ∉ [10, 9, 13, 32] ∧ c ≠ 92 ∧ c ≠ 34
theorem lexB_tame {e : Nat} (he : e ∈ [10, 9, 13, 32]) (r : List Nat) : ∀ w : List Nat, Tame w → lexB (w ++ e :: r) = (w, r)
  | [], _ => lexB_end r e he
  | c :: w, h => by
    have := h c (.head _)
    rw [List.cons_append, lexB_plain this.1 this.2.1 (by simp), lexB_tame he r w fun d hd => h d (.tail _ hd)]
theorem lexQ_tame (r : List Nat) : ∀ w : List Nat, Tame w → lexQ (w ++ 34 :: r) = (w, r)
  | [], _ => lexQ_end r
  | c :: w, h => by
    have := h c (.head _)
    rw [List.cons_append, lexQ_plain this.2.2 this.2.1 (by simp), lexQ_tame r w fun d hd => h d (.tail _ hd)]
def hide : List Nat → List Nat
  | [] => []
  | c :: w => 92 :: c :: hide w
theorem lexB_hide {e : Nat} (he : e ∈ [10, 9, 13, 32]) (r : List Nat) : ∀ w : List Nat, lexB (hide w ++ e :: r) = (w, r)
  | [] => lexB_end r e he
  | c :: w => by
    show lexB (92 :: c :: (hide w ++ e :: r)) = _
    rw [lexB_hid, lexB_hide he r w]
theorem lexQ_hide (r : List Nat) : ∀ w : List Nat, lexQ (hide w ++ 34 :: r) = (w, r)
  | [] => lexQ_end r
  | c :: w => by
    show lexQ (92 :: c :: (hide w ++ 34 :: r)) = _
    rw [lexQ_hid, lexQ_hide r w]
/-- blanks ahead are passed over -/
theorem lex_blanks (r : List Nat) : ∀ b : List Nat, (∀ c ∈ b, c ∈ [10, 9, 13, 32]) → lex (b ++ r) = lex r
  | [], _ => rfl
  | c :: b, h => by
    rw [List.cons_append, lex, if_pos (h c (.head _)), lex_blanks r b fun d hd => h d (.tail _ hd)]
def needB (s : Nat) : List Nat := if s ∈ [32, 34, 92, 9] then [92] else []
def needQ (s : Nat) : List Nat := if s ∈ [34, 92] then [92] else []
/-- the four writings of a word s :: w -/
def wr (s : Nat) (w : List Nat) : Nat → List Nat
  | 0 => needB s ++ (s :: w) ++ [10]
  | 1 => 34 :: (needQ s ++ (s :: w)) ++ [34]
  | 2 => hide (s :: w) ++ [32]
  | _ => 34 :: hide (s :: w) ++ [34, 13, 9, 10]
/-- what is left behind a word until the next -/
def junk : Nat → List Nat
  | 0 => []
  | 1 => []
  | 2 => []
  | _ => [13, 9, 10]
theorem junk_blank (m : Nat) : ∀ c ∈ junk m, c ∈ [10, 9, 13, 32] := by
  intro c hc
  match m with
  | 0 => cases hc
  | 1 => cases hc
  | 2 => cases hc
  | n + 3 =>
    have hc : c ∈ [13, 9, 10] := hc
    simp only [List.mem_cons, List.not_mem_nil, or_false] at hc ⊢
    omega
theorem lex_hid (d : Nat) (r : List Nat) : lex (92 :: d :: r) = (d :: (lexB r).1, (lexB r).2) := by
  rw [lex, if_neg (by decide), if_neg (by decide), if_pos rfl, lexBs]
theorem lex_wr {s : Nat} {w : List Nat} (hs : s ∈ signs) (hw : Tame w) (m : Nat) (r : List Nat) : lex (wr s w m ++ r) = (s :: w, junk m ++ r) := by
  match m with
  | 0 =>
    show lex (needB s ++ (s :: w) ++ [10] ++ r) = (s :: w, r)
    unfold needB
    by_cases h : s ∈ [32, 34, 92, 9]
    · rw [if_pos h]
      simp only [List.cons_append, List.nil_append, List.append_assoc]
      rw [lex_hid, lexB_tame (by decide) r w hw]
    · rw [if_neg h]
      simp only [List.cons_append, List.nil_append, List.append_assoc]
      have : s = 97 ∨ s = 35 := by
        simp only [signs, List.mem_cons, List.not_mem_nil, or_false] at hs h
        omega
      rcases this with rfl | rfl <;> (rw [lex, if_neg (by decide), if_neg (by decide), if_neg (by decide), lexB_tame (by decide) r w hw])
  | 1 =>
    show lex (34 :: (needQ s ++ (s :: w)) ++ [34] ++ r) = (s :: w, r)
    simp only [List.cons_append, List.nil_append, List.append_assoc]
    rw [lex, if_neg (by decide), if_pos rfl]
    unfold needQ
    by_cases h : s ∈ [34, 92]
    · rw [if_pos h]
      simp only [List.cons_append, List.nil_append]
      rw [lexQ_hid, lexQ_tame r w hw]
    · rw [if_neg h, List.nil_append]
      have : s ≠ 34 ∧ s ≠ 92 := by
        simp only [List.mem_cons, List.not_mem_nil, or_false] at h
        omega
      rw [lexQ_plain this.1 this.2 (by simp), lexQ_tame r w hw]
  | 2 =>
    show lex (hide (s :: w) ++ [32] ++ r) = (s :: w, r)
    simp only [List.append_assoc, List.cons_append, List.nil_append, hide]
    rw [lex_hid, lexB_hide (by decide) r w]
  | n + 3 =>
    show lex (34 :: hide (s :: w) ++ [34, 13, 9, 10] ++ r) = (s :: w, [13, 9, 10] ++ r)
    simp only [List.append_assoc, List.cons_append, List.nil_append]
    rw [lex, if_neg (by decide), if_pos rfl, lexQ_hide]
/-- all the words of a text, the blanks that an earlier one left ahead of it -/
def wrAll (ws : List (Nat × List Nat × Nat)) : List Nat := ws.flatMap fun x => wr x.1 x.2.1 x.2.2
theorem lex_all {x : Nat × List Nat × Nat} {ws : List (Nat × List Nat × Nat)} {b : List Nat} (hb : ∀ c ∈ b, c ∈ [10, 9, 13, 32]) (hs : x.1 ∈ signs) (hw : Tame x.2.1) :
    lex (b ++ wrAll (x :: ws)) = (x.1 :: x.2.1, junk x.2.2 ++ wrAll ws) := by
  rw [lex_blanks _ b hb]
  show lex (wr x.1 x.2.1 x.2.2 ++ wrAll ws) = _
  exact lex_wr hs hw _ _
theorem lex_none {b : List Nat} (hb : ∀ c ∈ b, c ∈ [10, 9, 13, 32]) : lex b = ([], []) := by
  have := lex_blanks [] b hb
  rw [List.append_nil] at this
  rw [this]; rfl
theorem pil_tame {s o p : Nat} (ho : o < 256) : Tame (61 :: (rep3 p ++ figs o)) := by
  have key : ∀ n, n < 16 → L2.hexU n ∉ [10, 9, 13, 32] ∧ L2.hexU n ≠ 92 ∧ L2.hexU n ≠ 34 := by decide +kernel
  intro c hc
  rcases List.mem_cons.mp hc with rfl | hc
  · decide
  · obtain ⟨n, hn, rfl⟩ := tail_mem hc ho
    exact key n hn
theorem hide_len (w : List Nat) : (hide w).length = 2 * w.length := by
  induction w with
  | nil => rfl
  | cons c w ih => simp only [hide, List.length_cons, ih]; omega
theorem wr_len (s : Nat) (w : List Nat) (m : Nat) : (wr s w m).length ≤ 2 * w.length + 10 := by
  have h1 : (needB s).length ≤ 1 := by unfold needB; split <;> simp
  have h2 : (needQ s).length ≤ 1 := by unfold needQ; split <;> simp
  match m with
  | 0 => simp only [wr, List.length_append, List.length_cons, List.length_nil]; omega
  | 1 => simp only [wr, List.length_append, List.length_cons, List.length_nil]; omega
  | 2 => simp only [wr, List.length_append, List.length_cons, List.length_nil, hide_len]; omega
  | n + 3 => simp only [wr, List.length_append, List.length_cons, List.length_nil, hide_len]; omega
/-- '\\'.join over the signs -/
theorem join_hide : ∀ (w : List Nat) (c : Nat), Txt.join (S [92]) ((c :: w).map fun c => S [c]) = S (c :: hide w)
  | [], c => by rw [List.map_cons, List.map_nil, join_one]; rfl
  | d :: w, c => by
    have ih := join_hide w d
    unfold Txt.join at ih ⊢
    rw [StrLaws.glued_eq_join] at ih ⊢
    show S [c] ++ S [92] ++ Str.join (S [92]) ((d :: w).map fun c => S [c]) = _
    rw [ih, S_app, S_app]
    rfl
theorem sum_ones (cs : List Nat) : ((cs.map fun c => S [c]).map (·.length)).sum = cs.length := by
  induction cs with
  | nil => rfl
  | cons c cs ih =>
    simp only [List.map_cons, List.sum_cons, List.length_cons, S_len, List.length_nil] at ih ⊢
    omega
theorem strJoin_tree (sep y : Str) (t u : Tok) : Builtin.«str.join» ⟨[.str sep t, .str y u], []⟩ = (do
      let it ← (pyIter (.str y u)).tryCatch fun e => do
        if ← isInstance e (.type "TypeError") then rule "str.join.not-iterable"; raiseError "TypeError" "can only join an iterable" else throw e
      let items ← collect it
      joinTail sep items) := rfl
section
variable {Z : Sur} {h h' : Heap} {l l' : Led} {k : Nat}
theorem w_joinStr {x : Str} {cs : List Nat} {t u : Tok} {Q : Value → Heap → Prop} (D : St Z h l) (hx : x.length ≤ 10) (hz : cs.length ≤ 1000) (q : ∀ t' h', St Z h' l → Q (.str (Txt.join x (cs.map fun c => S [c])) t') h') :
    W Z k (call (.builtin "str.join") [.str x t, .str (S cs) u]) Q h := .mk fun tk => by
  refine wpAny_call (codeAny_call_builtin PySem.F.slot_str_join.plain PySem.F.entry_str_join (PySem.F.slot_str_join.check _ _ _ _ _ _ _ _ (typeIs_str _ _ _) (PySem.F.args_str_join_2 _ _) ?_))
  rw [strJoin_tree]
  refine wpAny_bind (wpAny_tryCatch (wpAny_pyIter_strU (s := Z.st h tk) ?_))
  refine wpAny_bind (wpAny_collect_strIter (x := S cs) (t := u) (ty := strIterType (S cs)) rfl (by unfold strIterType; split <;> simp) ⟨_, Heap.get?_push_size _ rfl, rfl, rfl⟩ (fun s' acc hk hg hd ho hacc => ?_) (by show (S cs).length ≤ _; rw [S_len, sizeLine_eq]; omega))
  obtain ⟨hsz, hit⟩ := hacc
  obtain ⟨ps, hps, hacc⟩ : ∃ ps : List (Str × Tok), ps.map (·.1) = cs.map (fun c => S [c]) ∧ acc.toList = strValues ps := by
    have hl : acc.toList.length = cs.length := by
      have : (S cs).cps.size = cs.length := S_len cs
      rw [Array.length_toList, hsz, this]
    have key : ∀ (n : Nat) (as : List Value) (ds : List Nat), as.length = n → ds.length = n → (∀ (j : Nat) (v : Value), as[j]? = some v → ∃ c u, ds[j]? = some c ∧ v = .str (S [c]) u) → ∃ ps : List (Str × Tok), ps.map (·.1) = ds.map (fun c => S [c]) ∧ as = strValues ps := by
      intro n
      induction n with
      | zero =>
        intro as ds ha hd _
        rw [List.length_eq_zero_iff.mp ha, List.length_eq_zero_iff.mp hd]
        exact ⟨[], rfl, rfl⟩
      | succ n ih =>
        intro as ds ha hd hx
        match as, ds, ha, hd with
        | a :: as, d :: ds, ha, hd =>
          obtain ⟨c, u, e1, e2⟩ := hx 0 a rfl
          obtain ⟨ps, h1, h2⟩ := ih as ds (by simpa using ha) (by simpa using hd) (fun j v hv => hx (j + 1) v hv)
          have e1 : d = c := by simpa using e1
          subst e1 e2 h2
          exact ⟨(S [d], u) :: ps, by simp [h1], rfl⟩
    refine key cs.length acc.toList cs hl rfl fun j v hv => ?_
    obtain ⟨c, u, e1, e2⟩ := hit j v (by simpa using hv)
    exact ⟨c, u, by simpa [S] using e1, e2⟩
  rw [hacc]
  have hok : Builtin.Str.tooLong ((ps.map (·.1)).toArray.foldl (· + ·.length + x.length) 0) = false := by
    rw [StrLaws.joinTotal, hps, sum_ones, List.length_map]
    unfold Builtin.Str.tooLong
    simp only [decide_eq_false_iff_not, sizeLine_eq]
    have := Nat.mul_le_mul hz hx
    omega
  have D' : St Z s'.heap l := D.grow fun b o e => hk b o (Nat.ne_of_lt (Heap.lt_size e)) (Heap.get?_push_of_some _ e)
  have es : s' = Z.st s'.heap s'.toks := by
    obtain ⟨a, b, c, d, e⟩ := s'
    dsimp only at hg hd ho
    subst hg hd ho
    rfl
  have g0 := gives_joinTail x ps hok
  have g : Gives (joinTail x (strValues ps)) (joinMade x ps) := by
    cases ps with
    | nil => exact g0
    | cons p r => cases r with
      | nil => exact g0
      | cons q r' => exact g0
  refine g Z.prog Z.w _ (wants _ _) s' (post_join ps ⟨joinFit_length hok, fun t' k' => ?_⟩)
  rw [hps]
  rw [es]
  exact ⟨_, k', rfl, q t' _ D'⟩
end
end Mine

namespace Mine
section
variable {Z : Sur} {h h' : Heap} {l l' : Led} {k : Nat} {env : Env} {t u : Tok}
theorem w_intBool {b : Bool} {Q : Value → Heap → Prop} (q : ∀ t', Q (.int (if b then 1 else 0) t') h) : W Z k (call (.type "int") [.bool b]) Q h := .mk fun tk => call_int_bool ⟨h, _, rfl, q _⟩
/-- an item of a tuple's display -/
theorem w_subTup {value slice : PySem.Expr} {a : Addr} {vs : List Value} {i : Nat} {v : Value} {Q : Value → Heap → Prop} (D : St Z h l) (hm : (a, .obj (tupObj vs)) ∈ l) (hi : i < 1000) (hx : vs[i]? = some v) (q : Q v h)
    (hs : subscripted slice false (.ref a) (.int (i : Int) t) = operate [.ref a, .int (i : Int) t] (getItem (.ref a) (.int (i : Int) t))) : W Z k (subscriptTail value slice (.ref a) (.int (i : Int) t)) Q h := .mk fun tk => by
  have hlt : i < vs.length := by
    rcases Nat.lt_or_ge i vs.length with y | y
    · exact y
    · rw [List.getElem?_eq_none y] at hx; cases hx
  exact item_tupleT (s := Z.st h tk) (l := vs) ⟨_, D.get hm, rfl, _, rfl⟩ (by omega) (by omega) (seqIndex_nn hlt) hx ⟨h, tk, rfl, q⟩ hs
theorem w_BoolAnd2 {a b : PySem.Expr} {pos : Pos} {Q : Value → Heap → Prop} (q : W Z k (eval a env) (fun v h₁ => ∃ c, v = .bool c ∧ if c then W Z k (eval b env) Q h₁ else Q (.bool false) h₁) h) : W Z k (eval (.BoolOp .And [a, b] pos) env) Q h := by
  show W Z k (boolOp pos .And [eval a env, eval b env]) Q h
  show W Z k (do
    let v ← eval a env
    standAt pos
    let t ← holding [v] (truthy v)
    match BoolOp.And, t with
    | .And, false | .Or, true => pure v
    | _, _ => boolOp pos .And [eval b env]) Q h
  refine W.bind (W.mono q fun v h₁ w => W.bind (W.standAt (W.bind (W.holding ?_))))
  obtain ⟨c, rfl, w⟩ := w
  refine w_truthy_bool ?_
  cases c with
  | false => exact W.pure w
  | true => exact w
theorem St.tup {a : Addr} {vs : List Value} (D : St Z h l) (hm : (a, .obj (tupObj vs)) ∈ l) : h.IsTuple a vs.toArray := ⟨_, D.get hm, rfl, _, rfl⟩
theorem w_iterTup {a : Addr} {vs : List Value} {Q : Value → Heap → Prop} (D : St Z h l) (hm : (a, .obj (tupObj vs)) ∈ l) (q : ∀ it h', St Z h' ((it, tiOb a 0) :: l) → Q (.ref it) h') : W Z k (pyIter (.ref a)) Q h := .mk fun tk =>
  wpAny_pyIter_tuple (s := Z.st h tk) (D.tup hm) ⟨_, tk, rfl, q _ _ (D.cons (fun _ _ e => Heap.get?_push_of_some _ e) ⟨_, Heap.get?_push_size _ rfl, rfl, rfl⟩ (Nat.le_refl _))⟩
theorem w_iterTI {it a : Addr} {i : Nat} {Q : Value → Heap → Prop} (D : St Z h l) (hm : (it, tiOb a i) ∈ l) (q : Q (.ref it) h) : W Z k (pyIter (.ref it)) Q h := .mk fun tk => wpAny_pyIter_tupleiter (s := Z.st h tk) (D.at_ _ hm) ⟨h, tk, rfl, q⟩
theorem w_nextTup {it a : Addr} {i : Nat} {vs : List Value} {v : Value} {Q : Option Value → Heap → Prop} (D : St Z h l) (hm : (a, .obj (tupObj vs)) ∈ l) (hx : vs[i]? = some v) (U : Upd l it (tiOb a i) (tiOb a (i + 1)) l') (q : ∀ h', St Z h' l' → Q (some v) h') :
    W Z k (pyNext (.ref it)) Q h := .mk fun tk =>
  wpAny_pyNext_tuple_item (s := Z.st h tk) (D.at_ _ U.mem) (D.tup hm) (by simpa using hx) fun h' hi hs => ⟨h', tk, rfl, q _ (D.upd U hs hi)⟩
theorem w_endTup {it a : Addr} {i : Nat} {vs : List Value} {Q : Option Value → Heap → Prop} (D : St Z h l) (hm : (a, .obj (tupObj vs)) ∈ l) (hx : vs.length ≤ i) (hp : Pick l (it, tiOb a i) l') (q : ∀ h', St Z h' l' → Q none h') :
    W Z k (pyNext (.ref it)) Q h := .mk fun tk =>
  wpAny_pyNext_tuple_end (s := Z.st h tk) rfl (D.at_ _ (hp.perm.mem_iff.mpr (.head _))) (D.tup hm) (by simpa using hx) fun h' hs => ⟨h', tk, rfl, q _ ((D.front hp).lose hs)⟩
section
variable {cenv : Env} {elt target iter : PySem.Expr} {ifs : List PySem.Expr} {scope : Scope} {pos : Pos} {acc : Addr} {R : Heap → Prop}
theorem go_tup {it a : Addr} {vs : List Value} (J : Nat → Led → Prop) (hJ : J 0 l) (D : St Z h ((it, tiOb a 0) :: (a, .obj (tupObj vs)) :: l))
    (turn : ∀ j v l h, vs[j]? = some v → J j l → St Z h ((it, tiOb a (j + 1)) :: (a, .obj (tupObj vs)) :: l) → W Z k (assign target cenv v) (fun _ h₃ => Turn Z k cenv elt ifs acc (fun h₆ => ∃ l', J (j + 1) l' ∧ St Z h₆ ((it, tiOb a (j + 1)) :: (a, .obj (tupObj vs)) :: l')) h₃) h)
    (fin : ∀ l h, J vs.length l → St Z h ((a, .obj (tupObj vs)) :: l) → R h) (ht : ∀ v, letOwnedTupleGo target (.ref it) v = PySem.Sem.pure ()) : CompGo Z k (.ListComp elt [⟨target, iter, ifs, 0⟩] scope pos) (.ref it) acc cenv R h := by
  refine ⟨w_iterTI D (.head _) ⟨rfl, rfl⟩, c_compLoop (fun m h => ∃ j l, m = vs.length - j ∧ j ≤ vs.length ∧ J j l ∧ St Z h ((it, tiOb a j) :: (a, .obj (tupObj vs)) :: l)) ?_ vs.length ⟨0, l, rfl, Nat.zero_le _, hJ, D⟩⟩
  rintro m h ⟨j, l, rfl, hj, hJ, D⟩
  by_cases hlt : j < vs.length
  · obtain ⟨v, hv⟩ : ∃ v, vs[j]? = some v := ⟨_, List.getElem?_eq_getElem hlt⟩
    refine w_nextTup D (.tail _ (.head _)) hv Upd.here fun h D => ?_
    dsimp only
    rw [ht]
    refine W.pure' ?_
    refine (turn j v l h hv hJ D).mono fun _ h₃ w => w.mono fun h₆ ⟨l', hJ', D'⟩ => ⟨_, by omega, j + 1, l', rfl, hlt, hJ', D'⟩
  · have : j = vs.length := by omega
    subst this
    exact w_endTup (i := vs.length) D (.tail _ (.head _)) (Nat.le_refl _) Pick.here fun h D => fin l h hJ D
end
/-- a for over pairs -/
theorem c_forLoopT {target : PySem.Expr} {it : Value} {body orelse : List Stmt} {R : Flow → Heap → Prop} (I : Nat → Heap → Prop)
    (turn : ∀ n h, I n h → W Z k (pyNext it) (fun r h₁ => match r with
      | Option.none => W Z k (execs orelse env) R h₁
      | some v => W Z k (letOwnedTupleGo target it v) (fun _ h₁ => W Z k (assign target env v) (fun _ h₂ => W Z k (execs body env) (fun f h₃ => match f with | .next | .cont => ∃ m, m < n ∧ I m h₃ | .brk => R .next h₃ | .ret v => R (.ret v) h₃) h₂) h₁) h₁) h)
    (n : Nat) (hI : I n h) : C Z k (.forLoop target it body orelse env) R h := .mk fun tk => by
  refine codeAny_forLoop_any (fun n s => ∃ h tk, s = Z.st h tk ∧ I n h) ?_ n ⟨h, tk, rfl, hI⟩
  rintro n _ ⟨h, tk, rfl, hI⟩
  refine wpAny_mono ((turn n h hI).run tk) ?_ fun _ _ e => e.elim
  rintro r _ ⟨h₁, tk₁, rfl, w⟩
  cases r with
  | none => exact wpAny_mono (w.run tk₁) (fun f _ ⟨h', tk', e, r⟩ => ⟨f, h', tk', rfl, e, r⟩) fun _ _ e => e.elim
  | some v =>
    refine wpAny_mono (w.run tk₁) ?_ fun _ _ e => e.elim
    rintro _ _ ⟨h₂, tk₂, rfl, w⟩
    refine wpAny_mono (w.run tk₂) ?_ fun _ _ e => e.elim
    rintro _ _ ⟨h₂, tk₂, rfl, w⟩
    refine wpAny_mono (w.run tk₂) ?_ fun _ _ e => e.elim
    rintro f _ ⟨h₃, tk₃, rfl, r⟩
    cases f with
    | next => obtain ⟨m, hm, hI⟩ := r; exact ⟨m, hm, h₃, tk₃, rfl, hI⟩
    | cont => obtain ⟨m, hm, hI⟩ := r; exact ⟨m, hm, h₃, tk₃, rfl, hI⟩
    | brk => exact ⟨_, h₃, tk₃, rfl, rfl, r⟩
    | ret v => exact ⟨_, h₃, tk₃, rfl, rfl, r⟩
theorem c_forEnumL {e it a : Addr} {vs : List Value} {elts : List PySem.Expr} {nn : Nat} {tpos : Pos} {body orelse : List Stmt} {R : Flow → Heap → Prop} (J : Nat → Led → Prop) (hJ : J 0 l) (D : St Z h ((e, enOb it 0 .none) :: (it, liOb a 0) :: (a, .lst vs) :: l))
    (turn : ∀ j v l h t tt, vs[j]? = some v → J j l → St Z h ((t, .obj (tupObj [.int (j : Int) tt, v])) :: (e, enOb it (j + 1) v) :: (it, liOb a (j + 1)) :: (a, .lst vs) :: l) →
      W Z k (assign (.Tuple elts nn tpos) env (.ref t)) (fun _ h₂ => W Z k (execs body env) (fun f h₃ => match f with
        | .next | .cont => ∃ l', J (j + 1) l' ∧ St Z h₃ ((e, enOb it (j + 1) v) :: (it, liOb a (j + 1)) :: (a, .lst vs) :: l') | .brk => R .next h₃ | .ret v => R (.ret v) h₃) h₂) h)
    (fin : ∀ l h, J vs.length l → St Z h ((a, .lst vs) :: l) → W Z k (execs orelse env) R h) : C Z k (.forLoop (.Tuple elts nn tpos) (.ref e) body orelse env) R h := by
  refine c_forLoopT (fun m h => ∃ j l old, m = vs.length - j ∧ j ≤ vs.length ∧ J j l ∧ St Z h ((e, enOb it j old) :: (it, liOb a j) :: (a, .lst vs) :: l)) ?_ vs.length ⟨0, l, _, rfl, Nat.zero_le _, hJ, D⟩
  rintro m h ⟨j, l, old, rfl, hj, hJ, D⟩
  by_cases hlt : j < vs.length
  · obtain ⟨v, hv⟩ : ∃ v, vs[j]? = some v := ⟨_, List.getElem?_eq_getElem hlt⟩
    refine w_nextEnumL D (.head _) hv fun t tt h D => ?_
    dsimp only
    refine w_goEnum D (.there .here) fun h D => ?_
    refine (turn j v l h t tt hv hJ D).mono fun _ h₂ w => w.mono fun f h₃ w => ?_
    cases f with
    | next => obtain ⟨l', hJ', D'⟩ := w; exact ⟨_, by omega, j + 1, l', _, rfl, hlt, hJ', D'⟩
    | cont => obtain ⟨l', hJ', D'⟩ := w; exact ⟨_, by omega, j + 1, l', _, rfl, hlt, hJ', D'⟩
    | brk => exact w
    | ret v => exact w
  · have : j = vs.length := by omega
    subst this
    exact w_endEnumL D (.head _) (Nat.le_refl _) fun h D => fin l h hJ D
/-- a slice of a list that stood before the call -/
theorem St.oldList {a : Addr} {xs : List Value} (D : St Z h l) (ho : Z.h₁.IsList a xs.toArray) (ha : a ≠ Z.T) : h.IsList a xs.toArray := let ⟨o, e, r⟩ := ho; ⟨o, D.top e ha, r⟩
def SliceO (Z : Sur) (Q : Value → Heap → Prop) (o va vb vc : Value) (h : Heap) : Prop :=
  ∃ (l : Led) (a : Addr) (xs : List Value) (lo hi st : Option Int), St Z h l ∧ o = .ref a ∧ (∀ h', St Z h' l → h'.IsList a xs.toArray) ∧ IsPart va lo ∧ IsPart vb hi ∧ IsPart vc st ∧ st ≠ some 0 ∧ xs.length ≤ 100000 ∧ ∀ c h', St Z h' ((c, .lst (slicePick xs.toArray lo hi st).toList) :: l) → Q (.ref c) h'
theorem w_SubStepO {v s : PySem.Expr} {lo hi : Option PySem.Expr} {p pos : Pos} {Q : Value → Heap → Prop}
    (q : W Z k (eval v env) (fun o h₁ => W Z k (evalPart lo env) (fun va h₂ => W Z k (evalPart hi env) (fun vb h₃ => W Z k (eval s env) (fun vc h₄ => SliceO Z Q o va vb vc h₄) h₃) h₂) h₁) h)
    (ht : ∀ o r, letTemporaryGo v o r = pure ()) : W Z k (eval (.Subscript v (.Slice lo hi (some s) p) pos) env) Q h := .mk fun tk => by
  refine wpAny_Subscript_Slice_step (T := "list") list_getitem_lookup (q.cps (fun o h₁ t₁ w => wpAny_Slice (w.cps (fun va h₂ t₂ w => w.cps (fun vb h₃ t₃ w => W.cps (t := evalPart (some s) env) w (fun vc h₄ t₄ w => ?_) t₃) t₂) t₁)) tk) ht
  obtain ⟨l, a, xs, lo', hi', st, D, rfl, ha, pa, pb, pc, h0, hz, q⟩ := w
  have D1 : St Z (h₄.push { cls := .type "slice", data := .fields #[va, vb, vc] }) l := D.push _
  refine ⟨(ha _ D1).typeIs (s := Z.st (h₄.push { cls := .type "slice", data := .fields #[va, vb, vc] }) t₄), wpAny_getItem_list_slice (s := Z.st (h₄.push { cls := .type "slice", data := .fields #[va, vb, vc] }) t₄) (ha _ D1) (Heap.IsSliceOf.new ..) pa pb pc h0 ⟨_, t₄, rfl, q _ _ ?_⟩ (by simp [sizeLine_eq]; omega)⟩
  exact D1.newList (vs := (slicePick xs.toArray lo' hi' st).toList)
end
end Mine

namespace Mine
theorem pick_iv (xs : List (Int × Tok)) (lo hi st : Option Int) : ∃ ys, (slicePick (iv xs).toArray lo hi st).toList = iv ys ∧ ys.length ≤ (slicePick (iv xs).toArray lo hi st).size := by
  unfold slicePick
  simp only [List.size_toArray]
  generalize sliceRange _ _ _ = ix
  induction ix with
  | nil => exact ⟨[], rfl, by simp⟩
  | cons i ix ih =>
    obtain ⟨ys, e, hl⟩ := ih
    simp only [List.filterMap_cons, List.getElem?_toArray, iv, List.getElem?_map] at e hl ⊢
    cases hx : xs[i]? with
    | none => exact ⟨ys, by simpa [hx] using e, by simpa [hx] using hl⟩
    | some p => exact ⟨p :: ys, by simpa [hx] using e, by simpa [hx] using hl⟩
namespace L2
local macro_rules | `(tactic| walk_at "mem") => `(tactic| first | exact List.Mem.head _ | (refine List.Mem.tail _ ?_; walk_at "mem"))
local macro_rules | `(tactic| walk_at "upd") => `(tactic| first | exact Upd.here | (apply Upd.there; walk_at "upd"))
local macro_rules | `(tactic| walk_at "put") => `(tactic| first | exact Put.here | (apply Put.there; walk_at "put"))
local macro_rules | `(tactic| walk_at "pick") => `(tactic| first | exact Pick.here | (apply Pick.there; walk_at "pick"))
local macro_rules | `(tactic| walk_at "name") => `(tactic| first
  | refine w_localName (by assumption) (by walk_at "mem") (by walk_at "mem") ?_ rfl rfl rfl
  | refine w_freeName (by assumption) (by walk_at "mem") ?_ rfl rfl rfl rfl rfl
  | refine w_cellName (by assumption) (by walk_at "mem") ?_ rfl rfl rfl rfl)
local macro_rules | `(tactic| walk_at "load") => `(tactic| refine W.loadLocal (by assumption) (by walk_at "mem") (by walk_at "mem") rfl rfl ?_)
local macro_rules | `(tactic| walk_at "store") => `(tactic| (refine w_store (by assumption) (by walk_at "mem") (by walk_at "put") (by walk_at "upd") rfl rfl ?_))
local macro_rules | `(tactic| walk_at "bi") => `(tactic| refine w_bi (by assumption) (by assumption) (by walk_at "mem") ?_ rfl rfl rfl rfl rfl)
local macro_rules | `(tactic| walk_at "gl") => `(tactic| refine w_gl (by assumption) (by assumption) (by walk_at "mem") ?_ rfl rfl rfl rfl)

abbrev lNs (j heaps code octet words text word hidden bare quoted k waiting line stairs more turns due told laid : Option Value) : Ob :=
  .ns [("j", j), ("heaps", heaps), ("code", code), ("octet", octet), ("words", words), ("text", text), ("word", word), ("hidden", hidden), ("bare", bare), ("quoted", quoted), ("k", k), ("waiting", waiting), ("line", line), ("stairs", stairs), ("more", more), ("turns", turns), ("due", due), ("told", told), ("laid", laid)]
abbrev lCells (L : Addr) (script cards sign figures lexer : Option Value) : Led := [(L + 1, .cell script), (L + 1 + 1, .cell cards), (L + 1 + 1 + 1, .cell sign), (L + 1 + 1 + 1 + 1, .cell figures), (L + 1 + 1 + 1 + 1 + 1, .cell lexer)]
def lawB (n : Nat) : List Stmt := (bodyOf (stmt 27)).drop n
section
variable {Z : Sur} {h : Heap} {l : Led} {k : Nat} {L sc : Addr} {Q : Flow → Heap → Prop}
theorem law_heaps {xs : List (Int × Tok)} (F : Facts Z) (hsc : Z.h₁.IsList sc (iv xs).toArray) (hsT : sc ≠ Z.T) (hxs : xs.length ≤ 1000) (hk : k < 50)
    (D : St Z h ((L, lNs none none none none none none none none none none none none none none none none none none none) :: (lCells L (some (.ref sc)) none none none none ++ l)))
    (q : ∀ h' hp hs, hs.length = 4 → St Z h' ((hp, .lst (iv hs)) :: (L, lNs none (some (.ref hp)) none none none none none none none none none none none none none none none none none) :: (lCells L (some (.ref sc)) none none none none ++ l)) → W Z k (execs (lawB 1) (callEnvC fLaw L 131)) Q h') :
    W Z k (execs (lawB 0) (callEnvC fLaw L 131)) Q h := by
  refine w_execs_cons ?_
  refine w_AssignComp (cl := [("script", L + 1)]) ["j", "x"] rfl rfl (fun _ => rfl) rfl rfl rfl (by decide) ?_
  refine w_Call rfl ?_
  walk_at "bi"
  refine w_withType rfl ?_
  refine w_arg rfl ?_
  refine w_Tuple ?_
  refine w_arg rfl ?_
  refine w_int fun t1 => ?_
  refine w_arg rfl ?_
  refine w_int fun t2 => ?_
  refine w_arg rfl ?_
  refine w_int fun t3 => ?_
  refine w_arg rfl ?_
  refine w_BinOp ?_
  refine w_BinOp ?_
  refine w_int fun t4 => ?_
  refine w_int fun t5 => ?_
  refine w_powInt (n := 9) (by decide) fun t6 => ?_
  refine w_int fun t7 => ?_
  refine w_addInt fun t8 => ?_
  refine w_arg_nil ?_
  refine ⟨Nat.le_of_ble_eq_true rfl, _, D, fun tp h D => ?_⟩
  refine w_arg_nil ?_
  refine w_enumT D (by walk_at "mem") ?_
  intro e it h D
  refine w_iterEnum D (.head _) ?_
  refine ⟨_, D, fun acc Cc h D => ?_⟩
  have D := D.front (p := (tp, _)) (by walk_at "pick")
  have D := D.front (p := (it, _)) (by walk_at "pick")
  have D := D.front (p := (e, _)) (by walk_at "pick")
  refine go_enumT (fun j l' => ∃ (ys : List (Int × Tok)) (jv xv : Option Value), ys.length = j ∧ l' = (Cc, .ns [("j", jv), ("x", xv)]) :: (acc, .lst (iv ys)) :: (L, lNs none none none none none none none none none none none none none none none none none none none) :: (lCells L (some (.ref sc)) none none none none ++ l)) ⟨[], none, none, rfl, rfl⟩ D ?_ ?_
  · clear D
    rintro j v _ h tup tt hv ⟨ys, jv, xv, hys, rfl⟩ D
    have hj4 : j < 4 := by
      rcases Nat.lt_or_ge j 4 with y | y
      · exact y
      · rw [List.getElem?_eq_none (by simpa using y)] at hv; cases hv
    obtain ⟨n, tn, rfl⟩ : ∃ n tn, v = .int n tn := by
      have : ∀ w ∈ [Value.int 7 t1, .int 134 t2, .int 512 t3, .int (4 ^ 9 + 228) t8], ∃ n tn, w = .int n tn := by
        intro w hw
        simp only [List.mem_cons, List.not_mem_nil, or_false] at hw
        rcases hw with rfl | rfl | rfl | rfl <;> exact ⟨_, _, rfl⟩
      exact this v (List.mem_of_getElem? hv)
    refine w_assignTup D (.head _) rfl rfl ?_
    intro h D
    have D := D.tail
    refine w_order_cons ?_
    refine w_assignName ?_
    walk_at "store"; intro h D
    refine w_order_cons ?_
    refine w_assignName ?_
    walk_at "store"; intro h D
    refine w_order_nil ?_
    refine turn_plain ?_
    refine w_BinOp ?_
    walk_at "name"
    refine w_Call rfl ?_
    walk_at "bi"
    refine w_withBuiltin rfl ?_
    refine w_arg rfl ?_
    refine w_SubStepO ?_ (fun _ _ => rfl)
    walk_at "name"
    refine w_part_some ?_
    walk_at "name"
    refine w_part_none ?_
    refine w_int fun t9 => ?_
    obtain ⟨zs, hzs, hzl⟩ := pick_iv xs (some (j : Int)) none (some 4)
    refine ⟨_, sc, iv xs, some (j : Int), none, some 4, D, rfl, fun h' D' => D'.oldList hsc hsT, .int _ _, .none, .int _ _, by decide, by unfold iv; rw [List.length_map]; omega, fun c h D => ?_⟩
    rw [hzs] at D
    refine w_arg_nil ?_
    refine w_sumList D (.head _) ?_
    intro t10 h D
    have D := D.tail
    refine w_addInt fun t11 => ?_
    refine w_append D (by walk_at "upd") (by unfold iv; rw [List.length_map]; omega) ?_
    intro h D
    refine ⟨_, ⟨ys ++ [(n + (zs.map (·.1)).sum, t11)], some (.int (j : Int) tt), some (.int n tn), by rw [List.length_append, hys]; rfl, rfl⟩, ?_⟩
    have e : iv (ys ++ [(n + (zs.map (·.1)).sum, t11)]) = iv ys ++ [.int (n + (zs.map (·.1)).sum) t11] := by simp [iv]
    rw [e]; exact D
  · rintro _ h ⟨ys, jv, xv, hys, rfl⟩ D
    have D := D.tail
    walk_at "store"; intro h D
    refine ⟨_, _, D, fun h D => ?_⟩
    exact q h acc ys hys D
theorem sign_at : ∀ i : Nat, i < 6 → ∃ s, [97, 32, 35, 34, 92, 9][i]? = some s ∧ s ∈ signs := by decide
theorem fig_at : ∀ i : Nat, i < 16 → [48, 49, 50, 51, 52, 53, 54, 55, 56, 57, 65, 66, 67, 68, 69, 70][i]? = some (hexU i) := by decide
def octOf (cd : Nat) : Nat := if cd = 9 ∨ cd = 10 ∨ cd = 13 then 61 else if cd < 32 then cd else cd + 95
theorem oct_spec : ∀ cd : Nat, cd < 161 → octOf cd < 256 ∧ bare (octOf cd) = false := by decide +kernel
theorem law_signs {hp : Addr} {H0 H1 H2 H3 : Int} {u0 u1 u2 u3 : Tok} (F : Facts Z) (hk : k < 50)
    (D : St Z h ((hp, .lst (iv [(H0, u0), (H1, u1), (H2, u2), (H3, u3)])) :: (L, lNs none (some (.ref hp)) none none none none none none none none none none none none none none none none none) :: (lCells L (some (.ref sc)) none none none none ++ l)))
    (q : ∀ h' cards s o code t1 t2 t3 t4 t5, 1 ≤ cards → cards ≤ 8 → SO s o → St Z h' ((hp, .lst (iv [(H0, u0), (H1, u1), (H2, u2), (H3, u3)])) :: (L, lNs none (some (.ref hp)) (some (.int code t1)) (some (.int ((o : Nat) : Int) t2)) none none none none none none none none none none none none none none none) ::
        (lCells L (some (.ref sc)) (some (.int ((cards : Nat) : Int) t3)) (some (.str (S [s]) t4)) (some (.str (S (figs o)) t5)) none ++ l)) → W Z k (execs (lawB 4) (callEnvC fLaw L 131)) Q h') :
    W Z k (execs (lawB 1) (callEnvC fLaw L 131)) Q h := by
  obtain ⟨c8, e8⟩ := Int.eq_ofNat_of_zero_le (Int.emod_nonneg H0 (by decide : (8 : Int) ≠ 0))
  have l8 := Int.emod_lt_of_pos H0 (by decide : (0 : Int) < 8)
  obtain ⟨cd, ecd⟩ := Int.eq_ofNat_of_zero_le (Int.emod_nonneg H2 (by decide : (161 : Int) ≠ 0))
  have lcd := Int.emod_lt_of_pos H2 (by decide : (0 : Int) < 161)
  obtain ⟨si, esi⟩ := Int.eq_ofNat_of_zero_le (Int.emod_nonneg (H2 / 161) (by decide : (6 : Int) ≠ 0))
  have lsi := Int.emod_lt_of_pos (H2 / 161) (by decide : (0 : Int) < 6)
  obtain ⟨s, hs, hss⟩ := sign_at si (by omega)
  have ho := oct_spec cd (by omega)
  refine w_execs_cons ?_
  refine w_AssignTuple ?_ rfl rfl
  refine w_Tuple ?_
  refine w_arg rfl ?_
  refine w_BinOp ?_
  refine w_BinOp ?_
  refine w_Subscript ?_
  walk_at "name"
  refine w_int fun t1 => ?_
  refine w_subList D (by walk_at "mem") (by decide) (by decide) rfl ?_ rfl (fun _ => rfl)
  refine w_int fun t2 => ?_
  refine w_modInt (by decide) fun t3 => ?_
  refine w_int fun t4 => ?_
  refine w_addInt fun t5 => ?_
  refine w_arg rfl ?_
  refine w_BinOp ?_
  refine w_Subscript ?_
  walk_at "name"
  refine w_int fun t6 => ?_
  refine w_subList D (by walk_at "mem") (by decide) (by decide) rfl ?_ rfl (fun _ => rfl)
  refine w_int fun t7 => ?_
  refine w_modInt (by decide) fun t8 => ?_
  refine w_arg rfl ?_
  refine w_Subscript ?_
  refine w_str fun t9 => ?_
  refine w_BinOp ?_
  refine w_BinOp ?_
  refine w_Subscript ?_
  walk_at "name"
  refine w_int fun t10 => ?_
  refine w_subList D (by walk_at "mem") (by decide) (by decide) rfl ?_ rfl (fun _ => rfl)
  refine w_int fun t11 => ?_
  refine w_divInt (by decide) (by decide) fun t12 => ?_
  refine w_int fun t13 => ?_
  refine w_modInt (by decide) fun t14 => ?_
  rw [esi]
  refine w_subStr (cs := [97, 32, 35, 34, 92, 9]) hs (by omega) (fun t15 => ?_) rfl (fun _ => rfl)
  refine w_arg_nil ?_
  refine ⟨Nat.le_of_ble_eq_true rfl, _, D, fun tp h D => ?_⟩
  rw [show H0 % 8 + 1 = ((c8 + 1 : Nat) : Int) by omega, ecd] at D
  refine w_assignTup D (.head _) rfl rfl ?_
  intro h D
  have D := D.tail
  refine w_order_cons ?_
  refine w_assignName ?_
  refine w_storeC D rfl rfl rfl (by walk_at "upd") ?_
  intro h D
  refine w_order_cons ?_
  refine w_assignName ?_
  walk_at "store"; intro h D
  refine w_order_cons ?_
  refine w_assignName ?_
  refine w_storeC D rfl rfl rfl (by walk_at "upd") ?_
  intro h D
  refine w_order_nil ?_
  refine w_execs_cons ?_
  refine w_AssignName ?_ rfl
  refine W.mono (Q := fun v h' => ∃ t, v = .int ((octOf cd : Nat) : Int) t ∧ St Z h' ((hp, .lst (iv [(H0, u0), (H1, u1), (H2, u2), (H3, u3)])) :: (L, lNs none (some (.ref hp)) (some (.int (cd : Int) t8)) none none none none none none none none none none none none none none none none) :: (lCells L (some (.ref sc)) (some (.int ((c8 + 1 : Nat) : Int) t5)) (some (.str (S [s]) t15)) none none ++ l))) ?_ ?_
  · refine w_IfExp ?_
    refine w_isCompare ?_ rfl
    walk_at "name"
    refine w_Tuple ?_
    refine w_arg rfl ?_
    refine w_int fun t16 => ?_
    refine w_arg rfl ?_
    refine w_int fun t17 => ?_
    refine w_arg rfl ?_
    refine w_int fun t18 => ?_
    refine w_arg_nil ?_
    refine ⟨Nat.le_of_ble_eq_true rfl, _, D, fun tp h D => ?_⟩
    refine w_inTup (xs := [(9, t16), (10, t17), (13, t18)]) D (by walk_at "mem") ?_
    refine w_truthy_bool ?_
    have D := D.tail
    unfold octOf
    by_cases h1 : cd = 9 ∨ cd = 10 ∨ cd = 13
    · have e : ([(9, t16), (10, t17), (13, t18)] : List (Int × Tok)).any (fun p => p.1 == (cd : Int)) = true := by
        rcases h1 with rfl | rfl | rfl <;> rfl
      rw [e, if_pos rfl, if_pos h1]
      refine w_int fun t19 => ?_
      exact ⟨_, rfl, D⟩
    · have e : ([(9, t16), (10, t17), (13, t18)] : List (Int × Tok)).any (fun p => p.1 == (cd : Int)) = false := by
        simp only [List.any_cons, List.any_nil, Bool.or_false, Bool.or_eq_false_iff, beq_eq_false_iff_ne]
        omega
      rw [e, if_neg (by decide), if_neg h1]
      refine w_IfExp ?_
      refine w_isCompare ?_ rfl
      walk_at "name"
      refine w_int fun t19 => ?_
      refine w_ltInt ?_
      refine w_truthy_bool ?_
      by_cases h2 : cd < 32
      · rw [decide_eq_true (by omega), if_pos rfl, if_pos h2]
        walk_at "name"
        exact ⟨_, rfl, D⟩
      · rw [decide_eq_false (by omega), if_neg (by decide), if_neg h2]
        refine w_BinOp ?_
        walk_at "name"
        refine w_int fun t20 => ?_
        refine w_addInt fun t21 => ?_
        exact ⟨_, rfl, D⟩
  clear D
  rintro _ h ⟨t22, rfl, D⟩
  generalize octOf cd = o at ho D
  walk_at "store"; intro h D
  refine w_execs_cons ?_
  refine w_AssignName ?_ rfl
  refine w_BinOp ?_
  refine w_Subscript ?_
  refine w_str fun t23 => ?_
  refine w_BinOp ?_
  walk_at "name"
  refine w_int fun t24 => ?_
  refine w_divInt (by decide) (by decide) fun t25 => ?_
  rw [show ((o : Int) / 16) = ((o / 16 : Nat) : Int) by omega]
  refine w_subStr (cs := [48, 49, 50, 51, 52, 53, 54, 55, 56, 57, 65, 66, 67, 68, 69, 70]) (fig_at (o / 16) (by omega)) (by omega) (fun t26 => ?_) rfl (fun _ => rfl)
  refine w_Subscript ?_
  refine w_str fun t27 => ?_
  refine w_BinOp ?_
  walk_at "name"
  refine w_int fun t28 => ?_
  refine w_modInt (by decide) fun t29 => ?_
  rw [show ((o : Int) % 16) = ((o % 16 : Nat) : Int) by omega]
  refine w_subStr (cs := [48, 49, 50, 51, 52, 53, 54, 55, 56, 57, 65, 66, 67, 68, 69, 70]) (fig_at (o % 16) (by omega)) (by omega) (fun t30 => ?_) rfl (fun _ => rfl)
  refine w_addStr (by rw [S_len, S_len, sizeLine_eq]; simp) fun t31 => ?_
  rw [S_app]
  refine w_storeC D rfl rfl rfl (by walk_at "upd") ?_
  intro h D
  exact q _ _ _ _ _ _ _ _ _ _ (by omega) (by omega) ⟨hss, ho.1, ho.2⟩ D
end
end L2
end Mine

namespace Mine
theorem mul_S (cs : List Nat) (n : Nat) : Txt.mul (S cs) (n : Int) = S (List.replicate n cs).flatten := by
  unfold Txt.mul
  by_cases h0 : n = 0
  · subst h0; rfl
  · rw [if_neg (by omega)]
    split
    · rename_i h
      rw [Bool.or_eq_true, beq_iff_eq, beq_iff_eq, S_len] at h
      rcases h with h | h
      · have : n = 1 := by omega
        subst this
        simp
      · have : cs = [] := List.length_eq_zero_iff.mp h
        subst this
        rw [show (List.replicate n ([] : List Nat)).flatten = [] by simp]
    · apply Str.ext'
      have : ∀ (n : Nat) (acc : Array Nat), (List.replicate n (S cs).cps).foldl (· ++ ·) acc = acc ++ (List.replicate n cs).flatten.toArray := by
        intro n
        induction n with
        | zero => intro acc; simp
        | succ n ih => intro acc; rw [List.replicate_succ, List.foldl_cons, ih, List.replicate_succ, List.flatten_cons]; apply Array.ext'; simp [S]
      show (List.replicate ((n : Int)).toNat (S cs).cps).foldl (· ++ ·) #[] = _
      rw [Int.toNat_natCast, this]
      simp [S]
theorem mulOk_S {cs : List Nat} {n : Nat} (hc : cs.length ≤ 1000) (hn : n ≤ 1000) : MulOk (S cs) (n : Int) := by
  unfold MulOk
  rw [S_len]
  refine ⟨?_, fun h1 h2 => ?_, fun h1 h2 => ?_⟩
  · rw [Bool.or_eq_false_iff, decide_eq_false_iff_not, decide_eq_false_iff_not]; omega
  · have h3 : (1000 : Int) ≤ (2 ^ 63 - 1) / (n : Int) := by
      rw [Int.le_ediv_iff_mul_le (by omega)]
      omega
    omega
  · unfold Builtin.Str.tooLong
    rw [Int.toNat_natCast]
    simp only [decide_eq_false_iff_not, sizeLine_eq]
    have := Nat.mul_le_mul hc hn
    omega
theorem rep3_flat (n : Nat) : (List.replicate n [51, 68]).flatten = rep3 n := by
  induction n with
  | zero => rfl
  | succ n ih => rw [List.replicate_succ, List.flatten_cons, ih]; rfl
namespace L2
local macro_rules | `(tactic| walk_at "mem") => `(tactic| first | exact List.Mem.head _ | (refine List.Mem.tail _ ?_; walk_at "mem"))
local macro_rules | `(tactic| walk_at "upd") => `(tactic| first | exact Upd.here | (apply Upd.there; walk_at "upd"))
local macro_rules | `(tactic| walk_at "put") => `(tactic| first | exact Put.here | (apply Put.there; walk_at "put"))
local macro_rules | `(tactic| walk_at "pick") => `(tactic| first | exact Pick.here | (apply Pick.there; walk_at "pick"))
local macro_rules | `(tactic| walk_at "name") => `(tactic| first
  | refine w_localName (by assumption) (by walk_at "mem") (by walk_at "mem") ?_ rfl rfl rfl
  | refine w_freeName (by assumption) (by walk_at "mem") ?_ rfl rfl rfl rfl rfl
  | refine w_cellName (by assumption) (by walk_at "mem") ?_ rfl rfl rfl rfl)
local macro_rules | `(tactic| walk_at "load") => `(tactic| refine W.loadLocal (by assumption) (by walk_at "mem") (by walk_at "mem") rfl rfl ?_)
local macro_rules | `(tactic| walk_at "store") => `(tactic| (refine w_store (by assumption) (by walk_at "mem") (by walk_at "put") (by walk_at "upd") rfl rfl ?_))
local macro_rules | `(tactic| walk_at "bi") => `(tactic| refine w_bi (by assumption) (by assumption) (by walk_at "mem") ?_ rfl rfl rfl rfl rfl)
local macro_rules | `(tactic| walk_at "gl") => `(tactic| refine w_gl (by assumption) (by assumption) (by walk_at "mem") ?_ rfl rfl rfl rfl)

theorem St.lift {Z : Sur} {h : Heap} {a l r : Led} (D : St Z h (a ++ (l ++ r))) : St Z h (l ++ (a ++ r)) := D.perm (List.perm_append_comm_assoc a l r)
section
variable {Z : Sur} {h : Heap} {l : Led} {k : Nat} {L sc : Addr} {Q : Flow → Heap → Prop}
/-- a pile's word, as the law writes it -/
theorem word_eval {env : Env} {s o p : Nat} {ts tf t1 : Tok} {Q : Value → Heap → Prop} {ep1 ep2 ep3 : PySem.Expr} {pa pb pc pd pe pf pg ph : Pos} (hp : 1 ≤ p) (hp8 : p ≤ 20) (hlen : (figs o).length = 2)
    (q1 : ∀ {P : Value → Heap → Prop}, P (.str (S [s]) ts) h → W Z k (eval ep1 env) P h) (q2 : ∀ {P : Value → Heap → Prop}, P (.int (p : Int) t1) h → W Z k (eval ep2 env) P h) (q3 : ∀ {P : Value → Heap → Prop}, P (.str (S (figs o)) tf) h → W Z k (eval ep3 env) P h)
    (q : ∀ t, Q (.str (S (pil s o p)) t) h) :
    W Z k (eval (.BinOp (.BinOp (.BinOp ep1 .Add (.Constant (.str "=") 0 pa) pb) .Add (.BinOp (.Constant (.str "3D") 0 pc) .Mult (.BinOp ep2 .Sub (.Constant (.int 1) 0 pd) pe) pf) pg) .Add ep3 ph) env) Q h := by
  refine w_BinOp ?_
  refine w_BinOp ?_
  refine w_BinOp ?_
  refine q1 ?_
  refine w_str fun t2 => ?_
  refine w_addStr (by rw [S_len, sizeLine_eq]; exact Nat.le_of_ble_eq_true rfl) fun t3 => ?_
  refine w_BinOp ?_
  refine w_str fun t4 => ?_
  refine w_BinOp ?_
  refine q2 ?_
  refine w_int fun t5 => ?_
  refine w_subInt fun t6 => ?_
  obtain ⟨p, rfl⟩ : ∃ p', p = p' + 1 := ⟨p - 1, by omega⟩
  rw [show (((p + 1 : Nat) : Int) - 1) = (p : Int) by omega]
  have e3 : Str.ofString "3D" = S [51, 68] := rfl
  rw [e3]
  refine w_mulStr (mulOk_S (by decide) (by omega)) fun t7 => ?_
  rw [mul_S, rep3_flat]
  have e1 : S [s] ++ Str.ofString "=" = S [s, 61] := S_app [s] [61]
  rw [e1]
  refine w_addStr (by rw [S_len, S_len, sizeLine_eq, rep3_len]; simp only [List.length_cons, List.length_nil]; omega) fun t8 => ?_
  rw [S_app]
  refine q3 ?_
  refine w_addStr (by rw [S_len, S_len, sizeLine_eq, List.length_append, rep3_len, hlen]; simp only [List.length_cons, List.length_nil]; omega) fun t9 => ?_
  rw [S_app]
  exact q t9
abbrev hsL (hp : Addr) (H0 H1 H2 H3 : Int) (u0 u1 u2 u3 : Tok) : Addr × Ob := (hp, .lst (iv [(H0, u0), (H1, u1), (H2, u2), (H3, u3)]))
theorem law_words {hp : Addr} {H0 H1 H2 H3 : Int} {u0 u1 u2 u3 : Tok} {cards s o : Nat} {code oct : Option Value} {t3 t4 t5 : Tok} (F : Facts Z) (hk : k < 49) (h1 : 1 ≤ cards) (h8 : cards ≤ 8)
    (D : St Z h (hsL hp H0 H1 H2 H3 u0 u1 u2 u3 :: (L, lNs none (some (.ref hp)) code oct none none none none none none none none none none none none none none none) :: (lCells L (some (.ref sc)) (some (.int ((cards : Nat) : Int) t3)) (some (.str (S [s]) t4)) (some (.str (S (figs o)) t5)) none ++ l)))
    (q : ∀ h' wa ps, ps.map (·.1) = pileN cards H1 → St Z h' ((wa, .lst (wv s o ps)) :: hsL hp H0 H1 H2 H3 u0 u1 u2 u3 :: (L, lNs none (some (.ref hp)) code oct (some (.ref wa)) none none none none none none none none none none none none none none) ::
        (lCells L (some (.ref sc)) (some (.int ((cards : Nat) : Int) t3)) (some (.str (S [s]) t4)) (some (.str (S (figs o)) t5)) none ++ l)) → W Z k (execs (lawB 5) (callEnvC fLaw L 131)) Q h') :
    W Z k (execs (lawB 4) (callEnvC fLaw L 131)) Q h := by
  refine w_execs_cons ?_
  refine w_AssignComp (cl := [("sign", L + 1 + 1 + 1), ("figures", L + 1 + 1 + 1 + 1)]) ["pile"] rfl rfl (fun _ => rfl) rfl rfl rfl (by decide) ?_
  refine w_Call rfl ?_
  walk_at "gl"
  refine w_withFunction (o := fnObj fPil) (fd := fPil) rfl ?_
  refine w_arg rfl ?_
  walk_at "name"
  refine w_arg rfl ?_
  refine w_Subscript ?_
  walk_at "name"
  refine w_int fun t6 => ?_
  refine w_subList D (by walk_at "mem") (by decide) (by decide) rfl ?_ rfl (fun _ => rfl)
  refine w_arg_nil ?_
  refine ⟨⟨F.pil.here D, rfl⟩, ?_⟩
  refine piles_spec (cuts := H1) F D ⟨h1, by omega⟩ (by omega) ?_
  intro h pa ps hps D
  refine w_iterList D (.head _) ?_
  intro it h D
  refine ⟨_, D, fun acc Cc h D => ?_⟩
  have D := D.front (p := (pa, _)) (by walk_at "pick")
  have D := D.front (p := (it, _)) (by walk_at "pick")
  rw [piles_nat h1] at hps
  have hg := pileN_good (cuts := H1) h1 h8
  have hpl : ps.length ≤ 8 := by
    have := congrArg List.length hps
    rw [List.length_map, List.length_map] at this
    have := hg.len; omega
  refine go_list (fun j l' => ∃ (qs : List (Nat × Tok)) (pv : Option Value), qs.map (·.1) = (pileN cards H1).take j ∧ l' = (Cc, .ns [("pile", pv)]) :: (acc, .lst (wv s o qs)) :: hsL hp H0 H1 H2 H3 u0 u1 u2 u3 ::
    (L, lNs none (some (.ref hp)) code oct none none none none none none none none none none none none none none none) :: (lCells L (some (.ref sc)) (some (.int ((cards : Nat) : Int) t3)) (some (.str (S [s]) t4)) (some (.str (S (figs o)) t5)) none ++ l)) ⟨[], none, rfl, rfl⟩ D ?_ ?_ (fun _ => rfl)
  · clear D
    rintro j v _ h hv ⟨qs, pv, hqs, rfl⟩ D
    obtain ⟨⟨i, tp⟩, hi, rfl⟩ : ∃ p : Int × Tok, ps[j]? = some p ∧ (.int p.1 p.2 : Value) = v := by
      unfold iv at hv; rw [List.getElem?_map] at hv; exact Option.map_eq_some_iff.mp hv
    obtain ⟨p, hp', rfl⟩ : ∃ p : Nat, (pileN cards H1)[j]? = some p ∧ (p : Int) = i := by
      have := congrArg (fun x => x[j]?) hps
      simp only [List.getElem?_map, hi, Option.map_some] at this
      exact Option.map_eq_some_iff.mp this.symm
    have hmem := List.mem_of_getElem? hp'
    have hp0 := hg.pos p hmem
    have hp8 := Nat.le_trans (mem_le_sum hmem) hg.sum
    have hql : qs.length ≤ 8 := by
      have := congrArg List.length hqs
      rw [List.length_map, List.length_take] at this
      have := hg.len; omega
    refine w_assignName ?_
    walk_at "store"; intro h D
    refine turn_plain ?_
    refine word_eval (s := s) (o := o) (p := p) (ts := t4) (tf := t5) (t1 := tp) hp0 (by omega) rfl (fun x => ?_) (fun x => ?_) (fun x => ?_) (fun t7 => ?_)
    · walk_at "name"; exact x
    · walk_at "name"; exact x
    · walk_at "name"; exact x
    refine w_append D (by walk_at "upd") (by rw [wv_len]; omega) ?_
    intro h D
    refine ⟨_, ⟨qs ++ [(p, t7)], some (.int (p : Int) tp), ?_, rfl⟩, ?_⟩
    · rw [List.map_append, hqs, List.take_add_one, hp']; rfl
    · rw [wv_app]; exact D
  · rintro _ h ⟨qs, pv, hqs, rfl⟩ D
    have D := D.tail
    walk_at "store"; intro h D
    refine ⟨_, _, D, fun h D => ?_⟩
    refine q h acc qs ?_ D
    rw [hqs, List.take_of_length_le]
    unfold iv
    rw [List.length_map]
    have := congrArg List.length hps
    rw [List.length_map, List.length_map] at this
    omega
end
end L2
end Mine

namespace Mine
def modeOf (H : Int) (i : Nat) : Nat := (H / 4 ^ i % 4).toNat
theorem modeOf_lt (H : Int) (i : Nat) : modeOf H i < 4 := by
  unfold modeOf
  have := Int.emod_lt_of_pos (H / 4 ^ i) (by decide : (0 : Int) < 4)
  have := Int.emod_nonneg (H / 4 ^ i) (by decide : (4 : Int) ≠ 0)
  omega
theorem modeOf_eq (H : Int) (i : Nat) : H / 4 ^ i % 4 = (modeOf H i : Int) := by
  unfold modeOf
  have := Int.emod_nonneg (H / 4 ^ i) (by decide : (4 : Int) ≠ 0)
  omega
def itm (s o : Nat) (H : Int) (q : List Nat) : List (Nat × List Nat × Nat) := q.zipIdx.map fun x => (s, (pil s o x.1).tail, modeOf H x.2)
theorem itm_len {s o : Nat} {H : Int} {q : List Nat} : (itm s o H q).length = q.length := by simp [itm]
theorem itm_at {s o : Nat} {H : Int} {q : List Nat} {j p : Nat} (h : q[j]? = some p) : (itm s o H q)[j]? = some (s, (pil s o p).tail, modeOf H j) := by
  unfold itm
  rw [List.getElem?_map, List.getElem?_zipIdx, h]
  simp
theorem wrAll_app (a b : List (Nat × List Nat × Nat)) : wrAll (a ++ b) = wrAll a ++ wrAll b := by simp [wrAll]
theorem wrAll_len {ws : List (Nat × List Nat × Nat)} (h : ∀ x ∈ ws, x.2.1.length ≤ 20) : (wrAll ws).length ≤ 50 * ws.length := by
  induction ws with
  | nil => simp [wrAll]
  | cons x ws ih =>
    have h1 := wr_len x.1 x.2.1 x.2.2
    have h2 := h x (.head _)
    have h3 := ih fun y hy => h y (.tail _ hy)
    show (wr x.1 x.2.1 x.2.2 ++ wrAll ws).length ≤ _
    rw [List.length_append, List.length_cons]
    omega
theorem itm_small {s o : Nat} {H : Int} {q : List Nat} (h : ∀ p ∈ q, p ≤ 8) : ∀ x ∈ itm s o H q, x.2.1.length ≤ 20 := by
  intro x hx
  unfold itm at hx
  obtain ⟨y, hy, rfl⟩ := List.mem_map.mp hx
  have := h y.1 (by
    have := List.mem_zipIdx hy
    obtain ⟨_, _, e⟩ := this
    rw [e]
    exact List.getElem_mem _)
  show ((pil s o y.1).tail).length ≤ 20
  rw [List.length_tail, pil_len]
  split <;> omega
theorem mul_bool (b : Bool) : Txt.mul (S [92]) (if b then 1 else 0) = S (if b then [92] else []) := by
  cases b <;> rfl
theorem mulOk_bool (b : Bool) : MulOk (S [92]) (if b then 1 else 0) := by
  cases b
  · exact mulOk_S (cs := [92]) (n := 0) (by decide) (by decide)
  · exact mulOk_S (cs := [92]) (n := 1) (by decide) (by decide)
theorem pil_tail {s o p : Nat} (h : 1 ≤ p) : pil s o p = s :: (pil s o p).tail := by
  cases p with
  | zero => omega
  | succ p => rfl
namespace L2
local macro_rules | `(tactic| walk_at "mem") => `(tactic| first | exact List.Mem.head _ | (refine List.Mem.tail _ ?_; walk_at "mem"))
local macro_rules | `(tactic| walk_at "upd") => `(tactic| first | exact Upd.here | (apply Upd.there; walk_at "upd"))
local macro_rules | `(tactic| walk_at "put") => `(tactic| first | exact Put.here | (apply Put.there; walk_at "put"))
local macro_rules | `(tactic| walk_at "pick") => `(tactic| first | exact Pick.here | (apply Pick.there; walk_at "pick"))
local macro_rules | `(tactic| walk_at "name") => `(tactic| first
  | refine w_localName (by assumption) (by walk_at "mem") (by walk_at "mem") ?_ rfl rfl rfl
  | refine w_freeName (by assumption) (by walk_at "mem") ?_ rfl rfl rfl rfl rfl
  | refine w_cellName (by assumption) (by walk_at "mem") ?_ rfl rfl rfl rfl)
local macro_rules | `(tactic| walk_at "load") => `(tactic| refine W.loadLocal (by assumption) (by walk_at "mem") (by walk_at "mem") rfl rfl ?_)
local macro_rules | `(tactic| walk_at "store") => `(tactic| (refine w_store (by assumption) (by walk_at "mem") (by walk_at "put") (by walk_at "upd") rfl rfl ?_))
local macro_rules | `(tactic| walk_at "bi") => `(tactic| refine w_bi (by assumption) (by assumption) (by walk_at "mem") ?_ rfl rfl rfl rfl rfl)
local macro_rules | `(tactic| walk_at "gl") => `(tactic| refine w_gl (by assumption) (by assumption) (by walk_at "mem") ?_ rfl rfl rfl rfl)

section
variable {Z : Sur} {h : Heap} {l : Led} {k : Nat} {L sc : Addr} {Q : Flow → Heap → Prop}
theorem law_text {hp wa : Addr} {H0 H1 H2 H3 : Int} {u0 u1 u2 u3 : Tok} {cards s o : Nat} {code oct : Option Value} {t3 t4 t5 : Tok} {ps : List (Nat × Tok)} (F : Facts Z) (hk : k < 49) (hg : Good8 (ps.map (·.1)))
    (D : St Z h ((wa, .lst (wv s o ps)) :: hsL hp H0 H1 H2 H3 u0 u1 u2 u3 :: (L, lNs none (some (.ref hp)) code oct (some (.ref wa)) none none none none none none none none none none none none none none) :: (lCells L (some (.ref sc)) (some (.int ((cards : Nat) : Int) t3)) (some (.str (S [s]) t4)) (some (.str (S (figs o)) t5)) none ++ l)))
    (q : ∀ h' t6 j word hidden bare quoted, St Z h' ((wa, .lst (wv s o ps)) :: hsL hp H0 H1 H2 H3 u0 u1 u2 u3 :: (L, lNs j (some (.ref hp)) code oct (some (.ref wa)) (some (.str (S (wrAll (itm s o H3 (ps.map (·.1))))) t6)) word hidden bare quoted none none none none none none none none none) ::
        (lCells L (some (.ref sc)) (some (.int ((cards : Nat) : Int) t3)) (some (.str (S [s]) t4)) (some (.str (S (figs o)) t5)) none ++ l)) → W Z k (execs (lawB 7) (callEnvC fLaw L 131)) Q h') :
    W Z k (execs (lawB 5) (callEnvC fLaw L 131)) Q h := by
  have hpl : ps.length ≤ 8 := by have := hg.len; simpa using this
  refine w_execs_cons ?_
  refine w_AssignName ?_ rfl
  refine w_str fun t6 => ?_
  walk_at "store"; intro h D
  refine w_execs_cons ?_
  refine w_For (fun _ => rfl) ?_
  refine w_Call rfl ?_
  walk_at "bi"
  refine w_withType rfl ?_
  refine w_arg rfl ?_
  walk_at "name"
  refine w_arg_nil ?_
  refine w_enumL D (by walk_at "mem") ?_
  intro e it h D
  refine w_iterEnum D (.head _) ?_
  refine c_forEnumL (fun j l' => ∃ t6 jv word hidden bare quoted, l' = hsL hp H0 H1 H2 H3 u0 u1 u2 u3 :: (L, lNs jv (some (.ref hp)) code oct (some (.ref wa)) (some (.str (S (wrAll ((itm s o H3 (ps.map (·.1))).take j))) t6)) word hidden bare quoted none none none none none none none none none) ::
        (lCells L (some (.ref sc)) (some (.int ((cards : Nat) : Int) t3)) (some (.str (S [s]) t4)) (some (.str (S (figs o)) t5)) none ++ l)) ⟨t6, none, none, none, none, none, rfl⟩ D ?_ ?_
  · clear D
    rintro j v _ h tup tt hv ⟨t6, jv, word, hidden, bare, quoted, rfl⟩ D
    obtain ⟨⟨p, tp⟩, hx, rfl⟩ : ∃ x : Nat × Tok, ps[j]? = some x ∧ (.str (S (pil s o x.1)) x.2 : Value) = v := by
      unfold wv at hv; rw [List.getElem?_map] at hv; exact Option.map_eq_some_iff.mp hv
    have hjl : j < ps.length := by
      rcases Nat.lt_or_ge j ps.length with y | y
      · exact y
      · rw [List.getElem?_eq_none y] at hx; cases hx
    have hmem : p ∈ ps.map (·.1) := List.mem_map.mpr ⟨(p, tp), List.mem_of_getElem? hx, rfl⟩
    have hp0 := hg.pos p hmem
    have hp8 : p ≤ 8 := Nat.le_trans (mem_le_sum hmem) hg.sum
    have hqj : (ps.map (·.1))[j]? = some p := by rw [List.getElem?_map, hx]; rfl
    have hit := itm_at (s := s) (o := o) (H := H3) hqj
    have hTl : (wrAll ((itm s o H3 (ps.map (·.1))).take j)).length ≤ 400 := by
      have h1 := wrAll_len (ws := (itm s o H3 (ps.map (·.1))).take j) (fun x hx => itm_small (s := s) (o := o) (H := H3) (q := ps.map (·.1)) (fun p hp => Nat.le_trans (mem_le_sum hp) hg.sum) x (List.take_subset _ _ hx))
      rw [List.length_take] at h1
      omega
    have hwl : (pil s o p).length ≤ 18 := by rw [pil_len]; split <;> omega
    generalize hT : wrAll ((itm s o H3 (ps.map (·.1))).take j) = T at D hTl
    obtain ⟨w, hw⟩ : ∃ w, (pil s o p).tail = w := ⟨_, rfl⟩
    have hpw : pil s o p = s :: w := by rw [pil_tail hp0, hw]
    rw [hw] at hit
    rw [hpw] at D hwl
    rw [List.length_cons] at hwl
    refine w_assignTup D (.head _) rfl rfl ?_
    intro h D
    have D := D.tail
    refine w_order_cons ?_
    refine w_assignName ?_
    walk_at "store"; intro h D
    refine w_order_cons ?_
    refine w_assignName ?_
    walk_at "store"; intro h D
    refine w_order_nil ?_
    refine w_execs_cons ?_
    refine w_AssignName ?_ rfl
    refine w_BinOp ?_
    refine w_str fun t7 => ?_
    refine w_CallMeth rfl rfl rfl ?_
    refine w_str fun t8 => ?_
    intro pl
    refine w_strMethod PySem.F.slot_str_join PySem.F.type_str_join ?_
    refine w_withBuiltin rfl ?_
    refine w_arg rfl ?_
    walk_at "name"
    refine w_arg_nil ?_
    refine w_joinStr D (by decide) (by rw [List.length_cons]; omega) ?_
    intro t9 h D
    rw [show Str.ofString "\\" = S [92] from rfl, join_hide]
    refine w_addStr (by simp only [S_len, sizeLine_eq, List.length_append, List.length_cons, List.length_nil, hide_len]; omega) fun t10 => ?_
    rw [S_app, show [92] ++ (s :: hide w) = hide (s :: w) from rfl]
    walk_at "store"; intro h D
    refine w_execs_cons ?_
    refine w_AssignSwap (names := ["bare", "quoted"]) ?_ rfl rfl
    refine w_Tuple ?_
    refine w_arg rfl ?_
    refine w_BinOp ?_
    refine w_BinOp ?_
    refine w_str fun t11 => ?_
    refine w_Call rfl ?_
    walk_at "bi"
    refine w_withType rfl ?_
    refine w_arg rfl ?_
    refine w_Compare ?_ rfl
    walk_at "name"
    refine w_str fun t12 => ?_
    refine w_inStr ?_
    rw [show Str.ofString " \"\\\t" = S [32, 34, 92, 9] from rfl, in_one]
    refine w_arg_nil ?_
    refine w_intBool fun t13 => ?_
    try rw [show Str.ofString "\\" = S [92] from rfl]
    refine w_mulStr (mulOk_bool _) fun t14 => ?_
    rw [mul_bool]
    walk_at "name"
    have nb : (if decide (s ∈ [32, 34, 92, 9]) then [92] else []) = needB s := by unfold needB; by_cases h : s ∈ [32, 34, 92, 9] <;> simp [h]
    have nbl : (needB s).length ≤ 1 := by unfold needB; split <;> simp
    rw [nb]
    refine w_addStr (by simp only [S_len, sizeLine_eq, List.length_append, List.length_cons, List.length_nil, hide_len]; omega) fun t15 => ?_
    rw [S_app]
    refine w_arg rfl ?_
    refine w_BinOp ?_
    refine w_BinOp ?_
    refine w_str fun t16 => ?_
    refine w_Call rfl ?_
    walk_at "bi"
    refine w_withType rfl ?_
    refine w_arg rfl ?_
    refine w_Compare ?_ rfl
    walk_at "name"
    refine w_str fun t17 => ?_
    refine w_inStr ?_
    rw [show Str.ofString "\"\\" = S [34, 92] from rfl, in_one]
    refine w_arg_nil ?_
    refine w_intBool fun t18 => ?_
    try rw [show Str.ofString "\\" = S [92] from rfl]
    refine w_mulStr (mulOk_bool _) fun t19 => ?_
    rw [mul_bool]
    walk_at "name"
    have nq : (if decide (s ∈ [34, 92]) then [92] else []) = needQ s := by unfold needQ; by_cases h : s ∈ [34, 92] <;> simp [h]
    have nql : (needQ s).length ≤ 1 := by unfold needQ; split <;> simp
    rw [nq]
    refine w_addStr (by simp only [S_len, sizeLine_eq, List.length_append, List.length_cons, List.length_nil, hide_len]; omega) fun t20 => ?_
    rw [S_app]
    refine w_arg_nil ?_
    refine ⟨Nat.le_of_ble_eq_true rfl, _, D, fun tup h D => ?_⟩
    refine ⟨tup, _, _, rfl, D, by walk_at "mem", rfl, fun h D => ?_⟩
    have D := D.tail
    refine w_order_cons ?_
    refine w_bindName ?_
    walk_at "store"; intro h D
    refine w_order_cons ?_
    refine w_bindName ?_
    walk_at "store"; intro h D
    refine w_order_nil ?_
    refine w_execs_cons ?_
    refine w_AugName ?_
    walk_at "load"
    refine w_Subscript ?_
    refine w_Tuple ?_
    refine w_arg rfl ?_
    refine w_BinOp ?_
    walk_at "name"
    refine w_str fun t21 => ?_
    try rw [show Str.ofString "\n" = S [10] from rfl]
    refine w_addStr (by simp only [S_len, sizeLine_eq, List.length_append, List.length_cons, List.length_nil, hide_len]; omega) fun t22 => ?_
    rw [S_app]
    refine w_arg rfl ?_
    refine w_BinOp ?_
    refine w_BinOp ?_
    refine w_str fun t23 => ?_
    walk_at "name"
    try rw [show Str.ofString "\"" = S [34] from rfl]
    refine w_addStr (by simp only [S_len, sizeLine_eq, List.length_append, List.length_cons, List.length_nil, hide_len]; omega) fun t24 => ?_
    rw [S_app]
    refine w_str fun t25 => ?_
    try rw [show Str.ofString "\"" = S [34] from rfl]
    refine w_addStr (by simp only [S_len, sizeLine_eq, List.length_append, List.length_cons, List.length_nil, hide_len]; omega) fun t26 => ?_
    rw [S_app]
    refine w_arg rfl ?_
    refine w_BinOp ?_
    walk_at "name"
    refine w_str fun t27 => ?_
    try rw [show Str.ofString " " = S [32] from rfl]
    refine w_addStr (by simp only [S_len, sizeLine_eq, List.length_append, List.length_cons, List.length_nil, hide_len]; omega) fun t28 => ?_
    rw [S_app]
    refine w_arg rfl ?_
    refine w_BinOp ?_
    refine w_BinOp ?_
    refine w_str fun t29 => ?_
    walk_at "name"
    try rw [show Str.ofString "\"" = S [34] from rfl]
    refine w_addStr (by simp only [S_len, sizeLine_eq, List.length_append, List.length_cons, List.length_nil, hide_len]; omega) fun t30 => ?_
    rw [S_app]
    refine w_str fun t31 => ?_
    try rw [show Str.ofString "\"\r\t\n" = S [34, 13, 9, 10] from rfl]
    refine w_addStr (by simp only [S_len, sizeLine_eq, List.length_append, List.length_cons, List.length_nil, hide_len]; omega) fun t32 => ?_
    rw [S_app]
    refine w_arg_nil ?_
    refine ⟨Nat.le_of_ble_eq_true rfl, _, D, fun tq h D => ?_⟩
    refine w_BinOp ?_
    refine w_BinOp ?_
    refine w_Subscript ?_
    walk_at "name"
    refine w_int fun t33 => ?_
    refine w_subList D (by walk_at "mem") (by decide) (by decide) rfl ?_ rfl (fun _ => rfl)
    refine w_BinOp ?_
    refine w_int fun t34 => ?_
    walk_at "name"
    refine w_powInt (by have : (Builtin.Int.intBits 4 : Int) = 3 := by decide
                        rw [this]; omega) fun t35 => ?_
    refine w_divInt (Int.pow_pos (by decide)) ?_ fun t36 => ?_
    · have : (4 : Int) ^ j = ((4 ^ j : Nat) : Int) := by simp
      rw [this]
      have h4 : 4 ^ j ≤ 4 ^ 8 := Nat.pow_le_pow_right (by decide) (by omega)
      exact Int.ofNat_lt.mpr (Nat.lt_of_le_of_lt h4 (by decide))
    refine w_int fun t37 => ?_
    refine w_modInt (by decide) fun t38 => ?_
    have hm : H3 / 4 ^ j % 4 = (modeOf H3 j : Int) := modeOf_eq H3 j
    show W Z _ (subscriptTail _ _ _ (.int (H3 / 4 ^ j % 4) t38)) _ h
    rw [hm]
    have hml := modeOf_lt H3 j
    obtain ⟨tr, hr⟩ : ∃ tr, [Value.str (S (needB s ++ (s :: w) ++ [10])) t22, .str (S ([34] ++ (needQ s ++ (s :: w)) ++ [34])) t26, .str (S (hide (s :: w) ++ [32])) t28, .str (S ([34] ++ hide (s :: w) ++ [34, 13, 9, 10])) t32][modeOf H3 j]? = some (.str (S (wr s w (modeOf H3 j))) tr) := by
      generalize modeOf H3 j = m at hml
      match m, hml with
      | 0, _ => exact ⟨_, rfl⟩
      | 1, _ => exact ⟨_, rfl⟩
      | 2, _ => exact ⟨_, rfl⟩
      | 3, _ => exact ⟨_, rfl⟩
      | m + 4, hml => omega
    refine w_subTup D (by walk_at "mem") (by omega) hr ?_ rfl
    have D := D.drop (p := (tq, _)) (by walk_at "pick")
    have hwr := wr_len s w (modeOf H3 j)
    refine w_iaddStr (by simp only [S_len, sizeLine_eq, List.length_append, List.length_cons, List.length_nil, hide_len]; omega) fun t39 => ?_
    rw [S_app]
    walk_at "store"; intro h D
    refine w_execs_nil ?_
    refine ⟨_, ⟨t39, some (.int (j : Int) tt), some (.str (S (s :: w)) tp), some (.str (S (hide (s :: w))) t10), some (.str (S (needB s ++ (s :: w))) t15), some (.str (S (needQ s ++ (s :: w))) t20), rfl⟩, ?_⟩
    have eT : wrAll ((itm s o H3 (ps.map (·.1))).take (j + 1)) = T ++ wr s w (modeOf H3 j) := by
      rw [List.take_add_one, wrAll_app, hT, hit]
      simp [wrAll]
    rw [eT, hpw]
    exact D
  · rintro _ h ⟨t6, jv, word, hidden, bare, quoted, rfl⟩ D
    refine w_execs_nil ?_
    rw [wv_len, show ps.length = (itm s o H3 (ps.map (·.1))).length by rw [itm_len, List.length_map], List.take_length] at D
    exact q h t6 jv word hidden bare quoted D
end
end L2
end Mine

namespace Mine
theorem wv_same {s o : Nat} {a b : List (Nat × Tok)} (e : a.map (·.1) = b.map (·.1)) (j : Nat) (v w : Value) (ha : (wv s o a)[j]? = some v) (hb : (wv s o b)[j]? = some w) : Same v w := by
  unfold wv at ha hb
  rw [List.getElem?_map] at ha hb
  obtain ⟨x, hx, rfl⟩ := Option.map_eq_some_iff.mp ha
  obtain ⟨y, hy, rfl⟩ := Option.map_eq_some_iff.mp hb
  have := congrArg (fun l => l[j]?) e
  simp only [List.getElem?_map, hx, hy, Option.map_some, Option.some.injEq] at this
  rw [this]
  exact .str
theorem wv_lens {s o : Nat} {a b : List (Nat × Tok)} (e : a.map (·.1) = b.map (·.1)) : (wv s o a).length = (wv s o b).length := by
  have := congrArg List.length e
  simpa [wv_len] using this
namespace L2
local macro_rules | `(tactic| walk_at "mem") => `(tactic| first | exact List.Mem.head _ | (refine List.Mem.tail _ ?_; walk_at "mem"))
local macro_rules | `(tactic| walk_at "upd") => `(tactic| first | exact Upd.here | (apply Upd.there; walk_at "upd"))
local macro_rules | `(tactic| walk_at "put") => `(tactic| first | exact Put.here | (apply Put.there; walk_at "put"))
local macro_rules | `(tactic| walk_at "pick") => `(tactic| first | exact Pick.here | (apply Pick.there; walk_at "pick"))
local macro_rules | `(tactic| walk_at "name") => `(tactic| first
  | refine w_localName (by assumption) (by walk_at "mem") (by walk_at "mem") ?_ rfl rfl rfl
  | refine w_freeName (by assumption) (by walk_at "mem") ?_ rfl rfl rfl rfl rfl
  | refine w_cellName (by assumption) (by walk_at "mem") ?_ rfl rfl rfl rfl)
local macro_rules | `(tactic| walk_at "load") => `(tactic| refine W.loadLocal (by assumption) (by walk_at "mem") (by walk_at "mem") rfl rfl ?_)
local macro_rules | `(tactic| walk_at "store") => `(tactic| (refine w_store (by assumption) (by walk_at "mem") (by walk_at "put") (by walk_at "upd") rfl rfl ?_))
local macro_rules | `(tactic| walk_at "bi") => `(tactic| refine w_bi (by assumption) (by assumption) (by walk_at "mem") ?_ rfl rfl rfl rfl rfl)
local macro_rules | `(tactic| walk_at "gl") => `(tactic| refine w_gl (by assumption) (by assumption) (by walk_at "mem") ?_ rfl rfl rfl rfl)

section
variable {Z : Sur} {h : Heap} {l : Led} {k : Nat} {L sc : Addr} {Q : Flow → Heap → Prop}
/-- the part of the ledger that the law's own frame is -/
abbrev lawPre (L sc hp : Addr) (H0 H1 H2 H3 : Int) (u0 u1 u2 u3 : Tok) (cards s o : Nat) (t3 t4 t5 : Tok) (lex : Option Value) (fr : Ob) : Led :=
  [hsL hp H0 H1 H2 H3 u0 u1 u2 u3, (L, fr), (L + 1, .cell (some (.ref sc))), (L + 1 + 1, .cell (some (.int ((cards : Nat) : Int) t3))), (L + 1 + 1 + 1, .cell (some (.str (S [s]) t4))), (L + 1 + 1 + 1 + 1, .cell (some (.str (S (figs o)) t5))), (L + 1 + 1 + 1 + 1 + 1, .cell lex)]
theorem law_lexer {hp wa : Addr} {H0 H1 H2 H3 : Int} {u0 u1 u2 u3 : Tok} {cards s o : Nat} {code oct j word hidden bare quoted : Option Value} {t3 t4 t5 t6 : Tok} {ws : List Value} {cs : List Nat} (F : Facts Z) (hk : k < 49) (hcs : cs.length ≤ 100000)
    (D : St Z h ((wa, .lst ws) :: (lawPre L sc hp H0 H1 H2 H3 u0 u1 u2 u3 cards s o t3 t4 t5 none (lNs j (some (.ref hp)) code oct (some (.ref wa)) (some (.str (S cs) t6)) word hidden bare quoted none none none none none none none none none) ++ ((Z.T, .obj (tabObj #[])) :: l))))
    (q : ∀ h' X σ ps, X.cs = cs → LexOk X → LexAt X σ → σ.p = 0 → σ.ws = [] → St Z h' ((wa, .lst ws) :: (lawPre L sc hp H0 H1 H2 H3 u0 u1 u2 u3 cards s o t3 t4 t5 (some (.ref X.self)) (lNs j (some (.ref hp)) code oct (some (.ref wa)) (some (.str (S cs) t6)) word hidden bare quoted none none none none none none none none none) ++
      (led X σ ++ ((Z.T, .obj (tabObj ps)) :: l)))) → W Z k (execs (lawB 8) (callEnvC fLaw L 131)) Q h') :
    W Z k (execs (lawB 7) (callEnvC fLaw L 131)) Q h := by
  refine w_execs_cons ?_
  refine w_AssignName ?_ rfl
  refine w_Call rfl ?_
  walk_at "gl"
  refine w_withFunction (o := fnObj fLex) (fd := fLex) rfl ?_
  refine w_arg rfl ?_
  walk_at "name"
  refine w_arg_nil ?_
  refine ⟨⟨F.lex.here D, rfl⟩, ?_⟩
  refine lexer_spec F (D.front (p := (Z.T, _)) (by walk_at "pick")) hcs (by omega) ?_
  intro h X σ ps e1 O A e2 e3 D
  have D := D.front (p := (L + 1 + 1 + 1 + 1 + 1, .cell none)) (by
    show Pick ((_ : Addr × Ob) :: _) _ _
    walk_at "pick")
  refine w_storeC D rfl rfl rfl (by walk_at "upd") ?_
  intro h D
  refine q h X σ ps e1 O A e2 e3 ?_
  have D : St Z h ([(L + 1 + 1 + 1 + 1 + 1, .cell (some (.ref X.self)))] ++ (led X σ ++ ([(Z.T, .obj (tabObj ps)), (wa, .lst ws), hsL hp H0 H1 H2 H3 u0 u1 u2 u3, (L, lNs j (some (.ref hp)) code oct (some (.ref wa)) (some (.str (S cs) t6)) word hidden bare quoted none none none none none none none none none), (L + 1, .cell (some (.ref sc))), (L + 1 + 1, .cell (some (.int ((cards : Nat) : Int) t3))), (L + 1 + 1 + 1, .cell (some (.str (S [s]) t4))), (L + 1 + 1 + 1 + 1, .cell (some (.str (S (figs o)) t5)))] ++ l))) := D
  refine D.perm ?_
  show ((L + 1 + 1 + 1 + 1 + 1, Ob.cell (some (.ref X.self))) :: (led X σ ++ ([(Z.T, .obj (tabObj ps))] ++ ([(wa, .lst ws), hsL hp H0 H1 H2 H3 u0 u1 u2 u3, (L, lNs j (some (.ref hp)) code oct (some (.ref wa)) (some (.str (S cs) t6)) word hidden bare quoted none none none none none none none none none), (L + 1, .cell (some (.ref sc))), (L + 1 + 1, .cell (some (.int ((cards : Nat) : Int) t3))), (L + 1 + 1 + 1, .cell (some (.str (S [s]) t4))), (L + 1 + 1 + 1 + 1, .cell (some (.str (S (figs o)) t5)))] ++ l)))).Perm _
  refine (List.Perm.cons _ (List.Perm.append_left _ (List.perm_append_comm_assoc [(Z.T, Ob.obj (tabObj ps))] _ _))).trans ?_
  refine (List.Perm.cons _ (List.perm_append_comm_assoc _ _ _)).trans ?_
  exact (List.perm_middle (a := (L + 1 + 1 + 1 + 1 + 1, Ob.cell (some (.ref X.self)))) (l₁ := [(wa, .lst ws), hsL hp H0 H1 H2 H3 u0 u1 u2 u3, (L, lNs j (some (.ref hp)) code oct (some (.ref wa)) (some (.str (S cs) t6)) word hidden bare quoted none none none none none none none none none), (L + 1, .cell (some (.ref sc))), (L + 1 + 1, .cell (some (.int ((cards : Nat) : Int) t3))), (L + 1 + 1 + 1, .cell (some (.str (S [s]) t4))), (L + 1 + 1 + 1 + 1, .cell (some (.str (S (figs o)) t5)))])).symm
end
end L2
end Mine

namespace Mine
def Blanks (b : List Nat) : Prop := ∀ c ∈ b, c ∈ [10, 9, 13, 32]
theorem lex_item {s o : Nat} {H : Int} {q : List Nat} {j p : Nat} {b : List Nat} (K : SO s o) (hb : Blanks b) (hq : q[j]? = some p) (hp : 1 ≤ p) :
    ∃ b', Blanks b' ∧ lex (b ++ wrAll ((itm s o H q).drop j)) = (pil s o p, b' ++ wrAll ((itm s o H q).drop (j + 1))) := by
  have hit := itm_at (s := s) (o := o) (H := H) hq
  have hlt : j < (itm s o H q).length := by
    rcases Nat.lt_or_ge j (itm s o H q).length with y | y
    · exact y
    · rw [List.getElem?_eq_none y] at hit; cases hit
  rw [List.getElem?_eq_getElem hlt, Option.some.injEq] at hit
  rw [List.drop_eq_getElem_cons hlt, hit]
  have ht : Tame (pil s o p).tail := by
    obtain ⟨p, rfl⟩ : ∃ p', p = p' + 1 := ⟨p - 1, by omega⟩
    exact pil_tame (s := s) K.lt
  refine ⟨junk (modeOf H j), junk_blank _, ?_⟩
  rw [lex_all (x := (s, (pil s o p).tail, modeOf H j)) hb K.s ht]
  rw [← pil_tail hp]
namespace L2
local macro_rules | `(tactic| walk_at "mem") => `(tactic| first | exact List.Mem.head _ | (refine List.Mem.tail _ ?_; walk_at "mem"))
local macro_rules | `(tactic| walk_at "upd") => `(tactic| first | exact Upd.here | (apply Upd.there; walk_at "upd"))
local macro_rules | `(tactic| walk_at "put") => `(tactic| first | exact Put.here | (apply Put.there; walk_at "put"))
local macro_rules | `(tactic| walk_at "pick") => `(tactic| first | exact Pick.here | (apply Pick.there; walk_at "pick"))
local macro_rules | `(tactic| walk_at "name") => `(tactic| first
  | refine w_localName (by assumption) (by walk_at "mem") (by walk_at "mem") ?_ rfl rfl rfl
  | refine w_freeName (by assumption) (by walk_at "mem") ?_ rfl rfl rfl rfl rfl
  | refine w_cellName (by assumption) (by walk_at "mem") ?_ rfl rfl rfl rfl)
local macro_rules | `(tactic| walk_at "load") => `(tactic| refine W.loadLocal (by assumption) (by walk_at "mem") (by walk_at "mem") rfl rfl ?_)
local macro_rules | `(tactic| walk_at "store") => `(tactic| (refine w_store (by assumption) (by walk_at "mem") (by walk_at "put") (by walk_at "upd") rfl rfl ?_))
local macro_rules | `(tactic| walk_at "bi") => `(tactic| refine w_bi (by assumption) (by assumption) (by walk_at "mem") ?_ rfl rfl rfl rfl rfl)
local macro_rules | `(tactic| walk_at "gl") => `(tactic| refine w_gl (by assumption) (by assumption) (by walk_at "mem") ?_ rfl rfl rfl rfl)

section
variable {Z : Sur} {h : Heap} {l : Led} {k : Nat} {L sc : Addr} {Q : Flow → Heap → Prop}
theorem law_read {X : Lex} {σ : LexS} {hp wa : Addr} {H0 H1 H2 H3 : Int} {u0 u1 u2 u3 : Tok} {cards s o : Nat} {code oct j word hidden bare quoted : Option Value} {t3 t4 t5 t6 : Tok} {ps : List (Nat × Tok)} (F : Facts Z) (O : LexOk X) (A : LexAt X σ) (hw : σ.ws = []) (K : SO s o) (hk : k < 49) (hg : Good8 (ps.map (·.1))) (hcs : X.cs.drop σ.p = wrAll (itm s o H3 (ps.map (·.1))))
    (D : St Z h ((wa, .lst (wv s o ps)) :: (lawPre L sc hp H0 H1 H2 H3 u0 u1 u2 u3 cards s o t3 t4 t5 (some (.ref X.self)) (lNs j (some (.ref hp)) code oct (some (.ref wa)) (some (.str (S X.cs) t6)) word hidden bare quoted none none none none none none none none none) ++ (led X σ ++ l))))
    (q : ∀ h' σ', LexAt X σ' → σ'.ws = [] → Blanks (X.cs.drop σ'.p) → St Z h' ((wa, .lst (wv s o ps)) :: (lawPre L sc hp H0 H1 H2 H3 u0 u1 u2 u3 cards s o t3 t4 t5 (some (.ref X.self)) (lNs j (some (.ref hp)) code oct (some (.ref wa)) (some (.str (S X.cs) t6)) word hidden bare quoted none none none none none none none none none) ++ (led X σ' ++ l))) → W Z k (execs (lawB 9) (callEnvC fLaw L 131)) Q h') :
    W Z k (execs (lawB 8) (callEnvC fLaw L 131)) Q h := by
  have hpl : ps.length ≤ 8 := by have := hg.len; simpa using this
  refine w_execs_cons ?_
  refine w_If ?_
  refine w_isCompare ?_ rfl
  refine w_ListComp (cl := [("lexer", L + 1 + 1 + 1 + 1 + 1)]) ["word"] rfl (fun _ => rfl) rfl rfl rfl (by decide) ?_
  walk_at "name"
  refine w_iterList D (.head _) ?_
  intro it h D
  refine ⟨_, D, fun acc Cc h D => ?_⟩
  have D := D.front (p := (wa, _)) (by walk_at "pick")
  have D := D.front (p := (it, _)) (by walk_at "pick")
  refine go_list (fun j' l' => ∃ (σ : LexS) (qs : List (Nat × Tok)) (b : List Nat) (wv' : Option Value), LexAt X σ ∧ σ.ws = [] ∧ Blanks b ∧ X.cs.drop σ.p = b ++ wrAll ((itm s o H3 (ps.map (·.1))).drop j') ∧ qs.map (·.1) = (ps.map (·.1)).take j' ∧
    l' = (Cc, .ns [("word", wv')]) :: (acc, .lst (wv s o qs)) :: (lawPre L sc hp H0 H1 H2 H3 u0 u1 u2 u3 cards s o t3 t4 t5 (some (.ref X.self)) (lNs j (some (.ref hp)) code oct (some (.ref wa)) (some (.str (S X.cs) t6)) word hidden bare quoted none none none none none none none none none) ++ (led X σ ++ l))) ⟨σ, [], [], none, A, hw, (fun c hc => by cases hc), hcs, rfl, rfl⟩ D ?_ ?_ (fun _ => rfl)
  · clear D A hw hcs
    rintro i v _ h hv ⟨σ, qs, b, wv', A, hw, hb, hcs, hqs, rfl⟩ D
    obtain ⟨⟨p, tp⟩, hx, rfl⟩ : ∃ x : Nat × Tok, ps[i]? = some x ∧ (.str (S (pil s o x.1)) x.2 : Value) = v := by
      unfold wv at hv; rw [List.getElem?_map] at hv; exact Option.map_eq_some_iff.mp hv
    have hmem : p ∈ ps.map (·.1) := List.mem_map.mpr ⟨(p, tp), List.mem_of_getElem? hx, rfl⟩
    have hqj : (ps.map (·.1))[i]? = some p := by rw [List.getElem?_map, hx]; rfl
    obtain ⟨b', hb', hlex⟩ := lex_item (H := H3) K hb hqj (hg.pos p hmem)
    rw [← hcs] at hlex
    have hql : qs.length ≤ 8 := by
      have := congrArg List.length hqs
      rw [List.length_map, List.length_take, List.length_map] at this
      omega
    refine w_assignName ?_
    walk_at "store"; intro h D
    refine turn_plain ?_
    refine w_CallMeth rfl rfl rfl ?_
    walk_at "name"
    intro pl
    refine w_methN F.g D F.mGet (by walk_at "mem") (by walk_at "mem") rfl ?_
    refine w_withFunction (o := fnObj fGet) (fd := fGet) rfl ?_
    refine w_arg_nil ?_
    refine ⟨⟨F.get.here D, rfl⟩, ?_⟩
    refine get_read F O A hw (St.inward [_, _, _, _, _, _, _, _, _, _, _] D) (by omega) ?_
    intro h tw σ' A' hw' hd D
    have D := St.outward [_, _, _, _, _, _, _, _, _, _, _] D
    rw [hlex] at hd ⊢
    refine w_append D (by walk_at "upd") (by rw [wv_len]; omega) ?_
    intro h D
    refine ⟨_, ⟨σ', qs ++ [(p, tw)], b', some (.str (S (pil s o p)) tp), A', hw', hb', hd, ?_, rfl⟩, ?_⟩
    · rw [List.map_append, hqs, List.take_add_one, hqj]; rfl
    · rw [wv_app]; exact D
  · rintro _ h ⟨σ', qs, b, wv', A, hw, hb, hcs, hqs, rfl⟩ D
    have D := D.front (p := (Cc, _)) (by walk_at "pick")
    refine ⟨_, _, D, fun h D => ?_⟩
    walk_at "name"
    rw [wv_len] at hqs hcs
    rw [show (itm s o H3 (ps.map (·.1))).drop ps.length = [] by rw [List.drop_eq_nil_iff, itm_len, List.length_map]; exact Nat.le_refl _] at hcs
    rw [List.take_of_length_le (by rw [List.length_map]; exact Nat.le_refl _)] at hqs
    refine w_neSame D (by walk_at "mem") (by walk_at "mem") (wv_lens hqs) (wv_same hqs) (by omega) ?_
    refine w_truthy_bool ?_
    rw [if_neg (by decide)]
    refine w_execs_nil ?_
    refine q h σ' A hw (by rw [hcs]; simpa [wrAll] using hb) ?_
    exact D.drop (p := (acc, _)) (by walk_at "pick")
end
end L2
end Mine

namespace Mine
section
variable {Z : Sur} {h h' : Heap} {l l' : Led} {k : Nat} {t u : Tok}
theorem w_lenList {a : Addr} {xs : List Value} {Q : Value → Heap → Prop} (D : St Z h l) (hm : (a, .lst xs) ∈ l) (hz : xs.length ≤ 1000000) (q : ∀ t', Q (.int (xs.length : Int) t') h) : W Z k (call (.builtin "len") [.ref a]) Q h := .mk fun tk =>
  Calls.call_len_list (s := Z.st h tk) (D.list hm) (by simp only [List.size_toArray]; omega) ⟨h, _, rfl, by simpa using q _⟩
end
/-- the steps tried for k -/
def kTry (cards j : Nat) : Bool := decide (((j : Int) * ((j : Int) + 1) / 2) ≤ (cards : Int))
def kList (cards n : Nat) : List Int := ((List.range' 1 (n - 1)).filter (kTry cards)).map fun j : Nat => (j : Int)
theorem kList_succ {cards n : Nat} (h : 1 ≤ n) : kList cards (n + 1) = kList cards n ++ if kTry cards n then [(n : Int)] else [] := by
  unfold kList
  obtain ⟨m, rfl⟩ : ∃ m, n = m + 1 := ⟨n - 1, by omega⟩
  rw [Nat.add_sub_cancel, Nat.add_sub_cancel, List.range'_concat, List.filter_append, List.map_append]
  congr 1
  rw [show 1 + 1 * m = m + 1 by omega, List.filter_cons, List.filter_nil]
  split <;> rfl
theorem kList_eq : ∀ cards ∈ [1, 2, 3, 4, 5, 6, 7, 8], kList cards 4 = (List.range' 1 (kOf cards)).map fun j : Nat => (j : Int) := by decide +kernel
theorem kOf_range : ∀ cards, 1 ≤ kOf cards ∧ kOf cards ≤ 3 := by
  intro c; unfold kOf; split <;> (try split) <;> omega
theorem max_k {kk : Nat} (hk : 1 ≤ kk ∧ kk ≤ 3) {xs : List (Int × Tok)} (hxs : xs.map (·.1) = (List.range' 1 kk).map fun j : Nat => (j : Int)) {p : Int × Tok}
    (hp : xs[argBest (fun i j => decide (numAt xs.toArray i > numAt xs.toArray j)) (xs.length - 1)]? = some p) : p.1 = (kk : Int) := by
  have hl := congrArg List.length hxs
  rw [List.length_map, List.length_map, List.length_range'] at hl
  have : kk = 1 ∨ kk = 2 ∨ kk = 3 := by omega
  rcases this with rfl | rfl | rfl
  · match xs, hl with
    | [a], _ =>
      simp only [List.map_cons, List.map_nil, List.range', List.cons.injEq, and_true] at hxs
      have : some a = some p := hp
      rw [← Option.some.inj this]; exact hxs
  · match xs, hl with
    | [a, b], _ =>
      simp only [List.map_cons, List.map_nil, List.range', List.cons.injEq, and_true] at hxs
      obtain ⟨e1, e2⟩ := hxs
      have hb : argBest (fun i j => decide (numAt [a, b].toArray i > numAt [a, b].toArray j)) 1 = 1 := by
        show (if decide (b.1 > a.1) = true then 1 else 0) = 1
        rw [e1, e2]; rfl
      have : [a, b][1]? = some p := by rw [← hb]; exact hp
      rw [← Option.some.inj this]; exact e2
  · match xs, hl with
    | [a, b, c], _ =>
      simp only [List.map_cons, List.map_nil, List.range', List.cons.injEq, and_true] at hxs
      obtain ⟨e1, e2, e3⟩ := hxs
      have hb : argBest (fun i j => decide (numAt [a, b, c].toArray i > numAt [a, b, c].toArray j)) 1 = 1 := by
        show (if decide (b.1 > a.1) = true then 1 else 0) = 1
        rw [e1, e2]; rfl
      have hc : argBest (fun i j => decide (numAt [a, b, c].toArray i > numAt [a, b, c].toArray j)) 2 = 2 := by
        rw [argBest, hb]
        show (if decide (c.1 > b.1) = true then 2 else 1) = 2
        rw [e2, e3]; rfl
      have : [a, b, c][2]? = some p := by rw [← hc]; exact hp
      rw [← Option.some.inj this]; exact e3
theorem mulOk_small {a b : Int} (ha : 0 ≤ a) (h : a < 100) : IntMulOk a b := by
  refine IntMulOk.of_left ?_
  obtain ⟨n, rfl⟩ := Int.eq_ofNat_of_zero_le ha
  have hn : n < 100 := by omega
  have : ∀ n : Nat, n < 100 → Builtin.Int.intBits (n : Int) ≤ 64 := by decide +kernel
  exact this n hn
namespace L2
local macro_rules | `(tactic| walk_at "mem") => `(tactic| first | exact List.Mem.head _ | (refine List.Mem.tail _ ?_; walk_at "mem"))
local macro_rules | `(tactic| walk_at "upd") => `(tactic| first | exact Upd.here | (apply Upd.there; walk_at "upd"))
local macro_rules | `(tactic| walk_at "put") => `(tactic| first | exact Put.here | (apply Put.there; walk_at "put"))
local macro_rules | `(tactic| walk_at "pick") => `(tactic| first | exact Pick.here | (apply Pick.there; walk_at "pick"))
local macro_rules | `(tactic| walk_at "name") => `(tactic| first
  | refine w_localName (by assumption) (by walk_at "mem") (by walk_at "mem") ?_ rfl rfl rfl
  | refine w_freeName (by assumption) (by walk_at "mem") ?_ rfl rfl rfl rfl rfl
  | refine w_cellName (by assumption) (by walk_at "mem") ?_ rfl rfl rfl rfl)
local macro_rules | `(tactic| walk_at "load") => `(tactic| refine W.loadLocal (by assumption) (by walk_at "mem") (by walk_at "mem") rfl rfl ?_)
local macro_rules | `(tactic| walk_at "store") => `(tactic| (refine w_store (by assumption) (by walk_at "mem") (by walk_at "put") (by walk_at "upd") rfl rfl ?_))
local macro_rules | `(tactic| walk_at "bi") => `(tactic| refine w_bi (by assumption) (by assumption) (by walk_at "mem") ?_ rfl rfl rfl rfl rfl)
local macro_rules | `(tactic| walk_at "gl") => `(tactic| refine w_gl (by assumption) (by assumption) (by walk_at "mem") ?_ rfl rfl rfl rfl)

section
variable {Z : Sur} {h : Heap} {l : Led} {k : Nat} {L sc : Addr} {Q : Flow → Heap → Prop}
theorem law_k {X : Lex} {σ : LexS} {hp wa : Addr} {H0 H1 H2 H3 : Int} {u0 u1 u2 u3 : Tok} {cards s o : Nat} {code oct j word hidden bare quoted : Option Value} {t3 t4 t5 t6 : Tok} {ps : List (Nat × Tok)} {ex : Led} (F : Facts Z) (hk : k < 49) (h1 : 1 ≤ cards) (h8 : cards ≤ 8)
    (D : St Z h ((wa, .lst (wv s o ps)) :: (lawPre L sc hp H0 H1 H2 H3 u0 u1 u2 u3 cards s o t3 t4 t5 (some (.ref X.self)) (lNs j (some (.ref hp)) code oct (some (.ref wa)) (some (.str (S X.cs) t6)) word hidden bare quoted none none none none none none none none none) ++ (led X σ ++ l))))
    (q : ∀ h' t7, St Z h' ((wa, .lst (wv s o ps)) :: (lawPre L sc hp H0 H1 H2 H3 u0 u1 u2 u3 cards s o t3 t4 t5 (some (.ref X.self)) (lNs j (some (.ref hp)) code oct (some (.ref wa)) (some (.str (S X.cs) t6)) word hidden bare quoted (some (.int ((kOf cards : Nat) : Int) t7)) none none none none none none none none) ++ (led X σ ++ l))) → W Z k (execs (lawB 10) (callEnvC fLaw L 131)) Q h') :
    W Z k (execs (lawB 9) (callEnvC fLaw L 131)) Q h := by
  refine w_execs_cons ?_
  refine w_AssignName ?_ rfl
  refine w_Call rfl ?_
  walk_at "bi"
  refine w_withBuiltin rfl ?_
  refine w_arg rfl ?_
  refine w_ListComp (cl := [("cards", L + 1 + 1)]) ["j"] rfl (fun _ => rfl) rfl rfl rfl (by decide) ?_
  refine w_Call rfl ?_
  walk_at "bi"
  refine w_withType rfl ?_
  refine w_arg rfl ?_
  refine w_int fun t8 => ?_
  refine w_arg rfl ?_
  refine w_int fun t9 => ?_
  refine w_arg_nil ?_
  refine w_range2 D ?_
  intro r tr h D
  refine w_iterRange D (.head _) (by decide) (by decide) ?_
  intro itO h D
  have D : St Z h ((itO, rAt 1 4) :: _) := D
  have D := D.drop (.there .here)
  refine ⟨_, D, fun acc Cc h D => ?_⟩
  have D := D.front (p := (itO, _)) (by walk_at "pick")
  refine go_range (n := 4) (fun i l' => ∃ (xs : List (Int × Tok)) (jv : Option Value), xs.map (·.1) = kList cards i ∧ l' = (Cc, .ns [("j", jv)]) :: (acc, .lst (iv xs)) :: (wa, .lst (wv s o ps)) :: (lawPre L sc hp H0 H1 H2 H3 u0 u1 u2 u3 cards s o t3 t4 t5 (some (.ref X.self)) (lNs j (some (.ref hp)) code oct (some (.ref wa)) (some (.str (S X.cs) t6)) word hidden bare quoted none none none none none none none none none) ++ (led X σ ++ l))) ⟨[], none, rfl, rfl⟩ D (by decide) ?_ ?_ (fun _ => rfl)
  · clear D
    rintro i _ h ti hi1 hi4 ⟨xs, jv, hxs, rfl⟩ D
    have hxl : xs.length ≤ 10 := by
      have h1 := congrArg List.length hxs
      have h2 := List.length_filter_le (kTry cards) (List.range' 1 (i - 1))
      unfold kList at h1
      simp only [List.length_map, List.length_range'] at h1 h2
      omega
    refine w_assignName ?_
    walk_at "store"; intro h D
    refine turn_if ?_
    refine w_isCompare ?_ rfl
    refine w_BinOp ?_
    refine w_BinOp ?_
    walk_at "name"
    refine w_BinOp ?_
    walk_at "name"
    refine w_int fun t10 => ?_
    refine w_addInt fun t11 => ?_
    refine w_mulInt (mulOk_small (by omega) (by omega)) fun t12 => ?_
    refine w_int fun t13 => ?_
    refine w_divInt (by decide) (by decide) fun t14 => ?_
    walk_at "name"
    refine w_leInt ?_
    refine w_truthy_bool ?_
    by_cases hb : kTry cards i = true
    · have hb' : decide ((i : Int) * ((i : Int) + 1) / 2 ≤ (cards : Int)) = true := hb
      rw [hb', if_pos rfl]
      walk_at "name"
      refine w_append D (by walk_at "upd") (by unfold iv; rw [List.length_map]; omega) ?_
      intro h D
      refine ⟨_, ⟨xs ++ [((i : Int), ti)], some (.int (i : Int) ti), ?_, rfl⟩, ?_⟩
      · rw [List.map_append, hxs, kList_succ hi1, if_pos hb]; rfl
      · rw [show iv (xs ++ [((i : Int), ti)]) = iv xs ++ [.int (i : Int) ti] by simp [iv]]
        exact D
    · have hb' : decide ((i : Int) * ((i : Int) + 1) / 2 ≤ (cards : Int)) = false := by simpa [kTry] using hb
      rw [hb', if_neg (by decide)]
      refine ⟨_, ⟨xs, some (.int (i : Int) ti), ?_, rfl⟩, D⟩
      rw [kList_succ hi1, if_neg hb, List.append_nil, hxs]
  · rintro _ h ⟨xs, jv, hxs, rfl⟩ D
    refine ⟨_, _, D, fun h D => ?_⟩
    refine w_arg_nil ?_
    have hm : cards ∈ [1, 2, 3, 4, 5, 6, 7, 8] := by simp only [List.mem_cons, List.not_mem_nil, or_false]; omega
    rw [kList_eq cards hm] at hxs
    have hkr := kOf_range cards
    refine w_maxList D (by walk_at "mem") (by rintro rfl; have := congrArg List.length hxs; simp at this; omega) ?_
    intro p h hp D
    have hpk : p.1 = ((kOf cards : Nat) : Int) := max_k hkr hxs hp
    obtain ⟨pi, pt⟩ := p
    have hpk : pi = ((kOf cards : Nat) : Int) := hpk
    subst hpk
    have D := D.drop (p := (acc, _)) (by walk_at "pick")
    walk_at "store"; intro h D
    exact q h pt D
end
end L2
end Mine

namespace Mine
theorem turns_num {cards kk : Nat} (hk : 1 ≤ kk ∧ kk ≤ 3) (hc : 1 ≤ cards) : (cards : Int) + (kk : Int) * ((kk : Int) - 1) / 2 - 1 = ((cards + kk * (kk - 1) / 2 - 1 : Nat) : Int) := by
  have : kk = 1 ∨ kk = 2 ∨ kk = 3 := by omega
  rcases this with rfl | rfl | rfl <;> simp <;> omega
namespace L2
local macro_rules | `(tactic| walk_at "mem") => `(tactic| first | exact List.Mem.head _ | (refine List.Mem.tail _ ?_; walk_at "mem"))
local macro_rules | `(tactic| walk_at "upd") => `(tactic| first | exact Upd.here | (apply Upd.there; walk_at "upd"))
local macro_rules | `(tactic| walk_at "put") => `(tactic| first | exact Put.here | (apply Put.there; walk_at "put"))
local macro_rules | `(tactic| walk_at "pick") => `(tactic| first | exact Pick.here | (apply Pick.there; walk_at "pick"))
local macro_rules | `(tactic| walk_at "name") => `(tactic| first
  | refine w_localName (by assumption) (by walk_at "mem") (by walk_at "mem") ?_ rfl rfl rfl
  | refine w_freeName (by assumption) (by walk_at "mem") ?_ rfl rfl rfl rfl rfl
  | refine w_cellName (by assumption) (by walk_at "mem") ?_ rfl rfl rfl rfl)
local macro_rules | `(tactic| walk_at "load") => `(tactic| refine W.loadLocal (by assumption) (by walk_at "mem") (by walk_at "mem") rfl rfl ?_)
local macro_rules | `(tactic| walk_at "store") => `(tactic| (refine w_store (by assumption) (by walk_at "mem") (by walk_at "put") (by walk_at "upd") rfl rfl ?_))
local macro_rules | `(tactic| walk_at "bi") => `(tactic| refine w_bi (by assumption) (by assumption) (by walk_at "mem") ?_ rfl rfl rfl rfl rfl)
local macro_rules | `(tactic| walk_at "gl") => `(tactic| refine w_gl (by assumption) (by assumption) (by walk_at "mem") ?_ rfl rfl rfl rfl)

section
variable {Z : Sur} {h : Heap} {l : Led} {k : Nat} {L sc : Addr} {Q : Flow → Heap → Prop}
theorem law_push {X : Lex} {σ : LexS} {hp wa : Addr} {H0 H1 H2 H3 : Int} {u0 u1 u2 u3 : Tok} {cards s o : Nat} {code oct j word hidden bare quoted : Option Value} {t3 t4 t5 t6 : Tok} {ps : List (Nat × Tok)} {t7 : Tok} (F : Facts Z) (hw : σ.ws = []) (hk : k < 49) (hg : Good8 (ps.map (·.1)))
    (D : St Z h ((wa, .lst (wv s o ps)) :: (lawPre L sc hp H0 H1 H2 H3 u0 u1 u2 u3 cards s o t3 t4 t5 (some (.ref X.self)) (lNs j (some (.ref hp)) code oct (some (.ref wa)) (some (.str (S X.cs) t6)) word hidden bare quoted (some (.int ((kOf cards : Nat) : Int) t7)) none none none none none none none none) ++ (led X σ ++ l))))
    (q : ∀ h' word, St Z h' ((wa, .lst (wv s o ps)) :: (lawPre L sc hp H0 H1 H2 H3 u0 u1 u2 u3 cards s o t3 t4 t5 (some (.ref X.self)) (lNs j (some (.ref hp)) code oct (some (.ref wa)) (some (.str (S X.cs) t6)) word hidden bare quoted (some (.int ((kOf cards : Nat) : Int) t7)) none none none none none none none none) ++ (led X { σ with ws := wv s o ps } ++ l))) → W Z k (execs (lawB 11) (callEnvC fLaw L 131)) Q h') :
    W Z k (execs (lawB 10) (callEnvC fLaw L 131)) Q h := by
  have hpl : ps.length ≤ 8 := by have := hg.len; simpa using this
  refine w_execs_cons ?_
  refine w_For (fun _ => rfl) ?_
  walk_at "name"
  refine w_iterList D (by walk_at "mem") ?_
  intro it h D
  have D := D.front (p := (wa, .lst (wv s o ps))) (by walk_at "pick")
  have D := D.front (p := (it, _)) (by walk_at "pick")
  refine c_forList (fun i l' => ∃ wd, l' = lawPre L sc hp H0 H1 H2 H3 u0 u1 u2 u3 cards s o t3 t4 t5 (some (.ref X.self)) (lNs j (some (.ref hp)) code oct (some (.ref wa)) (some (.str (S X.cs) t6)) wd hidden bare quoted (some (.int ((kOf cards : Nat) : Int) t7)) none none none none none none none none) ++ (led X { σ with ws := wv s o (ps.take i) } ++ l)) ⟨word, by rw [List.take_zero, show wv s o [] = σ.ws from hw.symm]⟩ D ?_ ?_ (fun _ => rfl)
  · clear D
    rintro i v _ h hv ⟨wd, rfl⟩ D
    obtain ⟨⟨p, tp⟩, hx, rfl⟩ : ∃ x : Nat × Tok, ps[i]? = some x ∧ (.str (S (pil s o x.1)) x.2 : Value) = v := by
      unfold wv at hv; rw [List.getElem?_map] at hv; exact Option.map_eq_some_iff.mp hv
    refine w_assignName ?_
    walk_at "store"; intro h D
    refine w_execs_cons ?_
    refine w_Expr ?_ rfl rfl
    refine w_CallMeth rfl rfl rfl ?_
    walk_at "name"
    intro pl
    refine w_methN F.g D F.mPush (by walk_at "mem") (by walk_at "mem") rfl ?_
    refine w_withFunction (o := fnObj fPush) (fd := fPush) rfl ?_
    refine w_arg rfl ?_
    walk_at "name"
    refine w_arg_nil ?_
    refine ⟨⟨F.push.here D, rfl⟩, ?_⟩
    refine push_spec F (by show (wv s o (ps.take i)).length ≤ 1000; rw [wv_len, List.length_take]; omega) (St.inward [_, _, _, _, _, _, _, _, _] D) (by omega) ?_
    intro h D
    have D := St.outward [_, _, _, _, _, _, _, _, _] D
    dsimp only
    refine w_execs_nil ?_
    refine ⟨_, ⟨some (.str (S (pil s o p)) tp), rfl⟩, ?_⟩
    rw [List.take_add_one, hx, wv_app]
    exact D
  · rintro _ h ⟨wd, rfl⟩ D
    refine w_execs_nil ?_
    rw [wv_len, List.take_length] at D
    exact q h wd D
theorem law_turns1 {X : Lex} {σ : LexS} {hp wa : Addr} {H0 H1 H2 H3 : Int} {u0 u1 u2 u3 : Tok} {cards s o : Nat} {code oct j word hidden bare quoted : Option Value} {t3 t4 t5 t6 : Tok} {ps : List (Nat × Tok)} {t7 : Tok} (F : Facts Z) (hw : σ.ws = wv s o ps) (K : SO s o) (hk : k < 49) (hg : Good8 (ps.map (·.1))) (h1 : 1 ≤ cards) (h8 : cards ≤ 8)
    (D : St Z h ((wa, .lst (wv s o ps)) :: (lawPre L sc hp H0 H1 H2 H3 u0 u1 u2 u3 cards s o t3 t4 t5 (some (.ref X.self)) (lNs j (some (.ref hp)) code (some (.int ((o : Nat) : Int) t2)) (some (.ref wa)) (some (.str (S X.cs) t6)) word hidden bare quoted (some (.int ((kOf cards : Nat) : Int) t7)) none none none none none none none none) ++ (led X σ ++ l))))
    (q : ∀ h' (ps' : List (Nat × Tok)) t8, ps'.map (·.1) = line1 cards (ps.map (·.1)) → St Z h' ((wa, .lst (wv s o ps)) :: (lawPre L sc hp H0 H1 H2 H3 u0 u1 u2 u3 cards s o t3 t4 t5 (some (.ref X.self)) (lNs j (some (.ref hp)) code (some (.int ((o : Nat) : Int) t2)) (some (.ref wa)) (some (.str (S X.cs) t6)) word hidden bare quoted (some (.int ((kOf cards : Nat) : Int) t7)) (some (.int ((ps'.length : Nat) : Int) t8)) none none none none none none none) ++ (led X { σ with ws := wv s o ps' } ++ l))) → W Z k (execs (lawB 12) (callEnvC fLaw L 131)) Q h') :
    W Z k (execs (lawB 11) (callEnvC fLaw L 131)) Q h := by
  have hpl : ps.length ≤ 8 := by have := hg.len; simpa using this
  have hkr := kOf_range cards
  refine w_execs_cons ?_
  refine w_AssignName ?_ rfl
  refine w_Call rfl ?_
  walk_at "gl"
  refine w_withFunction (o := fnObj fTur) (fd := fTur) rfl ?_
  refine w_arg rfl ?_
  walk_at "name"
  refine w_arg rfl ?_
  refine w_Call rfl ?_
  walk_at "bi"
  refine w_withBuiltin rfl ?_
  refine w_arg rfl ?_
  walk_at "name"
  refine w_arg_nil ?_
  refine w_lenList D (by walk_at "mem") (by rw [wv_len]; omega) fun t9 => ?_
  rw [wv_len]
  refine w_arg rfl ?_
  refine w_BinOp ?_
  walk_at "name"
  refine w_Call rfl ?_
  walk_at "bi"
  refine w_withBuiltin rfl ?_
  refine w_arg rfl ?_
  walk_at "name"
  refine w_arg_nil ?_
  refine w_chr (by have := K.lt; omega) fun t10 => ?_
  refine w_addStr (by simp only [S_len, sizeLine_eq, List.length_cons, List.length_nil]; omega) fun t11 => ?_
  rw [S_app]
  refine w_arg rfl ?_
  refine w_BinOp ?_
  refine w_BinOp ?_
  walk_at "name"
  refine w_BinOp ?_
  refine w_BinOp ?_
  walk_at "name"
  refine w_BinOp ?_
  walk_at "name"
  refine w_int fun t12 => ?_
  refine w_subInt fun t13 => ?_
  refine w_mulInt (mulOk_small (by omega) (by omega)) fun t14 => ?_
  refine w_int fun t15 => ?_
  refine w_divInt (by decide) (by decide) fun t16 => ?_
  refine w_addInt fun t17 => ?_
  refine w_int fun t18 => ?_
  refine w_subInt fun t19 => ?_
  refine w_arg_nil ?_
  refine ⟨⟨F.tur.here D, rfl⟩, ?_⟩
  rw [turns_num hkr h1]
  have hn : cards + kOf cards * (kOf cards - 1) / 2 - 1 ≤ 1000 := by
    have : kOf cards = 1 ∨ kOf cards = 2 ∨ kOf cards = 3 := by omega
    rcases this with e | e | e <;> rw [e] <;> omega
  refine turns_spec F K hg hn hw (St.inward [_, _, _, _, _, _, _, _] D) (by omega) ?_
  intro h ps' t8 hps' D
  have D := St.outward [_, _, _, _, _, _, _, _] D
  walk_at "store"; intro h D
  exact q h ps' t8 hps' D
theorem law_line {X : Lex} {σ : LexS} {hp wa : Addr} {H0 H1 H2 H3 : Int} {u0 u1 u2 u3 : Tok} {cards s o : Nat} {code oct j word hidden bare quoted : Option Value} {t3 t4 t5 t6 : Tok} {ps : List (Nat × Tok)} {t2 t7 t8 : Tok} {ps' : List (Nat × Tok)} (F : Facts Z) (hw : σ.ws = wv s o ps') (hk : k < 49) (hg : Good8 (ps'.map (·.1)))
    (D : St Z h ((wa, .lst (wv s o ps)) :: (lawPre L sc hp H0 H1 H2 H3 u0 u1 u2 u3 cards s o t3 t4 t5 (some (.ref X.self)) (lNs j (some (.ref hp)) code (some (.int ((o : Nat) : Int) t2)) (some (.ref wa)) (some (.str (S X.cs) t6)) word hidden bare quoted (some (.int ((kOf cards : Nat) : Int) t7)) (some (.int ((ps'.length : Nat) : Int) t8)) none none none none none none none) ++ (led X σ ++ l))))
    (q : ∀ h' la, St Z h' ((la, .lst (wv s o ps')) :: (wa, .lst (wv s o ps)) :: (lawPre L sc hp H0 H1 H2 H3 u0 u1 u2 u3 cards s o t3 t4 t5 (some (.ref X.self)) (lNs j (some (.ref hp)) code (some (.int ((o : Nat) : Int) t2)) (some (.ref wa)) (some (.str (S X.cs) t6)) word hidden bare quoted (some (.int ((kOf cards : Nat) : Int) t7)) (some (.int ((ps'.length : Nat) : Int) t8)) (some (.ref la)) none none none none none none) ++ (led X { σ with ws := [] } ++ l))) → W Z k (execs (lawB 13) (callEnvC fLaw L 131)) Q h') :
    W Z k (execs (lawB 12) (callEnvC fLaw L 131)) Q h := by
  have hpl : ps'.length ≤ 8 := by have := hg.len; simpa using this
  refine w_execs_cons ?_
  refine w_AssignComp (cl := [("lexer", L + 1 + 1 + 1 + 1 + 1)]) ["one"] rfl rfl (fun _ => rfl) rfl rfl rfl (by decide) ?_
  refine w_Call rfl ?_
  walk_at "bi"
  refine w_withType rfl ?_
  refine w_arg rfl ?_
  walk_at "name"
  refine w_arg_nil ?_
  refine w_range1 D ?_
  intro r tr1 tr2 h D
  refine w_iterRange D (.head _) (by decide) (by omega) ?_
  intro itO h D
  rw [rAt_zero] at D
  have D := D.drop (.there .here)
  refine ⟨_, D, fun acc Cc h D => ?_⟩
  have D := D.front (p := (itO, _)) (by walk_at "pick")
  refine go_range (n := ps'.length) (fun i l' => ∃ (ov : Option Value), l' = (Cc, .ns [("one", ov)]) :: (acc, .lst (wv s o (ps'.take i))) :: (wa, .lst (wv s o ps)) :: (lawPre L sc hp H0 H1 H2 H3 u0 u1 u2 u3 cards s o t3 t4 t5 (some (.ref X.self)) (lNs j (some (.ref hp)) code (some (.int ((o : Nat) : Int) t2)) (some (.ref wa)) (some (.str (S X.cs) t6)) word hidden bare quoted (some (.int ((kOf cards : Nat) : Int) t7)) (some (.int ((ps'.length : Nat) : Int) t8)) none none none none none none none) ++ (led X { σ with ws := wv s o (ps'.drop i) } ++ l))) ⟨none, by rw [List.drop_zero, List.take_zero, ← hw]; rfl⟩ D (Nat.zero_le _) ?_ ?_ (fun _ => rfl)
  · clear D
    rintro i _ h ti _ hil ⟨ov, rfl⟩ D
    obtain ⟨x, hx⟩ : ∃ x, ps'[i]? = some x := ⟨_, List.getElem?_eq_getElem hil⟩
    have hdrop : ps'.drop i = x :: ps'.drop (i + 1) := by
      rw [List.drop_eq_getElem_cons hil]
      rw [List.getElem?_eq_getElem hil] at hx
      injection hx with hx
      rw [hx]
    refine w_assignName ?_
    walk_at "store"; intro h D
    refine turn_plain ?_
    refine w_CallMeth rfl rfl rfl ?_
    walk_at "name"
    intro pl
    refine w_methN F.g D F.mGet (by walk_at "mem") (by walk_at "mem") rfl ?_
    refine w_withFunction (o := fnObj fGet) (fd := fGet) rfl ?_
    refine w_arg_nil ?_
    refine ⟨⟨F.get.here D, rfl⟩, ?_⟩
    refine get_wait (v := .str (S (pil s o x.1)) x.2) (ws := wv s o (ps'.drop (i + 1))) F (by rw [hdrop]; rfl) (by rw [wv_len, List.length_drop]; omega) (St.inward [_, _, _, _, _, _, _, _, _, _, _] D) (by omega) ?_
    intro h D
    have D := St.outward [_, _, _, _, _, _, _, _, _, _, _] D
    refine w_append D (by walk_at "upd") (by rw [wv_len, List.length_take]; omega) ?_
    intro h D
    refine ⟨_, ⟨some (.int (i : Int) ti), rfl⟩, ?_⟩
    rw [List.take_add_one, hx, wv_app]
    exact D
  · rintro _ h ⟨ov, rfl⟩ D
    rw [List.take_length, List.drop_length] at D
    walk_at "store"; intro h D
    refine ⟨_, _, D, fun h D => ?_⟩
    exact q h acc D
end
end L2
end Mine

namespace Mine
def moreOf (n : Nat) (q1 : List Nat) : List Nat := (List.range (kOf n + 1)).map fun j => (steps n q1).getD j 0 - j
structure Stairs (n : Nat) (q1 : List Nat) : Prop where
  le : q1.length ≤ kOf n + 1
  len : (steps n q1).length = kOf n + 1
  at_ : ∀ j, j < kOf n + 1 → (steps n q1).getD j 0 = j ∨ (steps n q1).getD j 0 = j + 1
  turn : ∀ t, t < kOf n + 2 → (addIdx ((moreOf n q1).drop t ++ (moreOf n q1).take t)).filter (fun p => decide (0 < p)) = turnN t q1
theorem stairs_of {n : Nat} {q : List Nat} (h1 : 1 ≤ n) (h8 : n ≤ 8) (hp : ∀ p ∈ q, 0 < p) (hs : q.sum = n) : Stairs n (line1 n q) := by
  have ok := stair_ok h1 h8 hp hs
  unfold stairOk at ok
  simp only [Bool.and_eq_true, decide_eq_true_eq, List.all_eq_true, List.mem_range] at ok
  obtain ⟨a, b, c, d⟩ := ok
  exact ⟨a, b, c, d⟩
theorem turnN_sum {q : List Nat} (hp : ∀ p ∈ q, 0 < p) (hne : q ≠ []) (n : Nat) : (turnN n q).sum = q.sum := by
  induction n generalizing q with
  | zero => rfl
  | succ n ih =>
    show (turnN n (turn q)).sum = _
    rw [ih, turn_sum hp]
    · intro p hq
      unfold turn at hq
      rcases List.mem_append.mp hq with hq | hq
      · have := (List.mem_filter.mp hq).2
        have : p ≠ 0 := by simpa using this
        omega
      · simp only [List.mem_cons, List.not_mem_nil, or_false] at hq
        subst hq
        exact List.length_pos_iff.mpr hne
    · unfold turn; simp
theorem nv_iv (xs : List (Nat × Tok)) : nv xs = iv (xs.map fun p => ((p.1 : Int), p.2)) := by simp [nv, iv, Function.comp_def]
theorem nv_sum (xs : List (Nat × Tok)) : ((xs.map fun p => ((p.1 : Int), p.2)).map (·.1)).sum = ((xs.map (·.1)).sum : Nat) := by
  induction xs with
  | nil => rfl
  | cons x xs ih => simp only [List.map_cons, List.sum_cons] at ih ⊢; rw [ih]; omega
theorem nv_len (xs : List (Nat × Tok)) : (nv xs).length = xs.length := by simp [nv]
theorem nv_at {xs : List (Nat × Tok)} {j : Nat} {v : Value} (h : (nv xs)[j]? = some v) : ∃ p : Nat × Tok, xs[j]? = some p ∧ (.int (p.1 : Int) p.2 : Value) = v := by
  unfold nv at h; rw [List.getElem?_map] at h; exact Option.map_eq_some_iff.mp h
theorem wv_at {s o : Nat} {xs : List (Nat × Tok)} {j : Nat} {v : Value} (h : (wv s o xs)[j]? = some v) : ∃ p : Nat × Tok, xs[j]? = some p ∧ (.str (S (pil s o p.1)) p.2 : Value) = v := by
  unfold wv at h; rw [List.getElem?_map] at h; exact Option.map_eq_some_iff.mp h
theorem rep_one {n : Nat} {v : Value} : (List.replicate n [v]).flatten = List.replicate n v := by
  induction n with
  | zero => rfl
  | succ n ih => rw [List.replicate_succ, List.flatten_cons, ih, List.replicate_succ]; rfl
theorem lt_of_at {α : Type} {xs : List α} {j : Nat} {v : α} (h : xs[j]? = some v) : j < xs.length := by
  rcases Nat.lt_or_ge j xs.length with y | y
  · exact y
  · rw [List.getElem?_eq_none y] at h; cases h
namespace L2
local macro_rules | `(tactic| walk_at "mem") => `(tactic| first | exact List.Mem.head _ | (refine List.Mem.tail _ ?_; walk_at "mem"))
local macro_rules | `(tactic| walk_at "upd") => `(tactic| first | exact Upd.here | (apply Upd.there; walk_at "upd"))
local macro_rules | `(tactic| walk_at "put") => `(tactic| first | exact Put.here | (apply Put.there; walk_at "put"))
local macro_rules | `(tactic| walk_at "pick") => `(tactic| first | exact Pick.here | (apply Pick.there; walk_at "pick"))
local macro_rules | `(tactic| walk_at "name") => `(tactic| first
  | refine w_localName (by assumption) (by walk_at "mem") (by walk_at "mem") ?_ rfl rfl rfl
  | refine w_freeName (by assumption) (by walk_at "mem") ?_ rfl rfl rfl rfl rfl
  | refine w_cellName (by assumption) (by walk_at "mem") ?_ rfl rfl rfl rfl)
local macro_rules | `(tactic| walk_at "load") => `(tactic| refine W.loadLocal (by assumption) (by walk_at "mem") (by walk_at "mem") rfl rfl ?_)
local macro_rules | `(tactic| walk_at "store") => `(tactic| (refine w_store (by assumption) (by walk_at "mem") (by walk_at "put") (by walk_at "upd") rfl rfl ?_))
local macro_rules | `(tactic| walk_at "bi") => `(tactic| refine w_bi (by assumption) (by assumption) (by walk_at "mem") ?_ rfl rfl rfl rfl rfl)
local macro_rules | `(tactic| walk_at "gl") => `(tactic| refine w_gl (by assumption) (by assumption) (by walk_at "mem") ?_ rfl rfl rfl rfl)

section
variable {Z : Sur} {h : Heap} {l : Led} {k : Nat} {L sc : Addr} {Q : Flow → Heap → Prop}
theorem law_stairs {X : Lex} {σ : LexS} {hp wa : Addr} {H0 H1 H2 H3 : Int} {u0 u1 u2 u3 : Tok} {cards s o : Nat} {code oct j word hidden bare quoted : Option Value} {t3 t4 t5 t6 : Tok} {ps : List (Nat × Tok)} {t2 t7 t8 : Tok} {ps' : List (Nat × Tok)} {la : Addr} (F : Facts Z) (hk : k < 49) (hg : Good8 (ps'.map (·.1)))
    (D : St Z h ((la, .lst (wv s o ps')) :: (wa, .lst (wv s o ps)) :: (lawPre L sc hp H0 H1 H2 H3 u0 u1 u2 u3 cards s o t3 t4 t5 (some (.ref X.self)) (lNs j (some (.ref hp)) code (some (.int ((o : Nat) : Int) t2)) (some (.ref wa)) (some (.str (S X.cs) t6)) word hidden bare quoted (some (.int ((kOf cards : Nat) : Int) t7)) (some (.int ((ps'.length : Nat) : Int) t8)) (some (.ref la)) none none none none none none) ++ (led X σ ++ l))))
    (q : ∀ h' sa ss, ss.map (·.1) = ps'.map (·.1) → St Z h' ((sa, .lst (nv ss)) :: (la, .lst (wv s o ps')) :: (wa, .lst (wv s o ps)) :: (lawPre L sc hp H0 H1 H2 H3 u0 u1 u2 u3 cards s o t3 t4 t5 (some (.ref X.self)) (lNs j (some (.ref hp)) code (some (.int ((o : Nat) : Int) t2)) (some (.ref wa)) (some (.str (S X.cs) t6)) word hidden bare quoted (some (.int ((kOf cards : Nat) : Int) t7)) (some (.int ((ps'.length : Nat) : Int) t8)) (some (.ref la)) (some (.ref sa)) none none none none none) ++ (led X σ ++ l))) → W Z k (execs (lawB 14) (callEnvC fLaw L 131)) Q h') :
    W Z k (execs (lawB 13) (callEnvC fLaw L 131)) Q h := by
  have hpl : ps'.length ≤ 8 := by have := hg.len; simpa using this
  refine w_execs_cons ?_
  refine w_AssignComp (cl := []) ["word"] rfl rfl (fun _ => rfl) rfl rfl rfl (by decide) ?_
  walk_at "name"
  refine w_iterList D (by walk_at "mem") ?_
  intro it h D
  refine ⟨_, D, fun acc Cc h D => ?_⟩
  have D := D.front (p := (la, _)) (by walk_at "pick")
  have D := D.front (p := (it, _)) (by walk_at "pick")
  refine go_list (fun i l' => ∃ (ss : List (Nat × Tok)) (wd : Option Value), ss.map (·.1) = (ps'.map (·.1)).take i ∧ l' = (Cc, .ns [("word", wd)]) :: (acc, .lst (nv ss)) :: (wa, .lst (wv s o ps)) :: (lawPre L sc hp H0 H1 H2 H3 u0 u1 u2 u3 cards s o t3 t4 t5 (some (.ref X.self)) (lNs j (some (.ref hp)) code (some (.int ((o : Nat) : Int) t2)) (some (.ref wa)) (some (.str (S X.cs) t6)) word hidden bare quoted (some (.int ((kOf cards : Nat) : Int) t7)) (some (.int ((ps'.length : Nat) : Int) t8)) (some (.ref la)) none none none none none none) ++ (led X σ ++ l))) ⟨[], none, rfl, rfl⟩ D ?_ ?_ (fun _ => rfl)
  · clear D
    rintro i v _ h hv ⟨ss, wd, hss, rfl⟩ D
    obtain ⟨⟨p, tp⟩, hx, rfl⟩ := wv_at hv
    have hmem : p ∈ ps'.map (·.1) := List.mem_map.mpr ⟨(p, tp), List.mem_of_getElem? hx, rfl⟩
    have hqj : (ps'.map (·.1))[i]? = some p := by rw [List.getElem?_map, hx]; rfl
    have hp0 := hg.pos p hmem
    have hp8 := Nat.le_trans (mem_le_sum hmem) hg.sum
    have hsl : ss.length ≤ 8 := by
      have := congrArg List.length hss
      rw [List.length_map, List.length_take, List.length_map] at this
      omega
    refine w_assignName ?_
    walk_at "store"; intro h D
    refine turn_plain ?_
    refine w_BinOp ?_
    refine w_BinOp ?_
    refine w_Call rfl ?_
    walk_at "bi"
    refine w_withBuiltin rfl ?_
    refine w_arg rfl ?_
    walk_at "name"
    refine w_arg_nil ?_
    refine w_lenStr (by rw [S_len, sizeLine_eq, pil_len]; split <;> omega) fun t9 => ?_
    refine w_int fun t10 => ?_
    refine w_subInt fun t11 => ?_
    refine w_int fun t12 => ?_
    refine w_divInt (by decide) (by decide) fun t13 => ?_
    have e : (((S (pil s o p)).length : Int) - 1) / 2 = (p : Int) := by
      rw [S_len, pil_len, if_neg (by omega)]; omega
    rw [e]
    refine w_append D (by walk_at "upd") (by rw [nv_len]; omega) ?_
    intro h D
    refine ⟨_, ⟨ss ++ [(p, t13)], some (.str (S (pil s o p)) tp), ?_, rfl⟩, ?_⟩
    · rw [List.map_append, hss, List.take_add_one, hqj]; rfl
    · rw [nv_app]; exact D
  · rintro _ h ⟨ss, wd, hss, rfl⟩ D
    have D := D.front (p := (Cc, _)) (by walk_at "pick")
    walk_at "store"; intro h D
    refine ⟨_, _, D, fun h D => ?_⟩
    refine q h acc ss ?_ (D.front (p := (acc, _)) (by walk_at "pick"))
    rw [hss, wv_len, List.take_of_length_le (by rw [List.length_map]; exact Nat.le_refl _)]
theorem law_more {X : Lex} {σ : LexS} {hp wa : Addr} {H0 H1 H2 H3 : Int} {u0 u1 u2 u3 : Tok} {cards s o : Nat} {code oct j word hidden bare quoted : Option Value} {t3 t4 t5 t6 : Tok} {ps : List (Nat × Tok)} {t2 t7 t8 : Tok} {ps' : List (Nat × Tok)} {la : Addr} {sa : Addr} {ss : List (Nat × Tok)} (F : Facts Z) (hk : k < 49) (hss : ss.map (·.1) = ps'.map (·.1)) (T : Stairs cards (ps'.map (·.1)))
    (D : St Z h ((sa, .lst (nv ss)) :: (la, .lst (wv s o ps')) :: (wa, .lst (wv s o ps)) :: (lawPre L sc hp H0 H1 H2 H3 u0 u1 u2 u3 cards s o t3 t4 t5 (some (.ref X.self)) (lNs j (some (.ref hp)) code (some (.int ((o : Nat) : Int) t2)) (some (.ref wa)) (some (.str (S X.cs) t6)) word hidden bare quoted (some (.int ((kOf cards : Nat) : Int) t7)) (some (.int ((ps'.length : Nat) : Int) t8)) (some (.ref la)) (some (.ref sa)) none none none none none) ++ (led X σ ++ l))))
    (q : ∀ h' ma ms, ms.map (·.1) = moreOf cards (ps'.map (·.1)) → St Z h' ((ma, .lst (nv ms)) :: (sa, .lst (nv ss)) :: (la, .lst (wv s o ps')) :: (wa, .lst (wv s o ps)) :: (lawPre L sc hp H0 H1 H2 H3 u0 u1 u2 u3 cards s o t3 t4 t5 (some (.ref X.self)) (lNs j (some (.ref hp)) code (some (.int ((o : Nat) : Int) t2)) (some (.ref wa)) (some (.str (S X.cs) t6)) word hidden bare quoted (some (.int ((kOf cards : Nat) : Int) t7)) (some (.int ((ps'.length : Nat) : Int) t8)) (some (.ref la)) (some (.ref sa)) (some (.ref ma)) none none none none) ++ (led X σ ++ l))) → W Z k (execs (lawB 15) (callEnvC fLaw L 131)) Q h') :
    W Z k (execs (lawB 14) (callEnvC fLaw L 131)) Q h := by
  have hkr := kOf_range cards
  have hle : ps'.length ≤ kOf cards + 1 := by have := T.le; rwa [List.length_map] at this
  have hsl : ss.length = ps'.length := by have := congrArg List.length hss; simpa using this
  refine w_execs_cons ?_
  refine w_AssignComp (cl := []) ["j", "pile"] rfl rfl (fun _ => rfl) rfl rfl rfl (by decide) ?_
  refine w_Call rfl ?_
  walk_at "bi"
  refine w_withType rfl ?_
  refine w_arg rfl ?_
  refine w_BinOp ?_
  refine w_BinOp ?_
  refine w_List ?_
  refine w_arg rfl ?_
  refine w_int fun t9 => ?_
  refine w_arg_nil ?_
  refine ⟨Nat.le_of_ble_eq_true rfl, _, D, fun za h D => ?_⟩
  refine w_BinOp ?_
  refine w_BinOp ?_
  walk_at "name"
  refine w_int fun t10 => ?_
  refine w_addInt fun t11 => ?_
  walk_at "name"
  refine w_subInt fun t12 => ?_
  rw [show ((kOf cards : Nat) : Int) + 1 - ((ps'.length : Nat) : Int) = ((kOf cards + 1 - ps'.length : Nat) : Int) by omega]
  refine w_mulList D (by walk_at "mem") (by simp) (by simp only [List.length_cons, List.length_nil]; omega) (by omega) ?_
  intro zb h D
  rw [rep_one] at D
  walk_at "name"
  refine w_addList D (by walk_at "mem") (by walk_at "mem") (by rw [List.length_replicate, nv_len]; omega) ?_
  intro zc h D
  have ez : List.replicate (kOf cards + 1 - ps'.length) (Value.int 0 t9) ++ nv ss = nv (List.replicate (kOf cards + 1 - ps'.length) (0, t9) ++ ss) := by
    rw [nv_app]; congr 1; simp [nv]
  rw [ez] at D
  have hzs : (List.replicate (kOf cards + 1 - ps'.length) ((0 : Nat), t9) ++ ss).map (·.1) = steps cards (ps'.map (·.1)) := by
    unfold steps
    rw [List.map_append, hss, List.map_replicate, List.length_map]
  generalize List.replicate (kOf cards + 1 - ps'.length) (0, t9) ++ ss = zs at D hzs
  have hzl : zs.length = kOf cards + 1 := by
    have := congrArg List.length hzs
    rw [List.length_map, T.len] at this; exact this
  have D := D.drop (p := (zb, _)) (by walk_at "pick")
  have D := D.drop (p := (za, _)) (by walk_at "pick")
  refine w_arg_nil ?_
  refine w_enumL D (by walk_at "mem") ?_
  intro e it h D
  refine w_iterEnum D (.head _) ?_
  refine ⟨_, D, fun acc Cc h D => ?_⟩
  have D := D.front (p := (zc, _)) (by walk_at "pick")
  have D := D.front (p := (it, _)) (by walk_at "pick")
  have D := D.front (p := (e, _)) (by walk_at "pick")
  refine go_enumL (fun i l' => ∃ (ms : List (Nat × Tok)) (jv pv : Option Value), ms.map (·.1) = (moreOf cards (ps'.map (·.1))).take i ∧ l' = (Cc, .ns [("j", jv), ("pile", pv)]) :: (acc, .lst (nv ms)) :: (sa, .lst (nv ss)) :: (la, .lst (wv s o ps')) :: (wa, .lst (wv s o ps)) :: (lawPre L sc hp H0 H1 H2 H3 u0 u1 u2 u3 cards s o t3 t4 t5 (some (.ref X.self)) (lNs j (some (.ref hp)) code (some (.int ((o : Nat) : Int) t2)) (some (.ref wa)) (some (.str (S X.cs) t6)) word hidden bare quoted (some (.int ((kOf cards : Nat) : Int) t7)) (some (.int ((ps'.length : Nat) : Int) t8)) (some (.ref la)) (some (.ref sa)) none none none none none) ++ (led X σ ++ l))) ⟨[], none, none, rfl, rfl⟩ D ?_ ?_
  · clear D
    rintro i v _ h tup tt hv ⟨ms, jv, pv, hms, rfl⟩ D
    obtain ⟨⟨p, tp⟩, hx, rfl⟩ := nv_at hv
    have hi := lt_of_at hx
    rw [hzl] at hi
    have hpg : (steps cards (ps'.map (·.1))).getD i 0 = p := by
      rw [← hzs, List.getD_eq_getElem?_getD, List.getElem?_map, hx]; rfl
    have hp := T.at_ i hi
    rw [hpg] at hp
    have hmi : (moreOf cards (ps'.map (·.1)))[i]? = some (p - i) := by
      unfold moreOf
      rw [List.getElem?_map, List.getElem?_range hi]
      simp only [Option.map_some, hpg]
    have hml : ms.length ≤ 8 := by
      have := congrArg List.length hms
      rw [List.length_map, List.length_take] at this
      omega
    refine w_assignTup D (.head _) rfl rfl ?_
    intro h D
    have D := D.tail
    refine w_order_cons ?_
    refine w_assignName ?_
    walk_at "store"; intro h D
    refine w_order_cons ?_
    refine w_assignName ?_
    walk_at "store"; intro h D
    refine w_order_nil ?_
    refine turn_plain ?_
    refine w_BinOp ?_
    walk_at "name"
    walk_at "name"
    refine w_subInt fun t13 => ?_
    rw [show (p : Int) - (i : Int) = ((p - i : Nat) : Int) by omega]
    refine w_append D (by walk_at "upd") (by rw [nv_len]; omega) ?_
    intro h D
    refine ⟨_, ⟨ms ++ [(p - i, t13)], some (.int (i : Int) tt), some (.int (p : Int) tp), ?_, rfl⟩, ?_⟩
    · rw [List.map_append, hms, List.take_add_one, hmi]; rfl
    · rw [nv_app]; exact D
  · rintro _ h ⟨ms, jv, pv, hms, rfl⟩ D
    have D := D.tail
    walk_at "store"; intro h D
    refine ⟨_, _, D, fun h D => ?_⟩
    refine q h acc ms ?_ D
    rw [hms, nv_len, hzl, List.take_of_length_le]
    unfold moreOf
    rw [List.length_map, List.length_range]
    exact Nat.le_refl _
end
end L2
end Mine

namespace Mine
theorem more_small {n : Nat} {q1 : List Nat} (T : Stairs n q1) : ∀ m ∈ moreOf n q1, m = 0 ∨ m = 1 := by
  intro m hm
  unfold moreOf at hm
  obtain ⟨j, hj, rfl⟩ := List.mem_map.mp hm
  have := T.at_ j (List.mem_range.mp hj)
  omega
theorem div4_9 : (4 : Int) ^ 9 = 262144 := by decide
def turnsOf (H : Int) (kk : Nat) : Nat := (H / 4 ^ 9 % ((kk : Int) + 2)).toNat
theorem turnsOf_eq (H : Int) (kk : Nat) : H / 4 ^ 9 % ((kk : Int) + 2) = (turnsOf H kk : Int) := by
  unfold turnsOf
  have := Int.emod_nonneg (H / 4 ^ 9) (show ((kk : Int) + 2) ≠ 0 by omega)
  omega
theorem turnsOf_lt (H : Int) (kk : Nat) : turnsOf H kk < kk + 2 := by
  unfold turnsOf
  have := Int.emod_lt_of_pos (H / 4 ^ 9) (show 0 < ((kk : Int) + 2) by omega)
  have := Int.emod_nonneg (H / 4 ^ 9) (show ((kk : Int) + 2) ≠ 0 by omega)
  omega
namespace L2
local macro_rules | `(tactic| walk_at "mem") => `(tactic| first | exact List.Mem.head _ | (refine List.Mem.tail _ ?_; walk_at "mem"))
local macro_rules | `(tactic| walk_at "upd") => `(tactic| first | exact Upd.here | (apply Upd.there; walk_at "upd"))
local macro_rules | `(tactic| walk_at "put") => `(tactic| first | exact Put.here | (apply Put.there; walk_at "put"))
local macro_rules | `(tactic| walk_at "pick") => `(tactic| first | exact Pick.here | (apply Pick.there; walk_at "pick"))
local macro_rules | `(tactic| walk_at "name") => `(tactic| first
  | refine w_localName (by assumption) (by walk_at "mem") (by walk_at "mem") ?_ rfl rfl rfl
  | refine w_freeName (by assumption) (by walk_at "mem") ?_ rfl rfl rfl rfl rfl
  | refine w_cellName (by assumption) (by walk_at "mem") ?_ rfl rfl rfl rfl)
local macro_rules | `(tactic| walk_at "load") => `(tactic| refine W.loadLocal (by assumption) (by walk_at "mem") (by walk_at "mem") rfl rfl ?_)
local macro_rules | `(tactic| walk_at "store") => `(tactic| (refine w_store (by assumption) (by walk_at "mem") (by walk_at "put") (by walk_at "upd") rfl rfl ?_))
local macro_rules | `(tactic| walk_at "bi") => `(tactic| refine w_bi (by assumption) (by assumption) (by walk_at "mem") ?_ rfl rfl rfl rfl rfl)
local macro_rules | `(tactic| walk_at "gl") => `(tactic| refine w_gl (by assumption) (by assumption) (by walk_at "mem") ?_ rfl rfl rfl rfl)

section
variable {Z : Sur} {h : Heap} {l : Led} {k : Nat} {L sc : Addr} {Q : Flow → Heap → Prop}
theorem law_check {X : Lex} {σ : LexS} {hp wa : Addr} {H0 H1 H2 H3 : Int} {u0 u1 u2 u3 : Tok} {cards s o : Nat} {code oct j word hidden bare quoted : Option Value} {t3 t4 t5 t6 : Tok} {ps : List (Nat × Tok)} {t2 t7 t8 : Tok} {ps' : List (Nat × Tok)} {la sa ma : Addr} {ss ms : List (Nat × Tok)} (F : Facts Z) (hk : k < 49) (hss : ss.map (·.1) = ps'.map (·.1)) (hsum : (ps'.map (·.1)).sum = cards) (T : Stairs cards (ps'.map (·.1))) (hms : ms.map (·.1) = moreOf cards (ps'.map (·.1)))
    (D : St Z h ((ma, .lst (nv ms)) :: (sa, .lst (nv ss)) :: (la, .lst (wv s o ps')) :: (wa, .lst (wv s o ps)) :: (lawPre L sc hp H0 H1 H2 H3 u0 u1 u2 u3 cards s o t3 t4 t5 (some (.ref X.self)) (lNs j (some (.ref hp)) code (some (.int ((o : Nat) : Int) t2)) (some (.ref wa)) (some (.str (S X.cs) t6)) word hidden bare quoted (some (.int ((kOf cards : Nat) : Int) t7)) (some (.int ((ps'.length : Nat) : Int) t8)) (some (.ref la)) (some (.ref sa)) (some (.ref ma)) none none none none) ++ (led X σ ++ l))))
    (q : ∀ h', St Z h' ((ma, .lst (nv ms)) :: (sa, .lst (nv ss)) :: (la, .lst (wv s o ps')) :: (wa, .lst (wv s o ps)) :: (lawPre L sc hp H0 H1 H2 H3 u0 u1 u2 u3 cards s o t3 t4 t5 (some (.ref X.self)) (lNs j (some (.ref hp)) code (some (.int ((o : Nat) : Int) t2)) (some (.ref wa)) (some (.str (S X.cs) t6)) word hidden bare quoted (some (.int ((kOf cards : Nat) : Int) t7)) (some (.int ((ps'.length : Nat) : Int) t8)) (some (.ref la)) (some (.ref sa)) (some (.ref ma)) none none none none) ++ (led X σ ++ l))) → W Z k (execs (lawB 16) (callEnvC fLaw L 131)) Q h') :
    W Z k (execs (lawB 15) (callEnvC fLaw L 131)) Q h := by
  refine w_execs_cons ?_
  refine w_If ?_
  refine w_isBool ?_
  refine w_or_cons ?_
  refine w_isCompare ?_ rfl
  refine w_Call rfl ?_
  walk_at "bi"
  refine w_withBuiltin rfl ?_
  refine w_arg rfl ?_
  walk_at "name"
  refine w_arg_nil ?_
  refine w_sumList (xs := ss.map fun p => ((p.1 : Int), p.2)) D (by rw [← nv_iv]; walk_at "mem") ?_
  intro t9 h D
  rw [nv_sum, hss, hsum]
  walk_at "name"
  refine w_neInt ?_
  refine w_truthy_bool ?_
  rw [show (((cards : Nat) : Int) != ((cards : Nat) : Int)) = false by simp, if_neg (by decide)]
  refine w_or_cons ?_
  refine w_isCompare ?_ rfl
  refine w_ListComp (cl := []) ["j"] rfl (fun _ => rfl) rfl rfl rfl (by decide) ?_
  walk_at "name"
  refine w_iterList D (by walk_at "mem") ?_
  intro it h D
  refine ⟨_, D, fun acc Cc h D => ?_⟩
  have D := D.front (p := (ma, _)) (by walk_at "pick")
  have D := D.front (p := (it, _)) (by walk_at "pick")
  refine go_list (fun i l' => ∃ (jv : Option Value), l' = (Cc, .ns [("j", jv)]) :: (acc, .lst []) :: (sa, .lst (nv ss)) :: (la, .lst (wv s o ps')) :: (wa, .lst (wv s o ps)) :: (lawPre L sc hp H0 H1 H2 H3 u0 u1 u2 u3 cards s o t3 t4 t5 (some (.ref X.self)) (lNs j (some (.ref hp)) code (some (.int ((o : Nat) : Int) t2)) (some (.ref wa)) (some (.str (S X.cs) t6)) word hidden bare quoted (some (.int ((kOf cards : Nat) : Int) t7)) (some (.int ((ps'.length : Nat) : Int) t8)) (some (.ref la)) (some (.ref sa)) (some (.ref ma)) none none none none) ++ (led X σ ++ l))) ⟨none, rfl⟩ D ?_ ?_ (fun _ => rfl)
  · clear D
    rintro i v _ h hv ⟨jv, rfl⟩ D
    obtain ⟨⟨p, tp⟩, hx, rfl⟩ := nv_at hv
    have hp := more_small T p (by rw [← hms]; exact List.mem_map.mpr ⟨(p, tp), List.mem_of_getElem? hx, rfl⟩)
    refine w_assignName ?_
    walk_at "store"; intro h D
    refine turn_if ?_
    refine w_isCompare ?_ rfl
    walk_at "name"
    refine w_Tuple ?_
    refine w_arg rfl ?_
    refine w_int fun t10 => ?_
    refine w_arg rfl ?_
    refine w_int fun t11 => ?_
    refine w_arg_nil ?_
    refine ⟨Nat.le_of_ble_eq_true rfl, _, D, fun tp' h D => ?_⟩
    refine w_notInTup (xs := [(0, t10), (1, t11)]) D (by walk_at "mem") ?_
    have e : (!([(0, t10), (1, t11)] : List (Int × Tok)).any fun x => x.1 == (p : Int)) = false := by
      rcases hp with rfl | rfl <;> rfl
    rw [e]
    refine w_truthy_bool ?_
    rw [if_neg (by decide)]
    exact ⟨_, ⟨some (.int (p : Int) tp), rfl⟩, D.tail⟩
  · rintro _ h ⟨jv, rfl⟩ D
    have D := D.front (p := (Cc, _)) (by walk_at "pick")
    refine ⟨_, _, D, fun h D => ?_⟩
    refine w_List ?_
    refine w_arg_nil ?_
    refine ⟨Nat.le_of_ble_eq_true rfl, _, D, fun eb h D => ?_⟩
    refine w_neSame D (a := acc) (b := eb) (xs := []) (ys := []) (by walk_at "mem") (by walk_at "mem") rfl (fun j v w hv => by cases hv) (by omega) ?_
    refine w_truthy_bool ?_
    rw [if_neg (by decide)]
    refine w_or_nil ?_
    rw [if_neg (by decide)]
    refine w_execs_nil ?_
    refine q h ?_
    exact (D.drop (p := (eb, _)) (by walk_at "pick")).drop (p := (acc, _)) (by walk_at "pick")
theorem law_push2 {X : Lex} {σ : LexS} {hp wa : Addr} {H0 H1 H2 H3 : Int} {u0 u1 u2 u3 : Tok} {cards s o : Nat} {code oct j word hidden bare quoted : Option Value} {t3 t4 t5 t6 : Tok} {ps : List (Nat × Tok)} {t2 t7 t8 : Tok} {ps' : List (Nat × Tok)} {la sa ma : Addr} {ss ms : List (Nat × Tok)} (F : Facts Z) (hw : σ.ws = []) (hk : k < 49) (hg : Good8 (ps'.map (·.1)))
    (D : St Z h ((ma, .lst (nv ms)) :: (sa, .lst (nv ss)) :: (la, .lst (wv s o ps')) :: (wa, .lst (wv s o ps)) :: (lawPre L sc hp H0 H1 H2 H3 u0 u1 u2 u3 cards s o t3 t4 t5 (some (.ref X.self)) (lNs j (some (.ref hp)) code (some (.int ((o : Nat) : Int) t2)) (some (.ref wa)) (some (.str (S X.cs) t6)) word hidden bare quoted (some (.int ((kOf cards : Nat) : Int) t7)) (some (.int ((ps'.length : Nat) : Int) t8)) (some (.ref la)) (some (.ref sa)) (some (.ref ma)) none none none none) ++ (led X σ ++ l))))
    (q : ∀ h' word, St Z h' ((ma, .lst (nv ms)) :: (sa, .lst (nv ss)) :: (la, .lst (wv s o ps')) :: (wa, .lst (wv s o ps)) :: (lawPre L sc hp H0 H1 H2 H3 u0 u1 u2 u3 cards s o t3 t4 t5 (some (.ref X.self)) (lNs j (some (.ref hp)) code (some (.int ((o : Nat) : Int) t2)) (some (.ref wa)) (some (.str (S X.cs) t6)) word hidden bare quoted (some (.int ((kOf cards : Nat) : Int) t7)) (some (.int ((ps'.length : Nat) : Int) t8)) (some (.ref la)) (some (.ref sa)) (some (.ref ma)) none none none none) ++ (led X { σ with ws := wv s o ps' } ++ l))) → W Z k (execs (lawB 17) (callEnvC fLaw L 131)) Q h') :
    W Z k (execs (lawB 16) (callEnvC fLaw L 131)) Q h := by
  have hpl : ps'.length ≤ 8 := by have := hg.len; simpa using this
  refine w_execs_cons ?_
  refine w_For (fun _ => rfl) ?_
  walk_at "name"
  refine w_iterList D (by walk_at "mem") ?_
  intro it h D
  have D := D.front (p := (la, .lst (wv s o ps'))) (by walk_at "pick")
  have D := D.front (p := (it, _)) (by walk_at "pick")
  refine c_forList (fun i l' => ∃ wd, l' = (ma, .lst (nv ms)) :: (sa, .lst (nv ss)) :: (wa, .lst (wv s o ps)) :: (lawPre L sc hp H0 H1 H2 H3 u0 u1 u2 u3 cards s o t3 t4 t5 (some (.ref X.self)) (lNs j (some (.ref hp)) code (some (.int ((o : Nat) : Int) t2)) (some (.ref wa)) (some (.str (S X.cs) t6)) wd hidden bare quoted (some (.int ((kOf cards : Nat) : Int) t7)) (some (.int ((ps'.length : Nat) : Int) t8)) (some (.ref la)) (some (.ref sa)) (some (.ref ma)) none none none none) ++ (led X { σ with ws := wv s o (ps'.take i) } ++ l))) ⟨word, by rw [List.take_zero, show wv s o [] = σ.ws from hw.symm]⟩ D ?_ ?_ (fun _ => rfl)
  · clear D
    rintro i v _ h hv ⟨wd, rfl⟩ D
    obtain ⟨⟨p, tp⟩, hx, rfl⟩ : ∃ x : Nat × Tok, ps'[i]? = some x ∧ (.str (S (pil s o x.1)) x.2 : Value) = v := by
      unfold wv at hv; rw [List.getElem?_map] at hv; exact Option.map_eq_some_iff.mp hv
    refine w_assignName ?_
    walk_at "store"; intro h D
    refine w_execs_cons ?_
    refine w_Expr ?_ rfl rfl
    refine w_CallMeth rfl rfl rfl ?_
    walk_at "name"
    intro pl
    refine w_methN F.g D F.mPush (by walk_at "mem") (by walk_at "mem") rfl ?_
    refine w_withFunction (o := fnObj fPush) (fd := fPush) rfl ?_
    refine w_arg rfl ?_
    walk_at "name"
    refine w_arg_nil ?_
    refine ⟨⟨F.push.here D, rfl⟩, ?_⟩
    refine push_spec F (by show (wv s o (ps'.take i)).length ≤ 1000; rw [wv_len, List.length_take]; omega) (St.inward [_, _, _, _, _, _, _, _, _, _, _, _] D) (by omega) ?_
    intro h D
    have D := St.outward [_, _, _, _, _, _, _, _, _, _, _, _] D
    dsimp only
    refine w_execs_nil ?_
    refine ⟨_, ⟨some (.str (S (pil s o p)) tp), rfl⟩, ?_⟩
    rw [List.take_add_one, hx, wv_app]
    exact D
  · rintro _ h ⟨wd, rfl⟩ D
    refine w_execs_nil ?_
    rw [wv_len, List.take_length] at D
    exact q h wd ((D.front (p := (sa, _)) (by walk_at "pick")).front (p := (ma, _)) (by walk_at "pick"))
theorem law_turns2 {X : Lex} {σ : LexS} {hp wa : Addr} {H0 H1 H2 H3 : Int} {u0 u1 u2 u3 : Tok} {cards s o : Nat} {code oct j word hidden bare quoted : Option Value} {t3 t4 t5 t6 : Tok} {ps : List (Nat × Tok)} {t2 t7 t8 : Tok} {ps' : List (Nat × Tok)} {la sa ma : Addr} {ss ms : List (Nat × Tok)} (F : Facts Z) (hw : σ.ws = wv s o ps') (K : SO s o) (hk : k < 49) (hg : Good8 (ps'.map (·.1)))
    (D : St Z h ((ma, .lst (nv ms)) :: (sa, .lst (nv ss)) :: (la, .lst (wv s o ps')) :: (wa, .lst (wv s o ps)) :: (lawPre L sc hp H0 H1 H2 H3 u0 u1 u2 u3 cards s o t3 t4 t5 (some (.ref X.self)) (lNs j (some (.ref hp)) code (some (.int ((o : Nat) : Int) t2)) (some (.ref wa)) (some (.str (S X.cs) t6)) word hidden bare quoted (some (.int ((kOf cards : Nat) : Int) t7)) (some (.int ((ps'.length : Nat) : Int) t8)) (some (.ref la)) (some (.ref sa)) (some (.ref ma)) none none none none) ++ (led X σ ++ l))))
    (q : ∀ h' (ps2 : List (Nat × Tok)) t9 t10, ps2.map (·.1) = turnN (turnsOf H3 (kOf cards)) (ps'.map (·.1)) → St Z h' ((ma, .lst (nv ms)) :: (sa, .lst (nv ss)) :: (la, .lst (wv s o ps')) :: (wa, .lst (wv s o ps)) :: (lawPre L sc hp H0 H1 H2 H3 u0 u1 u2 u3 cards s o t3 t4 t5 (some (.ref X.self)) (lNs j (some (.ref hp)) code (some (.int ((o : Nat) : Int) t2)) (some (.ref wa)) (some (.str (S X.cs) t6)) word hidden bare quoted (some (.int ((kOf cards : Nat) : Int) t7)) (some (.int ((ps2.length : Nat) : Int) t10)) (some (.ref la)) (some (.ref sa)) (some (.ref ma)) (some (.int ((turnsOf H3 (kOf cards) : Nat) : Int) t9)) none none none) ++ (led X { σ with ws := wv s o ps2 } ++ l))) → W Z k (execs (lawB 19) (callEnvC fLaw L 131)) Q h') :
    W Z k (execs (lawB 17) (callEnvC fLaw L 131)) Q h := by
  have hkr := kOf_range cards
  have htl := turnsOf_lt H3 (kOf cards)
  refine w_execs_cons ?_
  refine w_AssignName ?_ rfl
  refine w_BinOp ?_
  refine w_BinOp ?_
  refine w_Subscript ?_
  walk_at "name"
  refine w_int fun t11 => ?_
  refine w_subList D (by walk_at "mem") (by decide) (by decide) rfl ?_ rfl (fun _ => rfl)
  refine w_BinOp ?_
  refine w_int fun t12 => ?_
  refine w_int fun t13 => ?_
  refine w_powInt (n := 9) (by decide) fun t14 => ?_
  refine w_divInt (by decide) (by decide) fun t15 => ?_
  refine w_BinOp ?_
  walk_at "name"
  refine w_int fun t16 => ?_
  refine w_addInt fun t17 => ?_
  refine w_modInt (by omega) fun t9 => ?_
  have e : H3 / 4 ^ 9 % (((kOf cards : Nat) : Int) + 2) = ((turnsOf H3 (kOf cards) : Nat) : Int) := turnsOf_eq H3 (kOf cards)
  show W Z _ (storeName _ _ (.int (H3 / 4 ^ 9 % (((kOf cards : Nat) : Int) + 2)) t9)) _ h
  rw [e]
  generalize turnsOf H3 (kOf cards) = tn at htl q
  walk_at "store"; intro h D
  refine w_execs_cons ?_
  refine w_AssignName ?_ rfl
  refine w_Call rfl ?_
  walk_at "gl"
  refine w_withFunction (o := fnObj fTur) (fd := fTur) rfl ?_
  refine w_arg rfl ?_
  walk_at "name"
  refine w_arg rfl ?_
  walk_at "name"
  refine w_arg rfl ?_
  refine w_BinOp ?_
  walk_at "name"
  refine w_Call rfl ?_
  walk_at "bi"
  refine w_withBuiltin rfl ?_
  refine w_arg rfl ?_
  walk_at "name"
  refine w_arg_nil ?_
  refine w_chr (by have := K.lt; omega) fun t18 => ?_
  refine w_addStr (by simp only [S_len, sizeLine_eq, List.length_cons, List.length_nil]; omega) fun t19 => ?_
  rw [S_app]
  refine w_arg rfl ?_
  walk_at "name"
  refine w_arg_nil ?_
  refine ⟨⟨F.tur.here D, rfl⟩, ?_⟩
  refine turns_spec F K hg (by omega) hw (St.inward [_, _, _, _, _, _, _, _, _, _, _] D) (by omega) ?_
  intro h ps2 t10 hps2 D
  have D := St.outward [_, _, _, _, _, _, _, _, _, _, _] D
  walk_at "store"; intro h D
  exact q h ps2 t9 t10 hps2 D
end
end L2
end Mine

namespace Mine
theorem pick_from (xs : List Value) (n : Nat) : (slicePick xs.toArray (some (n : Int)) none none).toList = xs.drop n := by
  have e : sliceBounds (some (n : Int)) none none xs.toArray.size = (((min n xs.toArray.size : Nat) : Int), ((xs.toArray.size : Nat) : Int), 1) := by
    simp only [sliceBounds, Option.getD_none, show (1 : Int) > 0 by decide, if_true, if_neg (show ¬ ((n : Int) < 0) by omega)]
    congr 1
    omega
  rw [kmk_pick_nat _ e]
  show (xs.drop (min n xs.toArray.size)).take (xs.toArray.size - min n xs.toArray.size) = _
  rw [List.size_toArray, kmk_drop_min, List.take_of_length_le (by rw [List.length_drop]; omega)]
theorem pick_upto (xs : List Value) (n : Nat) : (slicePick xs.toArray none (some (n : Int)) none).toList = xs.take n := by
  have e : sliceBounds none (some (n : Int)) none xs.toArray.size = (((0 : Nat) : Int), ((min n xs.toArray.size : Nat) : Int), 1) := by
    simp only [sliceBounds, Option.getD_none, show (1 : Int) > 0 by decide, if_true, if_neg (show ¬ ((n : Int) < 0) by omega)]
    congr 1
    congr 1
    omega
  rw [kmk_pick_nat _ e]
  show (xs.drop 0).take (min n xs.toArray.size - 0) = _
  rw [List.drop_zero, Nat.sub_zero, List.size_toArray, kmk_take_min]
theorem addGo_at : ∀ (xs : List Nat) (a j p : Nat), xs[j]? = some p → (addIdx.go a xs)[j]? = some (a + j + p)
  | [], _, _, _, h => by cases h
  | x :: xs, a, 0, p, h => by
    have : x = p := by simpa using h
    subst this
    rfl
  | x :: xs, a, j + 1, p, h => by
    have := addGo_at xs (a + 1) j p (by simpa using h)
    show (addIdx.go (a + 1) xs)[j]? = _
    rw [this]; congr 1; omega
theorem addIdx_at {xs : List Nat} {j p : Nat} (h : xs[j]? = some p) : (addIdx xs)[j]? = some (j + p) := by
  have := addGo_at xs 0 j p h
  rw [Nat.zero_add] at this; exact this
theorem addGo_len : ∀ (xs : List Nat) (a : Nat), (addIdx.go a xs).length = xs.length
  | [], _ => rfl
  | x :: xs, a => by rw [addIdx.go, List.length_cons, List.length_cons, addGo_len]
theorem addIdx_len (xs : List Nat) : (addIdx xs).length = xs.length := addGo_len xs 0
namespace L2
local macro_rules | `(tactic| walk_at "mem") => `(tactic| first | exact List.Mem.head _ | (refine List.Mem.tail _ ?_; walk_at "mem"))
local macro_rules | `(tactic| walk_at "upd") => `(tactic| first | exact Upd.here | (apply Upd.there; walk_at "upd"))
local macro_rules | `(tactic| walk_at "put") => `(tactic| first | exact Put.here | (apply Put.there; walk_at "put"))
local macro_rules | `(tactic| walk_at "pick") => `(tactic| first | exact Pick.here | (apply Pick.there; walk_at "pick"))
local macro_rules | `(tactic| walk_at "name") => `(tactic| first
  | refine w_localName (by assumption) (by walk_at "mem") (by walk_at "mem") ?_ rfl rfl rfl
  | refine w_freeName (by assumption) (by walk_at "mem") ?_ rfl rfl rfl rfl rfl
  | refine w_cellName (by assumption) (by walk_at "mem") ?_ rfl rfl rfl rfl)
local macro_rules | `(tactic| walk_at "load") => `(tactic| refine W.loadLocal (by assumption) (by walk_at "mem") (by walk_at "mem") rfl rfl ?_)
local macro_rules | `(tactic| walk_at "store") => `(tactic| (refine w_store (by assumption) (by walk_at "mem") (by walk_at "put") (by walk_at "upd") rfl rfl ?_))
local macro_rules | `(tactic| walk_at "bi") => `(tactic| refine w_bi (by assumption) (by assumption) (by walk_at "mem") ?_ rfl rfl rfl rfl rfl)
local macro_rules | `(tactic| walk_at "gl") => `(tactic| refine w_gl (by assumption) (by assumption) (by walk_at "mem") ?_ rfl rfl rfl rfl)

section
variable {Z : Sur} {h : Heap} {l : Led} {k : Nat} {L sc : Addr} {Q : Flow → Heap → Prop}
theorem law_due {X : Lex} {σ : LexS} {hp wa : Addr} {H0 H1 H2 H3 : Int} {u0 u1 u2 u3 : Tok} {cards s o : Nat} {code oct j word hidden bare quoted : Option Value} {t3 t4 t5 t6 : Tok} {ps : List (Nat × Tok)} {tn : Nat} {t2 t7 t9 t10 : Tok} {ps' ps2 : List (Nat × Tok)} {la sa ma : Addr} {ss ms : List (Nat × Tok)} (F : Facts Z) (hk : k < 49) (htn : tn < kOf cards + 2) (hms : ms.map (·.1) = moreOf cards (ps'.map (·.1)))
    (D : St Z h ((ma, .lst (nv ms)) :: (sa, .lst (nv ss)) :: (la, .lst (wv s o ps')) :: (wa, .lst (wv s o ps)) :: (lawPre L sc hp H0 H1 H2 H3 u0 u1 u2 u3 cards s o t3 t4 t5 (some (.ref X.self)) (lNs j (some (.ref hp)) code (some (.int ((o : Nat) : Int) t2)) (some (.ref wa)) (some (.str (S X.cs) t6)) word hidden bare quoted (some (.int ((kOf cards : Nat) : Int) t7)) (some (.int ((ps2.length : Nat) : Int) t10)) (some (.ref la)) (some (.ref sa)) (some (.ref ma)) (some (.int ((tn : Nat) : Int) t9)) none none none) ++ (led X σ ++ l))))
    (q : ∀ h' da ds, ds.map (·.1) = addIdx ((moreOf cards (ps'.map (·.1))).drop tn ++ (moreOf cards (ps'.map (·.1))).take tn) → St Z h' ((da, .lst (nv ds)) :: (ma, .lst (nv ms)) :: (sa, .lst (nv ss)) :: (la, .lst (wv s o ps')) :: (wa, .lst (wv s o ps)) :: (lawPre L sc hp H0 H1 H2 H3 u0 u1 u2 u3 cards s o t3 t4 t5 (some (.ref X.self)) (lNs j (some (.ref hp)) code (some (.int ((o : Nat) : Int) t2)) (some (.ref wa)) (some (.str (S X.cs) t6)) word hidden bare quoted (some (.int ((kOf cards : Nat) : Int) t7)) (some (.int ((ps2.length : Nat) : Int) t10)) (some (.ref la)) (some (.ref sa)) (some (.ref ma)) (some (.int ((tn : Nat) : Int) t9)) (some (.ref da)) none none) ++ (led X σ ++ l))) → W Z k (execs (lawB 20) (callEnvC fLaw L 131)) Q h') :
    W Z k (execs (lawB 19) (callEnvC fLaw L 131)) Q h := by
  have hkr := kOf_range cards
  have hml : ms.length = kOf cards + 1 := by
    have := congrArg List.length hms
    unfold moreOf at this
    simpa using this
  refine w_execs_cons ?_
  refine w_AssignComp (cl := []) ["j", "one"] rfl rfl (fun _ => rfl) rfl rfl rfl (by decide) ?_
  refine w_Call rfl ?_
  walk_at "bi"
  refine w_withType rfl ?_
  refine w_arg rfl ?_
  refine w_BinOp ?_
  refine w_SubSliceL ?_ (fun _ _ => rfl)
  walk_at "name"
  refine w_part_some ?_
  walk_at "name"
  refine w_part_none ?_
  refine ⟨_, ma, nv ms, some (tn : Int), none, none, D, rfl, by walk_at "mem", .int _ _, .none, .none, by decide, by rw [nv_len]; omega, fun c1 h D => ?_⟩
  rw [pick_from] at D
  refine w_SubSliceL ?_ (fun _ _ => rfl)
  walk_at "name"
  refine w_part_none ?_
  refine w_part_some ?_
  walk_at "name"
  refine ⟨_, ma, nv ms, none, some (tn : Int), none, D, rfl, by walk_at "mem", .none, .int _ _, .none, by decide, by rw [nv_len]; omega, fun c2 h D => ?_⟩
  rw [pick_upto] at D
  refine w_addList D (by walk_at "mem") (by walk_at "mem") (by rw [List.length_drop, List.length_take, nv_len]; omega) ?_
  intro c3 h D
  have e1 : (nv ms).drop tn ++ (nv ms).take tn = nv (ms.drop tn ++ ms.take tn) := by unfold nv; rw [List.map_append, List.map_drop, List.map_take]
  rw [e1] at D
  have hzs : (ms.drop tn ++ ms.take tn).map (·.1) = (moreOf cards (ps'.map (·.1))).drop tn ++ (moreOf cards (ps'.map (·.1))).take tn := by
    rw [List.map_append, List.map_drop, List.map_take, hms]
  have hzl : (ms.drop tn ++ ms.take tn).length ≤ 8 := by rw [List.length_append, List.length_drop, List.length_take]; omega
  generalize ms.drop tn ++ ms.take tn = zs at D hzs hzl
  rw [← hzs] at q
  have D := D.drop (p := (c2, _)) (by walk_at "pick")
  have D := D.drop (p := (c1, _)) (by walk_at "pick")
  refine w_arg_nil ?_
  refine w_enumL D (by walk_at "mem") ?_
  intro e it h D
  refine w_iterEnum D (.head _) ?_
  refine ⟨_, D, fun acc Cc h D => ?_⟩
  have D := D.front (p := (c3, _)) (by walk_at "pick")
  have D := D.front (p := (it, _)) (by walk_at "pick")
  have D := D.front (p := (e, _)) (by walk_at "pick")
  refine go_enumL (fun i l' => ∃ (ds : List (Nat × Tok)) (jv ov : Option Value), ds.map (·.1) = (addIdx (zs.map (·.1))).take i ∧ l' = (Cc, .ns [("j", jv), ("one", ov)]) :: (acc, .lst (nv ds)) :: (ma, .lst (nv ms)) :: (sa, .lst (nv ss)) :: (la, .lst (wv s o ps')) :: (wa, .lst (wv s o ps)) :: (lawPre L sc hp H0 H1 H2 H3 u0 u1 u2 u3 cards s o t3 t4 t5 (some (.ref X.self)) (lNs j (some (.ref hp)) code (some (.int ((o : Nat) : Int) t2)) (some (.ref wa)) (some (.str (S X.cs) t6)) word hidden bare quoted (some (.int ((kOf cards : Nat) : Int) t7)) (some (.int ((ps2.length : Nat) : Int) t10)) (some (.ref la)) (some (.ref sa)) (some (.ref ma)) (some (.int ((tn : Nat) : Int) t9)) none none none) ++ (led X σ ++ l))) ⟨[], none, none, rfl, rfl⟩ D ?_ ?_
  · clear D
    rintro i v _ h tup tt hv ⟨ds, jv, ov, hds, rfl⟩ D
    obtain ⟨⟨p, tp⟩, hx, rfl⟩ := nv_at hv
    have hi := lt_of_at hx
    have hai : (addIdx (zs.map (·.1)))[i]? = some (i + p) := addIdx_at (by rw [List.getElem?_map, hx]; rfl)
    have hdl : ds.length ≤ 8 := by
      have := congrArg List.length hds
      rw [List.length_map, List.length_take] at this
      omega
    refine w_assignTup D (.head _) rfl rfl ?_
    intro h D
    have D := D.tail
    refine w_order_cons ?_
    refine w_assignName ?_
    walk_at "store"; intro h D
    refine w_order_cons ?_
    refine w_assignName ?_
    walk_at "store"; intro h D
    refine w_order_nil ?_
    refine turn_plain ?_
    refine w_BinOp ?_
    walk_at "name"
    walk_at "name"
    refine w_addInt fun t13 => ?_
    rw [show (i : Int) + (p : Int) = ((i + p : Nat) : Int) by omega]
    refine w_append D (by walk_at "upd") (by rw [nv_len]; omega) ?_
    intro h D
    refine ⟨_, ⟨ds ++ [(i + p, t13)], some (.int (i : Int) tt), some (.int (p : Int) tp), ?_, rfl⟩, ?_⟩
    · rw [List.map_append, hds, List.take_add_one, hai]; rfl
    · rw [nv_app]; exact D
  · rintro _ h ⟨ds, jv, ov, hds, rfl⟩ D
    have D := D.tail
    walk_at "store"; intro h D
    refine ⟨_, _, D, fun h D => ?_⟩
    refine q h acc ds ?_ D
    rw [hds, nv_len, List.take_of_length_le]
    rw [addIdx_len, List.length_map]
    exact Nat.le_refl _
theorem law_told {X : Lex} {σ : LexS} {hp wa : Addr} {H0 H1 H2 H3 : Int} {u0 u1 u2 u3 : Tok} {cards s o : Nat} {code oct j word hidden bare quoted : Option Value} {t3 t4 t5 t6 : Tok} {ps : List (Nat × Tok)} {tn : Nat} {t2 t7 t9 t10 : Tok} {ps' ps2 : List (Nat × Tok)} {la sa ma : Addr} {ss ms : List (Nat × Tok)} {da : Addr} {ds : List (Nat × Tok)} (F : Facts Z) (K : SO s o) (hk : k < 49) (hdl : ds.length ≤ 8) (hdp : ∀ p ∈ ds.map (·.1), p ≤ 20)
    (D : St Z h ((da, .lst (nv ds)) :: (ma, .lst (nv ms)) :: (sa, .lst (nv ss)) :: (la, .lst (wv s o ps')) :: (wa, .lst (wv s o ps)) :: (lawPre L sc hp H0 H1 H2 H3 u0 u1 u2 u3 cards s o t3 t4 t5 (some (.ref X.self)) (lNs j (some (.ref hp)) code (some (.int ((o : Nat) : Int) t2)) (some (.ref wa)) (some (.str (S X.cs) t6)) word hidden bare quoted (some (.int ((kOf cards : Nat) : Int) t7)) (some (.int ((ps2.length : Nat) : Int) t10)) (some (.ref la)) (some (.ref sa)) (some (.ref ma)) (some (.int ((tn : Nat) : Int) t9)) (some (.ref da)) none none) ++ (led X σ ++ l))))
    (q : ∀ h' ta ts, ts.map (·.1) = (ds.map (·.1)).filter (fun p => decide (0 < p)) → St Z h' ((ta, .lst (wv s o ts)) :: (da, .lst (nv ds)) :: (ma, .lst (nv ms)) :: (sa, .lst (nv ss)) :: (la, .lst (wv s o ps')) :: (wa, .lst (wv s o ps)) :: (lawPre L sc hp H0 H1 H2 H3 u0 u1 u2 u3 cards s o t3 t4 t5 (some (.ref X.self)) (lNs j (some (.ref hp)) code (some (.int ((o : Nat) : Int) t2)) (some (.ref wa)) (some (.str (S X.cs) t6)) word hidden bare quoted (some (.int ((kOf cards : Nat) : Int) t7)) (some (.int ((ps2.length : Nat) : Int) t10)) (some (.ref la)) (some (.ref sa)) (some (.ref ma)) (some (.int ((tn : Nat) : Int) t9)) (some (.ref da)) (some (.ref ta)) none) ++ (led X σ ++ l))) → W Z k (execs (lawB 21) (callEnvC fLaw L 131)) Q h') :
    W Z k (execs (lawB 20) (callEnvC fLaw L 131)) Q h := by
  refine w_execs_cons ?_
  refine w_AssignComp (cl := [("sign", L + 1 + 1 + 1), ("figures", L + 1 + 1 + 1 + 1)]) ["pile"] rfl rfl (fun _ => rfl) rfl rfl rfl (by decide) ?_
  walk_at "name"
  refine w_iterList D (by walk_at "mem") ?_
  intro it h D
  refine ⟨_, D, fun acc Cc h D => ?_⟩
  have D := D.front (p := (da, _)) (by walk_at "pick")
  have D := D.front (p := (it, _)) (by walk_at "pick")
  refine go_list (fun i l' => ∃ (ts : List (Nat × Tok)) (pv : Option Value), ts.map (·.1) = ((ds.map (·.1)).take i).filter (fun p => decide (0 < p)) ∧ l' = (Cc, .ns [("pile", pv)]) :: (acc, .lst (wv s o ts)) :: (ma, .lst (nv ms)) :: (sa, .lst (nv ss)) :: (la, .lst (wv s o ps')) :: (wa, .lst (wv s o ps)) :: (lawPre L sc hp H0 H1 H2 H3 u0 u1 u2 u3 cards s o t3 t4 t5 (some (.ref X.self)) (lNs j (some (.ref hp)) code (some (.int ((o : Nat) : Int) t2)) (some (.ref wa)) (some (.str (S X.cs) t6)) word hidden bare quoted (some (.int ((kOf cards : Nat) : Int) t7)) (some (.int ((ps2.length : Nat) : Int) t10)) (some (.ref la)) (some (.ref sa)) (some (.ref ma)) (some (.int ((tn : Nat) : Int) t9)) (some (.ref da)) none none) ++ (led X σ ++ l))) ⟨[], none, rfl, rfl⟩ D ?_ ?_ (fun _ => rfl)
  · clear D
    rintro i v _ h hv ⟨ts, pv, hts, rfl⟩ D
    obtain ⟨⟨p, tp⟩, hx, rfl⟩ := nv_at hv
    have hmem : p ∈ ds.map (·.1) := List.mem_map.mpr ⟨(p, tp), List.mem_of_getElem? hx, rfl⟩
    have hp20 := hdp p hmem
    have hqj : (ds.map (·.1))[i]? = some p := by rw [List.getElem?_map, hx]; rfl
    have htl : ts.length ≤ 8 := by
      have h1 := congrArg List.length hts
      have h2 := List.length_filter_le (fun p : Nat => decide (0 < p)) ((ds.map (·.1)).take i)
      rw [List.length_map] at h1
      rw [List.length_take, List.length_map] at h2
      omega
    refine w_assignName ?_
    walk_at "store"; intro h D
    refine turn_if ?_
    refine w_isCompare ?_ rfl
    walk_at "name"
    refine w_int fun t13 => ?_
    refine w_gtInt ?_
    refine w_truthy_bool ?_
    by_cases h0 : 0 < p
    · rw [decide_eq_true (by omega), if_pos rfl]
      refine word_eval (s := s) (o := o) (p := p) (ts := t4) (tf := t5) (t1 := tp) h0 hp20 rfl (fun x => ?_) (fun x => ?_) (fun x => ?_) (fun t14 => ?_)
      · walk_at "name"; exact x
      · walk_at "name"; exact x
      · walk_at "name"; exact x
      refine w_append D (by walk_at "upd") (by rw [wv_len]; omega) ?_
      intro h D
      refine ⟨_, ⟨ts ++ [(p, t14)], some (.int (p : Int) tp), ?_, rfl⟩, ?_⟩
      · rw [List.map_append, hts, List.take_add_one, hqj, List.filter_append]
        simp [h0]
      · rw [wv_app]; exact D
    · rw [decide_eq_false (by omega), if_neg (by decide)]
      refine ⟨_, ⟨ts, some (.int (p : Int) tp), ?_, rfl⟩, D⟩
      rw [hts, List.take_add_one, hqj, List.filter_append]
      simp [h0]
  · rintro _ h ⟨ts, pv, hts, rfl⟩ D
    have D := D.front (p := (Cc, _)) (by walk_at "pick")
    walk_at "store"; intro h D
    refine ⟨_, _, D, fun h D => ?_⟩
    refine q h acc ts ?_ (D.front (p := (acc, _)) (by walk_at "pick"))
    rw [hts, nv_len, List.take_of_length_le (by rw [List.length_map]; exact Nat.le_refl _)]
theorem law_cmp {X : Lex} {σ : LexS} {hp wa : Addr} {H0 H1 H2 H3 : Int} {u0 u1 u2 u3 : Tok} {cards s o : Nat} {code oct j word hidden bare quoted : Option Value} {t3 t4 t5 t6 : Tok} {ps : List (Nat × Tok)} {tn : Nat} {t2 t7 t9 t10 : Tok} {ps' ps2 : List (Nat × Tok)} {la sa ma : Addr} {ss ms : List (Nat × Tok)} {da ta : Addr} {ds ts : List (Nat × Tok)} (F : Facts Z) (hw : σ.ws = wv s o ps2) (hk : k < 49) (hg : Good8 (ps2.map (·.1))) (hts : ts.map (·.1) = ps2.map (·.1))
    (D : St Z h ((ta, .lst (wv s o ts)) :: (da, .lst (nv ds)) :: (ma, .lst (nv ms)) :: (sa, .lst (nv ss)) :: (la, .lst (wv s o ps')) :: (wa, .lst (wv s o ps)) :: (lawPre L sc hp H0 H1 H2 H3 u0 u1 u2 u3 cards s o t3 t4 t5 (some (.ref X.self)) (lNs j (some (.ref hp)) code (some (.int ((o : Nat) : Int) t2)) (some (.ref wa)) (some (.str (S X.cs) t6)) word hidden bare quoted (some (.int ((kOf cards : Nat) : Int) t7)) (some (.int ((ps2.length : Nat) : Int) t10)) (some (.ref la)) (some (.ref sa)) (some (.ref ma)) (some (.int ((tn : Nat) : Int) t9)) (some (.ref da)) (some (.ref ta)) none) ++ (led X σ ++ l))))
    (q : ∀ h', St Z h' ((ta, .lst (wv s o ts)) :: (da, .lst (nv ds)) :: (ma, .lst (nv ms)) :: (sa, .lst (nv ss)) :: (la, .lst (wv s o ps')) :: (wa, .lst (wv s o ps)) :: (lawPre L sc hp H0 H1 H2 H3 u0 u1 u2 u3 cards s o t3 t4 t5 (some (.ref X.self)) (lNs j (some (.ref hp)) code (some (.int ((o : Nat) : Int) t2)) (some (.ref wa)) (some (.str (S X.cs) t6)) word hidden bare quoted (some (.int ((kOf cards : Nat) : Int) t7)) (some (.int ((ps2.length : Nat) : Int) t10)) (some (.ref la)) (some (.ref sa)) (some (.ref ma)) (some (.int ((tn : Nat) : Int) t9)) (some (.ref da)) (some (.ref ta)) none) ++ (led X { σ with ws := [] } ++ l))) → W Z k (execs (lawB 22) (callEnvC fLaw L 131)) Q h') :
    W Z k (execs (lawB 21) (callEnvC fLaw L 131)) Q h := by
  have hpl : ps2.length ≤ 8 := by have := hg.len; simpa using this
  refine w_execs_cons ?_
  refine w_If ?_
  refine w_isCompare ?_ rfl
  refine w_ListComp (cl := [("lexer", L + 1 + 1 + 1 + 1 + 1)]) ["one"] rfl (fun _ => rfl) rfl rfl rfl (by decide) ?_
  refine w_Call rfl ?_
  walk_at "bi"
  refine w_withType rfl ?_
  refine w_arg rfl ?_
  walk_at "name"
  refine w_arg_nil ?_
  refine w_range1 D ?_
  intro r tr1 tr2 h D
  refine w_iterRange D (.head _) (by decide) (by omega) ?_
  intro itO h D
  rw [rAt_zero] at D
  have D := D.drop (.there .here)
  refine ⟨_, D, fun acc Cc h D => ?_⟩
  have D := D.front (p := (itO, _)) (by walk_at "pick")
  refine go_range (n := ps2.length) (fun i l' => ∃ (ov : Option Value), l' = (Cc, .ns [("one", ov)]) :: (acc, .lst (wv s o (ps2.take i))) :: (ta, .lst (wv s o ts)) :: (da, .lst (nv ds)) :: (ma, .lst (nv ms)) :: (sa, .lst (nv ss)) :: (la, .lst (wv s o ps')) :: (wa, .lst (wv s o ps)) :: (lawPre L sc hp H0 H1 H2 H3 u0 u1 u2 u3 cards s o t3 t4 t5 (some (.ref X.self)) (lNs j (some (.ref hp)) code (some (.int ((o : Nat) : Int) t2)) (some (.ref wa)) (some (.str (S X.cs) t6)) word hidden bare quoted (some (.int ((kOf cards : Nat) : Int) t7)) (some (.int ((ps2.length : Nat) : Int) t10)) (some (.ref la)) (some (.ref sa)) (some (.ref ma)) (some (.int ((tn : Nat) : Int) t9)) (some (.ref da)) (some (.ref ta)) none) ++ (led X { σ with ws := wv s o (ps2.drop i) } ++ l))) ⟨none, by rw [List.drop_zero, List.take_zero, ← hw]; rfl⟩ D (Nat.zero_le _) ?_ ?_ (fun _ => rfl)
  · clear D
    rintro i _ h ti _ hil ⟨ov, rfl⟩ D
    obtain ⟨x, hx⟩ : ∃ x, ps2[i]? = some x := ⟨_, List.getElem?_eq_getElem hil⟩
    have hdrop : ps2.drop i = x :: ps2.drop (i + 1) := by
      rw [List.drop_eq_getElem_cons hil]
      rw [List.getElem?_eq_getElem hil] at hx
      injection hx with hx
      rw [hx]
    refine w_assignName ?_
    walk_at "store"; intro h D
    refine turn_plain ?_
    refine w_CallMeth rfl rfl rfl ?_
    walk_at "name"
    intro pl
    refine w_methN F.g D F.mGet (by walk_at "mem") (by walk_at "mem") rfl ?_
    refine w_withFunction (o := fnObj fGet) (fd := fGet) rfl ?_
    refine w_arg_nil ?_
    refine ⟨⟨F.get.here D, rfl⟩, ?_⟩
    refine get_wait (v := .str (S (pil s o x.1)) x.2) (ws := wv s o (ps2.drop (i + 1))) F (by rw [hdrop]; rfl) (by rw [wv_len, List.length_drop]; omega) (St.inward [_, _, _, _, _, _, _, _, _, _, _, _, _, _, _, _] D) (by omega) ?_
    intro h D
    have D := St.outward [_, _, _, _, _, _, _, _, _, _, _, _, _, _, _, _] D
    refine w_append D (by walk_at "upd") (by rw [wv_len, List.length_take]; omega) ?_
    intro h D
    refine ⟨_, ⟨some (.int (i : Int) ti), rfl⟩, ?_⟩
    rw [List.take_add_one, hx, wv_app]
    exact D
  · rintro _ h ⟨ov, rfl⟩ D
    rw [List.take_length, List.drop_length] at D
    refine ⟨_, _, D, fun h D => ?_⟩
    walk_at "name"
    refine w_neSame D (a := acc) (b := ta) (by walk_at "mem") (by walk_at "mem") (wv_lens hts.symm) (wv_same hts.symm) (by omega) ?_
    refine w_truthy_bool ?_
    rw [if_neg (by decide)]
    refine w_execs_nil ?_
    exact q h (D.drop (p := (acc, _)) (by walk_at "pick"))
end
end L2
end Mine

namespace Mine
theorem occ_count (cs : List Nat) (c : Nat) : ∀ (m a : Nat) (found : Array Nat) (free : Nat), a + m = cs.length + 1 → found.size ≤ a → free ≤ a →
    (forIn (m := Id) (List.range' a m) (found, free) (StrLaws.occBody (S cs) (S [c]) cs.length (cs.length + 1))).run.fst.size = found.size + (cs.drop a).count c
  | 0, a, found, free, h, _, _ => by
    rw [List.drop_of_length_le (by omega)]; rfl
  | m + 1, a, found, free, h, h1, h2 => by
    rw [List.range'_succ, List.forIn_cons]
    unfold StrLaws.occBody
    have key := StrLaws.subAt_one (S cs) c a
    have e1 : (S cs).cps.toList = cs := by simp [S]
    rw [e1, S_len] at key
    by_cases hc : cs[a]? = some c
    · obtain ⟨k1, k2⟩ := key.mpr hc
      have k1 : a + (S [c]).length ≤ cs.length := k1
      have k2 : Builtin.Str.subAt (S cs) (S [c]) a = true := k2
      have hlt := lt_of_at hc
      rw [if_pos ⟨⟨⟨(by show found.size < _; omega), h2⟩, k1⟩, k2⟩]
      have ih := occ_count cs c m (a + 1) (found.push a) (a + (S [c]).length) (by omega) (by rw [Array.size_push]; omega) (by rw [S_len]; simp)
      refine Eq.trans ih ?_
      rw [Array.size_push]
      have : cs.drop a = c :: cs.drop (a + 1) := by
        rw [List.drop_eq_getElem_cons hlt]
        rw [List.getElem?_eq_getElem hlt, Option.some.injEq] at hc
        rw [hc]
      rw [this, List.count_cons_self]; omega
    · rw [if_neg (fun hx => hc (key.mp ⟨hx.1.2, hx.2⟩))]
      have ih := occ_count cs c m (a + 1) found free (by omega) (by omega) (by omega)
      refine Eq.trans ih ?_
      congr 1
      by_cases hlt : a < cs.length
      · rw [List.drop_eq_getElem_cons hlt, List.count_cons_of_ne]
        intro e
        exact hc (by rw [List.getElem?_eq_getElem hlt, e])
      · rw [List.drop_of_length_le (by omega), List.drop_of_length_le (by omega)]
theorem count_S (cs : List Nat) (c : Nat) : Txt.count (S cs) (S [c]) = ((cs.count c : Nat) : Int) := by
  unfold Txt.count
  rw [StrLaws.occ_eq, Array.length_toList, S_len]
  have := occ_count cs c (cs.length + 1 - 0) 0 #[] 0 (by omega) (Nat.zero_le _) (Nat.zero_le _)
  rw [this]
  simp
namespace L2
local macro_rules | `(tactic| walk_at "mem") => `(tactic| first | exact List.Mem.head _ | (refine List.Mem.tail _ ?_; walk_at "mem"))
local macro_rules | `(tactic| walk_at "upd") => `(tactic| first | exact Upd.here | (apply Upd.there; walk_at "upd"))
local macro_rules | `(tactic| walk_at "put") => `(tactic| first | exact Put.here | (apply Put.there; walk_at "put"))
local macro_rules | `(tactic| walk_at "pick") => `(tactic| first | exact Pick.here | (apply Pick.there; walk_at "pick"))
local macro_rules | `(tactic| walk_at "name") => `(tactic| first
  | refine w_localName (by assumption) (by walk_at "mem") (by walk_at "mem") ?_ rfl rfl rfl
  | refine w_freeName (by assumption) (by walk_at "mem") ?_ rfl rfl rfl rfl rfl
  | refine w_cellName (by assumption) (by walk_at "mem") ?_ rfl rfl rfl rfl)
local macro_rules | `(tactic| walk_at "load") => `(tactic| refine W.loadLocal (by assumption) (by walk_at "mem") (by walk_at "mem") rfl rfl ?_)
local macro_rules | `(tactic| walk_at "store") => `(tactic| (refine w_store (by assumption) (by walk_at "mem") (by walk_at "put") (by walk_at "upd") rfl rfl ?_))
local macro_rules | `(tactic| walk_at "bi") => `(tactic| refine w_bi (by assumption) (by assumption) (by walk_at "mem") ?_ rfl rfl rfl rfl rfl)
local macro_rules | `(tactic| walk_at "gl") => `(tactic| refine w_gl (by assumption) (by assumption) (by walk_at "mem") ?_ rfl rfl rfl rfl)

section
variable {Z : Sur} {h : Heap} {l : Led} {k : Nat} {L sc : Addr} {Q : Flow → Heap → Prop}
theorem law_end {X : Lex} {σ : LexS} {hp wa : Addr} {H0 H1 H2 H3 : Int} {u0 u1 u2 u3 : Tok} {cards s o : Nat} {code oct j word hidden bare quoted : Option Value} {t3 t4 t5 t6 : Tok} {ps : List (Nat × Tok)} {tn : Nat} {t2 t7 t9 t10 : Tok} {ps' ps2 : List (Nat × Tok)} {la sa ma : Addr} {ss ms : List (Nat × Tok)} {da ta : Addr} {ds ts : List (Nat × Tok)} (F : Facts Z) (O : LexOk X) (A : LexAt X σ) (hw : σ.ws = []) (hk : k < 49) (hb : Blanks (X.cs.drop σ.p))
    (D : St Z h ((ta, .lst (wv s o ts)) :: (da, .lst (nv ds)) :: (ma, .lst (nv ms)) :: (sa, .lst (nv ss)) :: (la, .lst (wv s o ps')) :: (wa, .lst (wv s o ps)) :: (lawPre L sc hp H0 H1 H2 H3 u0 u1 u2 u3 cards s o t3 t4 t5 (some (.ref X.self)) (lNs j (some (.ref hp)) code (some (.int ((o : Nat) : Int) t2)) (some (.ref wa)) (some (.str (S X.cs) t6)) word hidden bare quoted (some (.int ((kOf cards : Nat) : Int) t7)) (some (.int ((ps2.length : Nat) : Int) t10)) (some (.ref la)) (some (.ref sa)) (some (.ref ma)) (some (.int ((tn : Nat) : Int) t9)) (some (.ref da)) (some (.ref ta)) none) ++ (led X σ ++ l))))
    (q : ∀ h' rest σ', St Z h' (rest ++ (led X σ' ++ l)) → Q (.ret (.bool true)) h') :
    W Z k (execs (lawB 22) (callEnvC fLaw L 131)) Q h := by
  refine w_execs_cons ?_
  refine w_AssignComp (cl := [("lexer", L + 1 + 1 + 1 + 1 + 1)]) ["word"] rfl rfl (fun _ => rfl) rfl rfl rfl (by decide) ?_
  refine w_Tuple ?_
  refine w_arg rfl ?_
  refine w_str fun t13 => ?_
  refine w_arg rfl ?_
  walk_at "name"
  refine w_arg_nil ?_
  refine ⟨Nat.le_of_ble_eq_true rfl, _, D, fun tp h D => ?_⟩
  rw [show Str.ofString "" = S [] from rfl] at D
  refine w_iterTup D (by walk_at "mem") ?_
  intro it h D
  refine ⟨_, D, fun xa Cc h D => ?_⟩
  have D := D.front (p := (tp, _)) (by walk_at "pick")
  have D := D.front (p := (it, _)) (by walk_at "pick")
  refine go_tup (fun i l' => ∃ (wd : Option Value), l' = (Cc, .ns [("word", wd)]) :: (xa, .lst ([.none, .none].take i)) :: (ta, .lst (wv s o ts)) :: (da, .lst (nv ds)) :: (ma, .lst (nv ms)) :: (sa, .lst (nv ss)) :: (la, .lst (wv s o ps')) :: (wa, .lst (wv s o ps)) :: (lawPre L sc hp H0 H1 H2 H3 u0 u1 u2 u3 cards s o t3 t4 t5 (some (.ref X.self)) (lNs j (some (.ref hp)) code (some (.int ((o : Nat) : Int) t2)) (some (.ref wa)) (some (.str (S X.cs) t6)) word hidden bare quoted (some (.int ((kOf cards : Nat) : Int) t7)) (some (.int ((ps2.length : Nat) : Int) t10)) (some (.ref la)) (some (.ref sa)) (some (.ref ma)) (some (.int ((tn : Nat) : Int) t9)) (some (.ref da)) (some (.ref ta)) none) ++ (led X { σ with ws := [Value.str (S []) t13, Value.str (S [s]) t4].take i } ++ l))) ⟨none, by rw [List.take_zero, List.take_zero, ← hw]; rfl⟩ D ?_ ?_ (fun _ => rfl)
  · clear D
    rintro i v _ h hv ⟨wd, rfl⟩ D
    refine w_assignName ?_
    walk_at "store"; intro h D
    refine turn_plain ?_
    refine w_CallMeth rfl rfl rfl ?_
    walk_at "name"
    intro pl
    refine w_methN F.g D F.mPush (by walk_at "mem") (by walk_at "mem") rfl ?_
    refine w_withFunction (o := fnObj fPush) (fd := fPush) rfl ?_
    refine w_arg rfl ?_
    walk_at "name"
    refine w_arg_nil ?_
    refine ⟨⟨F.push.here D, rfl⟩, ?_⟩
    refine push_spec F (by show (List.take i [Value.str (S []) t13, Value.str (S [s]) t4]).length ≤ 1000; rw [List.length_take]; simp only [List.length_cons, List.length_nil]; omega) (St.inward [_, _, _, _, _, _, _, _, _, _, _, _, _, _, _, _, _] D) (by omega) ?_
    intro h D
    have D := St.outward [_, _, _, _, _, _, _, _, _, _, _, _, _, _, _, _, _] D
    refine w_append D (by walk_at "upd") (by rw [List.length_take]; simp only [List.length_cons, List.length_nil]; omega) ?_
    intro h D
    refine ⟨_, ⟨some v, rfl⟩, ?_⟩
    have hi := lt_of_at hv
    have e2 : List.take (i + 1) [Value.none, Value.none] = List.take i [Value.none, Value.none] ++ [Value.none] := by
      have hi : i < 2 := hi
      match i, hi with
      | 0, _ => rfl
      | 1, _ => rfl
    rw [e2, List.take_add_one, hv]
    exact D
  · rintro _ h ⟨wd, rfl⟩ D
    have D := D.tail
    walk_at "store"; intro h D
    refine ⟨_, _, D, fun h D => ?_⟩
    have D : St Z h ((xa, .lst [.none, .none]) :: (ta, .lst (wv s o ts)) :: (da, .lst (nv ds)) :: (ma, .lst (nv ms)) :: (sa, .lst (nv ss)) :: (la, .lst (wv s o ps')) :: (wa, .lst (wv s o ps)) :: (lawPre L sc hp H0 H1 H2 H3 u0 u1 u2 u3 cards s o t3 t4 t5 (some (.ref X.self)) (lNs j (some (.ref hp)) code (some (.int ((o : Nat) : Int) t2)) (some (.ref wa)) (some (.str (S X.cs) t6)) word hidden bare quoted (some (.int ((kOf cards : Nat) : Int) t7)) (some (.int ((ps2.length : Nat) : Int) t10)) (some (.ref la)) (some (.ref sa)) (some (.ref ma)) (some (.int ((tn : Nat) : Int) t9)) (some (.ref da)) (some (.ref ta)) (some (.ref xa))) ++ (led X { σ with ws := [Value.str (S []) t13, Value.str (S [s]) t4] } ++ l))) := D
    refine w_execs_cons ?_
    refine w_If ?_
    refine w_isCompare ?_ rfl
    refine w_BinOp ?_
    walk_at "name"
    refine w_ListComp (cl := [("lexer", L + 1 + 1 + 1 + 1 + 1)]) ["word"] rfl (fun _ => rfl) rfl rfl rfl (by decide) ?_
    walk_at "name"
    refine w_iterList D (by walk_at "mem") ?_
    intro it h D
    refine ⟨_, D, fun acc Cc h D => ?_⟩
    have D := D.front (p := (xa, _)) (by walk_at "pick")
    have D := D.front (p := (it, _)) (by walk_at "pick")
    refine go_list (fun i l' => ∃ (wd : Option Value), l' = (Cc, .ns [("word", wd)]) :: (acc, .lst ([Value.str (S []) t13, Value.str (S [s]) t4].take i)) :: (ta, .lst (wv s o ts)) :: (da, .lst (nv ds)) :: (ma, .lst (nv ms)) :: (sa, .lst (nv ss)) :: (la, .lst (wv s o ps')) :: (wa, .lst (wv s o ps)) :: (lawPre L sc hp H0 H1 H2 H3 u0 u1 u2 u3 cards s o t3 t4 t5 (some (.ref X.self)) (lNs j (some (.ref hp)) code (some (.int ((o : Nat) : Int) t2)) (some (.ref wa)) (some (.str (S X.cs) t6)) word hidden bare quoted (some (.int ((kOf cards : Nat) : Int) t7)) (some (.int ((ps2.length : Nat) : Int) t10)) (some (.ref la)) (some (.ref sa)) (some (.ref ma)) (some (.int ((tn : Nat) : Int) t9)) (some (.ref da)) (some (.ref ta)) (some (.ref xa))) ++ (led X { σ with ws := [Value.str (S []) t13, Value.str (S [s]) t4].drop i } ++ l))) ⟨none, rfl⟩ D ?_ ?_ (fun _ => rfl)
    · clear D
      rintro i v _ h hv ⟨wd, rfl⟩ D
      have hi : i < 2 := lt_of_at hv
      refine w_assignName ?_
      walk_at "store"; intro h D
      refine turn_plain ?_
      refine w_CallMeth rfl rfl rfl ?_
      walk_at "name"
      intro pl
      refine w_methN F.g D F.mGet (by walk_at "mem") (by walk_at "mem") rfl ?_
      refine w_withFunction (o := fnObj fGet) (fd := fGet) rfl ?_
      refine w_arg_nil ?_
      refine ⟨⟨F.get.here D, rfl⟩, ?_⟩
      obtain ⟨x, hx⟩ : ∃ x, [Value.str (S []) t13, Value.str (S [s]) t4][i]? = some x := ⟨_, List.getElem?_eq_getElem (by simpa using hi)⟩
      have hdrop : [Value.str (S []) t13, Value.str (S [s]) t4].drop i = x :: [Value.str (S []) t13, Value.str (S [s]) t4].drop (i + 1) := by
        rw [List.drop_eq_getElem_cons (by simpa using hi)]
        rw [List.getElem?_eq_getElem (by simpa using hi)] at hx
        injection hx with hx
        rw [hx]
      refine get_wait (v := x) (ws := [Value.str (S []) t13, Value.str (S [s]) t4].drop (i + 1)) F (by rw [hdrop]) (by rw [List.length_drop]; simp only [List.length_cons, List.length_nil]; omega) (St.inward [_, _, _, _, _, _, _, _, _, _, _, _, _, _, _, _, _] D) (by omega) ?_
      intro h D
      have D := St.outward [_, _, _, _, _, _, _, _, _, _, _, _, _, _, _, _, _] D
      refine w_append D (by walk_at "upd") (by rw [List.length_take]; simp only [List.length_cons, List.length_nil]; omega) ?_
      intro h D
      refine ⟨_, ⟨some v, rfl⟩, ?_⟩
      rw [List.take_add_one, hx]
      exact D
    · rintro _ h ⟨wd, rfl⟩ D
      have D := D.front (p := (Cc, _)) (by walk_at "pick")
      refine ⟨_, _, D, fun h D => ?_⟩
      have D : St Z h ((xa, .lst [.none, .none]) :: (acc, .lst [Value.str (S []) t13, Value.str (S [s]) t4]) :: (ta, .lst (wv s o ts)) :: (da, .lst (nv ds)) :: (ma, .lst (nv ms)) :: (sa, .lst (nv ss)) :: (la, .lst (wv s o ps')) :: (wa, .lst (wv s o ps)) :: (lawPre L sc hp H0 H1 H2 H3 u0 u1 u2 u3 cards s o t3 t4 t5 (some (.ref X.self)) (lNs j (some (.ref hp)) code (some (.int ((o : Nat) : Int) t2)) (some (.ref wa)) (some (.str (S X.cs) t6)) word hidden bare quoted (some (.int ((kOf cards : Nat) : Int) t7)) (some (.int ((ps2.length : Nat) : Int) t10)) (some (.ref la)) (some (.ref sa)) (some (.ref ma)) (some (.int ((tn : Nat) : Int) t9)) (some (.ref da)) (some (.ref ta)) (some (.ref xa))) ++ (led X { σ with ws := [] } ++ l))) := D
      refine w_addList D (by walk_at "mem") (by walk_at "mem") (Nat.le_of_ble_eq_true rfl) ?_
      intro c1 h D
      refine w_List ?_
      refine w_arg rfl ?_
      refine w_none ?_
      refine w_arg rfl ?_
      refine w_none ?_
      refine w_arg rfl ?_
      refine w_str fun t14 => ?_
      refine w_arg rfl ?_
      walk_at "name"
      refine w_arg_nil ?_
      refine ⟨Nat.le_of_ble_eq_true rfl, _, D, fun c2 h D => ?_⟩
      refine w_neSame D (a := c1) (b := c2) (by walk_at "mem") (by walk_at "mem") (by rfl) ?_ (by omega) ?_
      · intro j v w h1 h2
        have hj : j < 4 := lt_of_at h1
        match j, hj with
        | 0, _ => cases h1; cases h2; exact .none
        | 1, _ => cases h1; cases h2; exact .none
        | 2, _ => cases h1; cases h2; exact .str
        | 3, _ => cases h1; cases h2; exact .str
      refine w_truthy_bool ?_
      rw [if_neg (by decide)]
      refine w_execs_nil ?_
      refine w_execs_cons ?_
      refine w_Return ?_
      refine w_BoolAnd2 ?_
      refine w_Compare ?_ rfl
      refine w_CallMeth rfl rfl rfl ?_
      walk_at "name"
      intro pl
      refine w_methN F.g D F.mGet (by walk_at "mem") (by walk_at "mem") rfl ?_
      refine w_withFunction (o := fnObj fGet) (fd := fGet) rfl ?_
      refine w_arg_nil ?_
      refine ⟨⟨F.get.here D, rfl⟩, ?_⟩
      refine get_read F O (σ := { σ with ws := [] }) ⟨A.n, A.p⟩ rfl (St.inward [_, _, _, _, _, _, _, _, _, _, _, _, _, _, _, _, _] D) (by omega) ?_
      intro h t15 σ' A' hw' hd D
      have D := St.outward [_, _, _, _, _, _, _, _, _, _, _, _, _, _, _, _, _] D
      have hlex : lex (X.cs.drop { σ with ws := [] }.p) = ([], []) := lex_none hb
      rw [hlex] at hd ⊢
      refine w_str fun t16 => ?_
      refine w_eqStr ?_
      refine ⟨true, rfl, ?_⟩
      rw [if_pos rfl]
      refine w_Compare ?_ rfl
      refine w_Attribute ?_ rfl
      walk_at "name"
      refine w_attr F.g D F.cls F.aLine (by walk_at "mem") (by walk_at "mem") (by walk_at "mem") rfl ?_
      refine w_BinOp ?_
      refine w_int fun t17 => ?_
      refine w_CallMeth rfl rfl rfl ?_
      walk_at "name"
      intro pl
      refine w_strMethod PySem.F.slot_str_count PySem.F.type_str_count ?_
      refine w_withBuiltin rfl ?_
      refine w_arg rfl ?_
      refine w_str fun t18 => ?_
      refine w_arg_nil ?_
      refine w_count fun t19 => ?_
      rw [show Str.ofString "\n" = S [10] from rfl, count_S]
      refine w_addInt fun t20 => ?_
      refine w_eqInt ?_
      have hn : σ'.n = 1 + ((X.cs.count 10 : Nat) : Int) := by
        rw [A'.n]
        unfold Lex.line
        have hd : X.cs.drop σ'.p = [] := hd
        rw [List.take_of_length_le (List.drop_eq_nil_iff.mp hd)]
      rw [hn, show ((1 + ((X.cs.count 10 : Nat) : Int)) == (1 + ((X.cs.count 10 : Nat) : Int))) = true by simp]
      exact q h _ σ' D
end
end L2
end Mine

namespace Mine
namespace L2
theorem law_spec {Z : Sur} {h : Heap} {sc : Addr} {xs : List (Int × Tok)} (F : Facts Z) (A : FnAt Z 131 fLaw 130) (hsc : Z.h₁.IsList sc (iv xs).toArray) (hsT : sc ≠ Z.T) (hxs : xs.length ≤ 1000)
    (D : St Z h [(Z.T, .obj (tabObj #[]))]) :
    C Z 0 (.call (.ref 131) ⟨[.ref sc], []⟩) (fun f h' => ∃ v, f = .ret v ∧ v = .bool true ∧ ∃ l ps, St Z h' ((Z.T, .obj (tabObj ps)) :: l)) h := by
  refine c_callCells (fd := fLaw) (Q := fun v h' => v = .bool true ∧ ∃ l ps, St Z h' ((Z.T, .obj (tabObj ps)) :: l)) [("script", .ref sc)] [] ["j", "heaps", "code", "octet", "words", "text", "word", "hidden", "bare", "quoted", "k", "waiting", "line", "stairs", "more", "turns", "due", "told", "laid"]
    [("j", none), ("heaps", none), ("code", none), ("octet", none), ("words", none), ("text", none), ("word", none), ("hidden", none), ("bare", none), ("quoted", none), ("k", none), ("waiting", none), ("line", none), ("stairs", none), ("more", none), ("turns", none), ("due", none), ("told", none), ("laid", none)]
    [("script", some (.ref sc)), ("cards", none), ("sign", none), ("figures", none), ("lexer", none)] ["script", "cards", "sign", "figures", "lexer"] F.g D (A.here D) rfl (A.rec_ D) rfl rfl rfl rfl rfl (by decide) (fun n => rfl) rfl rfl (by decide) rfl (by decide) rfl rfl rfl ?_
  intro L h D
  dsimp only [cellLed, List.cons_append, List.nil_append] at D
  show W Z _ (execs (lawB 0) (callEnvC fLaw L 131)) _ h
  refine law_heaps F hsc hsT hxs (by decide) D ?_
  intro h hp hs hl D
  obtain ⟨⟨H0, u0⟩, ⟨H1, u1⟩, ⟨H2, u2⟩, ⟨H3, u3⟩, rfl⟩ : ∃ a b c d, hs = [a, b, c, d] := by
    match hs, hl with
    | [a, b, c, d], _ => exact ⟨a, b, c, d, rfl⟩
  refine law_signs F (by decide) D ?_
  intro h cards s o code t1 t2 t3 t4 t5 h1 h8 K D
  refine law_words F (by decide) h1 h8 D ?_
  intro h wa ps hps D
  have hg : Good8 (ps.map (·.1)) := by rw [hps]; exact pileN_good h1 h8
  have hsum : (ps.map (·.1)).sum = cards := by rw [hps]; exact pileN_sum h1
  refine law_text F (by decide) hg D ?_
  intro h t6 j word hidden bare quoted D
  have hcl : (wrAll (itm s o H3 (ps.map (·.1)))).length ≤ 100000 := by
    have e1 := wrAll_len (itm_small (s := s) (o := o) (H := H3) (q := ps.map (·.1)) fun p hp => Nat.le_trans (mem_le_sum hp) hg.sum)
    have e2 := hg.len
    rw [itm_len] at e1
    omega
  refine law_lexer F (by decide) hcl D ?_
  intro h X σ tab ecs O A0 ep ew D
  rw [← ecs] at D
  refine law_read F O A0 ew K (by decide) hg (by rw [ep, List.drop_zero, ecs]) D ?_
  clear A0 ep ew D
  intro h σ A1 ew hb D
  refine law_k (ex := []) F (by decide) h1 h8 D ?_
  intro h t7 D
  refine law_push F ew (by decide) hg D ?_
  intro h word D
  refine law_turns1 (oct := none) (σ := { σ with ws := wv s o ps }) F rfl K (by decide) hg h1 h8 D ?_
  intro h ps' t8 hps' D
  have hg' : Good8 (ps'.map (·.1)) := by rw [hps']; exact hg.turnN _
  have T : Stairs cards (ps'.map (·.1)) := by rw [hps']; exact stairs_of h1 h8 hg.pos hsum
  have hsum' : (ps'.map (·.1)).sum = cards := by
    rw [hps']
    unfold line1
    rw [turnN_sum hg.pos hg.ne]; exact hsum
  refine law_line (oct := none) (σ := { σ with ws := wv s o ps' }) F rfl (by decide) hg' D ?_
  intro h la D
  refine law_stairs (oct := none) F (by decide) hg' D ?_
  intro h sa ss hss D
  refine law_more (oct := none) F (by decide) hss T D ?_
  intro h ma ms hms D
  refine law_check (oct := none) F (by decide) hss hsum' T hms D ?_
  intro h D
  refine law_push2 (oct := none) (σ := { σ with ws := [] }) F rfl (by decide) hg' D ?_
  intro h word D
  refine law_turns2 (oct := none) (σ := { σ with ws := wv s o ps' }) F rfl K (by decide) hg' D ?_
  intro h ps2 t9 t10 hps2 D
  have hg2 : Good8 (ps2.map (·.1)) := by rw [hps2]; exact hg'.turnN _
  have htl := turnsOf_lt H3 (kOf cards)
  refine law_due (oct := none) F (by decide) htl hms D ?_
  intro h da ds hds D
  have hkr := kOf_range cards
  have hml : (moreOf cards (ps'.map (·.1))).length = kOf cards + 1 := by unfold moreOf; simp
  have hdl : ds.length ≤ 8 := by
    have e := congrArg List.length hds
    rw [List.length_map, addIdx_len, List.length_append, List.length_drop, List.length_take, hml] at e
    omega
  have hfil := T.turn _ htl
  rw [← hds] at hfil
  have hdp : ∀ p ∈ ds.map (·.1), p ≤ 20 := by
    intro p hp
    by_cases h0 : 0 < p
    · have : p ∈ turnN (turnsOf H3 (kOf cards)) (ps'.map (·.1)) := by
        rw [← hfil]
        exact List.mem_filter.mpr ⟨hp, by simpa using h0⟩
      have := Nat.le_trans (mem_le_sum this) (hg'.turnN _).sum
      omega
    · omega
  refine law_told (oct := none) F K (by decide) hdl hdp D ?_
  intro h ta ts hts D
  refine law_cmp (oct := none) (σ := { σ with ws := wv s o ps2 }) F rfl (by decide) hg2 (by rw [hts, hfil, hps2]) D ?_
  intro h D
  refine law_end (oct := none) (σ := { σ with ws := [] }) F O ⟨A1.n, A1.p⟩ rfl (by decide) hb D ?_
  intro h rest σ' D
  refine ⟨rfl, rest ++ led X σ', tab, ?_⟩
  have D : St Z h (rest ++ (led X σ' ++ ((Z.T, .obj (tabObj tab)) :: []))) := D
  rw [← List.append_assoc] at D
  have := D.perm List.perm_middle
  rw [List.append_nil] at this
  exact this
end L2
end Mine

namespace Mine
/-! what the written part of the top says -/
def kGet (K : Frag) (x : Str) : Option Value := match K.lookup 3 with
  | some ⟨_, _, .dict es _, _⟩ => nsFind es x
  | _ => none
def strOf : Value → Option Str
  | .str x _ => some x
  | _ => none
def codeIn (K : Frag) (c : Addr) (q : Str) : Bool := match K.lookup c with
  | some ⟨_, _, .fields vs, _⟩ => (match (vs[1]? : Option Value) with | some (.str x _) => x == q | _ => false)
  | _ => false
theorem kGet_mg {K : Frag} {h : Heap} {mg : Str → Option Value} (X : K.In h) (hn : h.Ns mainGlobals mg) (hK : (K.lookup 3).isSome = true) (x : Str) : mg x = kGet K x := by
  obtain ⟨o, es, ep, ho, hd, sk, hm⟩ := hn
  obtain ⟨o', ho'⟩ := Option.isSome_iff_exists.mp hK
  have e := X 3 o' ho'
  have e2 : h.get? 3 = some o := ho
  rw [e2] at e
  injection e with e
  subst e
  unfold kGet
  rw [ho', ← hm]
  obtain ⟨c, d, dt, sl⟩ := o
  dsimp only at hd
  subst hd
  rfl
theorem codeIn_spec {K : Frag} {h : Heap} {c : Addr} {q : Str} (X : K.In h) (e : codeIn K c q = true) : ∃ o vs t, h.get? c = some o ∧ o.data = .fields vs ∧ vs[1]? = some (.str q t) := by
  unfold codeIn at e
  split at e
  · rename_i vs _ hk
    split at e
    · rename_i x t hx
      have := beq_iff_eq.mp e
      subst this
      exact ⟨_, vs, t, X _ _ hk, rfl, hx⟩
    · cases e
  · cases e
theorem strOf_spec {o : Option Value} {x : Str} (e : o.bind strOf = some x) : ∃ t, o = some (.str x t) := by
  cases o with
  | none => cases e
  | some v =>
    cases v <;> simp [strOf] at e
    subst e
    exact ⟨_, rfl⟩
namespace L2
structure FnIn (K : Frag) (a : Addr) (fd : FuncData) (c : Addr) : Prop where
  get : K.lookup a = some (fnObj fd)
  cd : fd.code = .ref c
  code : codeIn K c fd.qualname = true
theorem FnIn.at_ {Z : Sur} {a c : Addr} {fd : FuncData} (X : Z.K.In Z.h₁) (k : FnIn Z.K a fd c) (h1 : a ≠ Z.T) (h2 : c ≠ Z.T) : FnAt Z a fd c := ⟨X _ _ k.get, h1, k.cd, codeIn_spec X k.code, h2⟩
def tabOk (vs : Array Value) (f : Nat → List Nat) : Bool := (List.range 256).all fun c => match vs[c]? with | some (.str x _) => x == S (f c) | _ => false
theorem tabOk_spec {vs : Array Value} {f : Nat → List Nat} (e : tabOk vs f = true) : ∀ c, c < 256 → ∃ t, vs[c]? = some (.str (S (f c)) t) := by
  intro c hc
  have := List.all_eq_true.mp e c (List.mem_range.mpr hc)
  split at this
  · rename_i x t hx
    have := beq_iff_eq.mp this
    subst this
    exact ⟨t, hx⟩
  · cases this
structure KF (K : Frag) : Prop where
  isg : (K.lookup 3).isSome = true
  bi : (bis.map fun p => kGet K p.1) = bis.map fun _ => none
  gl : (glos.map fun p => kGet K p.1) = glos.map fun p => some p.2
  hex : (kGet K "hexdigits").bind strOf = some (S [48, 49, 50, 51, 52, 53, 54, 55, 56, 57, 97, 98, 99, 100, 101, 102, 65, 66, 67, 68, 69, 70])
  crlf : (kGet K "CRLF").bind strOf = some (S [13, 10])
  law : kGet K "law" = some (.ref 131)
  iter : kGet K "iter" = none
  len : kGet K "len" = none
  dDec : ∃ t, K.lookup 100 = some (tupObj [.str (S [10]) t])
  dEnc : ∃ t t', K.lookup 92 = some (tupObj [.int 76 t, .str (S [10]) t'])
  tEnc : ∃ n vs, K.lookup 88 = some { cls := .type "list", data := .seq vs n } ∧ tabOk vs encS = true
  tQuo : ∃ n vs, K.lookup 59 = some { cls := .type "list", data := .seq vs n } ∧ tabOk vs esc = true
  kT : K.lookup 109 = none
  init : FnIn K 28 fInit 27
  read : FnIn K 35 fRead 34
  get : FnIn K 42 fGet 41
  push : FnIn K 49 fPush 48
  unq : FnIn K 79 fUnq 78
  quo : FnIn K 86 fQuo 85
  enc : FnIn K 99 fEnc 98
  dec : FnIn K 107 fDec 106
  lex : FnIn K 114 fLex 113
  pil : FnIn K 119 fPil 118
  tur : FnIn K 126 fTur 125
  lawf : FnIn K 131 fLaw 130
  cd : hasDictIn K 52 = true
  cs : findIn K (.ref 52) "__setattr__" = some (some (.builtin "object.__setattr__"))
  co : plainOver K 52 = true
  attrs : ([("lineno" : Str), "instream", "whitespace", "pushback"].all fun n => plainGet K 52 n && (match findIn K (.ref 52) n with | some none => true | _ => false) && (match takerIn K 52 n with | some none => true | _ => false)) = true
  meths : ([(("_read_char" : Str), (35 : Addr)), ("get_token", 42), ("push_token", 49)].map fun p => (plainGet K 52 p.1, findIn K (.ref 52) p.1, isFn K (.ref p.2), specialIn K (.ref p.2) "__get__", takesIn K (.ref p.2))) =
    [(("_read_char" : Str), (35 : Addr)), ("get_token", 42), ("push_token", 49)].map fun p => (true, some (some (.ref p.2)), true, some (some (.builtin "function.__get__")), some false)
  made : makesIn K 52 = true
  keep : keepIn K (.ref 52) = true
  mInit : findIn K (.ref 52) "__init__" = some (some (.ref 28))
  iInit : isFn K (.ref 28) = true
  hd : codeHdIn K 113 109 = true
theorem boot_bis : (bis.map fun p => bootBuiltins p.1) = bis.map fun p => some p.2 := by kernel_rfl
theorem boot_il : bootBuiltins "iter" = some (.builtin "iter") ∧ bootBuiltins "len" = some (.builtin "len") := ⟨by kernel_rfl, by kernel_rfl⟩
theorem map_at {α β : Type} {f g : α → β} : ∀ {l : List α}, l.map f = l.map g → ∀ x ∈ l, f x = g x
  | [], _, _, h => nomatch h
  | a :: r, e, x, h => by
    rw [List.map_cons, List.map_cons] at e
    injection e with e1 e2
    rcases List.mem_cons.mp h with rfl | h
    · exact e1
    · exact map_at e2 x h
theorem facts_of {Z : Sur} {p : Program} {loose : List Str} {mean : ExcName → Option Value} (hT : Z.T = 109) (T : Top p loose mean Z.mg Z.mb Z.h₁) (X : Z.K.In Z.h₁) (k : KF Z.K) (ht : Z.h₁.get? 109 = some (tabObj #[])) : Facts Z := by
  have mg := kGet_mg X T.g k.isg
  have mb := T.builtins
  have nT : ∀ {a : Addr}, a ≠ 109 → a ≠ Z.T := fun h => by rw [hT]; exact h
  have bmain := T.bmain
  have g : Good Z := ⟨T.nolimit, T.g, T.b, X, by rw [hT]; exact k.kT, nT (by decide), nT (by decide), nT (by decide)⟩
  have at_ : ∀ n ∈ [("lineno" : Str), "instream", "whitespace", "pushback"], AttrOk Z 52 n := by
    intro n hn
    have := List.all_eq_true.mp k.attrs n hn
    rw [Bool.and_eq_true, Bool.and_eq_true] at this
    obtain ⟨⟨h1, h2⟩, h3⟩ := this
    refine ⟨h1, ?_, ?_⟩
    · split at h2
      · assumption
      · cases h2
    · split at h3
      · assumption
      · cases h3
  have me : ∀ x ∈ [(("_read_char" : Str), (35 : Addr)), ("get_token", 42), ("push_token", 49)], MethOk Z 52 x.1 x.2 := by
    intro x hx
    have := map_at k.meths x hx
    simp only [Prod.mk.injEq] at this
    obtain ⟨h1, h2, h3, h4, h5⟩ := this
    exact ⟨h1, h2, h3, h4, h5⟩
  obtain ⟨td, hdd⟩ := k.dDec
  obtain ⟨te, te', hde⟩ := k.dEnc
  obtain ⟨n1, v1, hv1, ok1⟩ := k.tEnc
  obtain ⟨n2, v2, hv2, ok2⟩ := k.tQuo
  refine
    { bi := fun x v hm => ⟨by rw [mg]; exact map_at k.bi _ hm, ?_⟩
      gl := fun x v hm => by rw [mg]; exact map_at k.gl _ hm
      gHex := by rw [mg]; exact strOf_spec k.hex
      gCRLF := by rw [mg]; exact strOf_spec k.crlf
      dDec := ⟨td, X _ _ hdd, nT (by decide)⟩
      dEnc := ⟨te, te', X _ _ hde, nT (by decide)⟩
      tEnc := ⟨⟨n1, v1, X _ _ hv1, tabOk_spec ok1⟩, nT (by decide)⟩
      tQuo := ⟨⟨n2, v2, X _ _ hv2, tabOk_spec ok2⟩, nT (by decide)⟩
      g := g
      init := k.init.at_ X (nT (by decide)) (nT (by decide))
      read := k.read.at_ X (nT (by decide)) (nT (by decide))
      get := k.get.at_ X (nT (by decide)) (nT (by decide))
      push := k.push.at_ X (nT (by decide)) (nT (by decide))
      unq := k.unq.at_ X (nT (by decide)) (nT (by decide))
      quo := k.quo.at_ X (nT (by decide)) (nT (by decide))
      enc := k.enc.at_ X (nT (by decide)) (nT (by decide))
      dec := k.dec.at_ X (nT (by decide)) (nT (by decide))
      lex := k.lex.at_ X (nT (by decide)) (nT (by decide))
      pil := k.pil.at_ X (nT (by decide)) (nT (by decide))
      tur := k.tur.at_ X (nT (by decide)) (nT (by decide))
      cls := ⟨k.cd, k.cs, k.co⟩
      aLine := at_ _ (by simp)
      aIn := at_ _ (by simp)
      aWs := at_ _ (by simp)
      aPb := at_ _ (by simp)
      mRead := me ("_read_char", 35) (by simp)
      mGet := me ("get_token", 42) (by simp)
      mPush := me ("push_token", 49) (by simp)
      nLen := by rw [mg]; exact k.len
      bLen := by rw [mb _ (by decide)]; exact boot_il.2
      nIter := by rw [mg]; exact k.iter
      made := k.made
      keep := k.keep
      mInit := k.mInit
      iInit := k.iInit
      hd := by rw [hT]; exact codeHd_of_K X k.hd
      bm := ?_
      bIter := by rw [mb _ (by decide)]; exact boot_il.1 }
  · have hne : ∀ p ∈ bis, p.1 ≠ "__name__" := by decide
    rw [mb x (hne _ hm)]
    exact map_at boot_bis _ hm
  · obtain ⟨bm, ob, b1, b2, b3, b4, b5, b6⟩ := T.bmain
    refine ⟨bm, ob, b1, b2, fun q => ?_, fun q => ?_, b3, b4, b5, b6⟩
    · obtain ⟨o, es, ep, e, hd, _⟩ := T.g
      rw [q, e] at b3; cases b3; rw [hd] at b6; cases b6
    · rw [q, hT, ht] at b3; cases b3; cases b4
end L2
end Mine

namespace Mine
/-- a heap cut behind its last object -/
def cutH (h : Heap) (n : Nat) : Heap := { h with objs := h.objs.extract 0 n }
theorem cutH_get {h : Heap} {n : Nat} (hn : ∀ b : Nat, n ≤ b → h.get? b = none) (b : Nat) : (cutH h n).get? b = h.get? b := by
  by_cases hb : b < n
  · have : (h.objs.extract 0 n)[b]? = h.objs[b]? := by
      rw [Array.getElem?_extract]
      by_cases h2 : b < h.objs.size
      · rw [if_pos (by omega), Nat.zero_add]
      · rw [if_neg (by omega)]
        exact (Array.getElem?_eq_none (by omega)).symm
    unfold Heap.get? cutH
    dsimp only
    rw [this]
  · rw [hn b (by omega)]
    apply Heap.get?_none_of_le
    show (h.objs.extract 0 n).size ≤ b
    rw [Array.size_extract]
    omega
theorem trim (h : Heap) : ∀ n : Nat, n ≤ h.objs.size → (∀ b : Nat, n ≤ b → h.get? b = none) → (∃ a o, h.get? a = some o) →
    ∃ h' : Heap, (∀ b : Nat, h'.get? b = h.get? b) ∧ 0 < h'.objs.size ∧ ∃ o, h'.get? (h'.objs.size - 1) = some o
  | 0, _, hn, ⟨a, o, e⟩ => by rw [hn a (Nat.zero_le _)] at e; cases e
  | n + 1, hz, hn, hx => by
    cases e : h.get? n with
    | some o =>
      have hs : (cutH h (n + 1)).objs.size = n + 1 := by
        show (h.objs.extract 0 (n + 1)).size = n + 1
        rw [Array.size_extract]; omega
      refine ⟨cutH h (n + 1), cutH_get hn, by omega, o, ?_⟩
      rw [hs, cutH_get hn]; exact e
    | none =>
      refine trim h n (by omega) (fun b hb => ?_) hx
      by_cases hb' : n = b
      · subst hb'; exact e
      · exact hn b (by omega)
theorem ints_iv : ∀ {vs : List Value} {ns : List Int}, IntsAre vs ns → ∃ xs : List (Int × Tok), vs = iv xs ∧ xs.length = ns.length
  | _, _, .nil => ⟨[], rfl, rfl⟩
  | _, _, .cons n t h => by
    obtain ⟨xs, e, l⟩ := ints_iv h
    exact ⟨(n, t) :: xs, by rw [e]; rfl, by simp [l]⟩
namespace L2
theorem finish {w : World} {s₁ : Shared} {mg mb : Str → Option Value} {K : Frag} {p prog : Program} {loose : List Str} {mean : ExcName → Option Value} (T : Top p loose mean mg mb s₁.heap) (X : K.In s₁.heap) (k : KF K) (ht : s₁.heap.get? 109 = some (tabObj #[]))
    {lA fa : Addr} {vs : List Value} {ns : List Int} (hL : s₁.heap.IsList lA vs.toArray) (hI : IntsAre vs ns) (hn : ns.length ≤ 1000) (hmg : mg "law" = some (.ref fa)) :
    wpAny (model prog w) callerA (call (.ref fa) [.ref lA]) (fun v s' => v = .bool true ∧ OldK s₁.heap s'.heap ∧ s'.os = s₁.os ∧ s'.gens = s₁.gens) (fun _ _ => False) s₁ := by
  have hfa : fa = 131 := by
    rw [kGet_mg X T.g k.isg, k.law] at hmg
    cases hmg; rfl
  subst hfa
  obtain ⟨xs, rfl, hxl⟩ := ints_iv hI
  obtain ⟨h₁, hget, hpos, olast, hlast⟩ := trim s₁.heap s₁.heap.objs.size (Nat.le_refl _) (fun b hb => Heap.get?_none_of_le hb) ⟨_, _, ht⟩
  have hk : ∀ b o, s₁.heap.get? b = some o → h₁.get? b = some o := fun b o e => (hget b).trans e
  have hk' : ∀ b o, h₁.get? b = some o → s₁.heap.get? b = some o := fun b o e => (hget b).symm.trans e
  let Z : Sur := { prog := prog, w := w, x := s₁, h₁ := h₁, T := 109, K := K, mg := mg, mb := mb }
  have F : Facts Z := facts_of (Z := Z) rfl (T.keeps hk) (fun a o e => hk a o (X a o e)) k (hk _ _ ht)
  have A : FnAt Z 131 fLaw 130 := k.lawf.at_ (Z := Z) (fun a o e => hk a o (X a o e)) (show (131 : Nat) ≠ 109 by decide) (show (130 : Nat) ≠ 109 by decide)
  obtain ⟨ol, hol, hcl, hdl⟩ := hL
  have hsz : 131 < h₁.objs.size := Heap.lt_size A.get
  have hsT : lA ≠ 109 := by
    rintro rfl
    rw [ht] at hol; cases hol; cases hcl
  have hlT : h₁.objs.size - 1 ≠ 109 := by omega
  have D : St Z s₁.heap [(Z.T, .obj (tabObj #[]))] := by
    refine ⟨fun b o _ e => hk' b o e, fun p hp => ?_, by simp, fun p hp => ?_, ⟨hpos, hlT.symm⟩, olast, hk' _ _ hlast⟩
    · rcases List.mem_cons.mp hp with rfl | hp
      · exact ht
      · cases hp
    · rcases List.mem_cons.mp hp with rfl | hp
      · exact .inl rfl
      · cases hp
  have spec := law_spec (Z := Z) (sc := lA) (xs := xs) F A ⟨ol, hk _ _ hol, hcl, hdl⟩ hsT (by omega) D
  have run := (W.call (Q := fun v h' => v = .bool true ∧ ∃ l ps, St Z h' ((Z.T, .obj (tabObj ps)) :: l)) (by exact spec)).run s₁.toks
  have run : wpAny (model prog w) (Lv 0) (call (.ref 131) [.ref lA]) (fun v s => ∃ h' tk', s = Z.st h' tk' ∧ v = .bool true ∧ ∃ l ps, St Z h' ((Z.T, .obj (tabObj ps)) :: l)) (fun _ _ => False) s₁ := run
  refine wpAny_weaken (A' := Lv 0) (wpAny_mono run ?_ fun _ _ e => e) rfl (by show 1 + claimMargin ≤ 310; decide) rfl rfl (by show 4 ≤ 50; decide)
  rintro v s ⟨h', tk', rfl, rfl, l, ps, D'⟩
  refine ⟨rfl, ?_, rfl, rfl⟩
  have hT' : h'.get? 109 = some (tabObj ps) := D'.get (.head _)
  have C : CodeHd s₁.heap 113 109 := codeHd_of_K X k.hd
  refine ⟨fun b o e => ?_, fun b o e => ?_⟩
  · by_cases hb : b = 109
    · subst hb
      rw [ht] at e
      cases e
      exact .inr (.inl ⟨(C.tab ht).isCodeTable, rfl, #[], ps, rfl, by rw [Array.empty_append]; exact hT'⟩)
    · exact .inl (D'.old b o hb (hk b o e))
  · by_cases hb : b = 109
    · subst hb
      exact ⟨_, hT'⟩
    · exact ⟨o, D'.old b o hb (hk b o e)⟩
end L2
end Mine

open PySem.Calls
namespace Mine
namespace Hd
noncomputable section
open L2
/-! law 02's top: the objects and the states where the walk is cut -/
noncomputable def en (P : Params) (k : String) (t : Nat) (v : Value) : DictEntry := { hash := PyData.keyHash P (Str.ofString k), key := Value.str (Str.ofString k) t, val := v }
noncomputable def skel (f : FuncData) : Obj := { cls := Value.none, data := Data.func { f with globals := 0, code := Value.none, pyModule := Value.none, defaults := Value.none } }
noncomputable def el4 (i : Nat) : Value := Value.str (S (esc i)) (257 + 4 * i)
noncomputable def ix13 (i : Nat) : Nat := bif Nat.ble 97 i && Nat.ble i 122 then i - 92 else bif Nat.ble 65 i && Nat.ble i 90 then i - 34 else bif Nat.ble 48 i && Nat.ble i 57 then i + 9 else bif Nat.beq i 45 then 0 else bif Nat.beq i 33 then 1 else bif Nat.beq i 42 then 2 else bif Nat.beq i 43 then 3 else bif Nat.beq i 47 then 4 else 999
noncomputable def ix15 (i : Nat) : Nat := bif Nat.ble 32 i && Nat.ble i 60 then i - 32 else bif Nat.ble 62 i && Nat.ble i 126 then i - 33 else bif Nat.beq i 9 then 94 else 999
noncomputable def ix19 (i : Nat) : Nat := bif Nat.beq i 13 then 0 else bif Nat.beq i 10 then 1 else 999
noncomputable def el13 (j i : Nat) : Value := bif Nat.blt (ix13 i) j then Value.str (S [i]) (1305 + 3 * ix13 i) else el4 i
noncomputable def el14 (i : Nat) : Value := bif Nat.beq i 32 then Value.str (S [95]) 1504 else el13 67 i
noncomputable def el15 (j i : Nat) : Value := bif Nat.blt (ix15 i) j then Value.str (S [i]) (1510 + 3 * ix15 i) else el4 i
noncomputable def el19 (j i : Nat) : Value := bif Nat.blt (ix19 i) j then Value.str (S [i]) (1811 + 3 * ix19 i) else el15 95 i
noncomputable def tab (f : Nat → Value) (n m : Nat) : Obj := { cls := Value.type "list", data := Data.seq ((List.range n).map f).toArray m }
noncomputable def b13 : List Nat := [45, 33, 42, 43, 47, 97, 98, 99, 100, 101, 102, 103, 104, 105, 106, 107, 108, 109, 110, 111, 112, 113, 114, 115, 116, 117, 118, 119, 120, 121, 122, 65, 66, 67, 68, 69, 70, 71, 72, 73, 74, 75, 76, 77, 78, 79, 80, 81, 82, 83, 84, 85, 86, 87, 88, 89, 90, 48, 49, 50, 51, 52, 53, 54, 55, 56, 57]
noncomputable def b15 : List Nat := [32, 33, 34, 35, 36, 37, 38, 39, 40, 41, 42, 43, 44, 45, 46, 47, 48, 49, 50, 51, 52, 53, 54, 55, 56, 57, 58, 59, 60, 62, 63, 64, 65, 66, 67, 68, 69, 70, 71, 72, 73, 74, 75, 76, 77, 78, 79, 80, 81, 82, 83, 84, 85, 86, 87, 88, 89, 90, 91, 92, 93, 94, 95, 96, 97, 98, 99, 100, 101, 102, 103, 104, 105, 106, 107, 108, 109, 110, 111, 112, 113, 114, 115, 116, 117, 118, 119, 120, 121, 122, 123, 124, 125, 126, 9]
noncomputable def bIt (b : List Nat) (t j : Nat) : Obj := { cls := Value.type "bytes_iterator", data := Data.fields #[Value.bytes (b.map UInt8.ofNat).toArray t, Value.int (Int.ofNat j) 0] }

noncomputable def o11_pre : Obj := { cls := Value.type "tuple", data := Data.seq #[] }
noncomputable def o12_pre : Obj := { cls := Value.none, data := Data.fields #[] }
noncomputable def o13_pre : Obj := { cls := Value.type "code", data := Data.fields #[Value.str (Str.ofString "<module>") 182, Value.str (Str.ofString "<module>") 183, Value.str (Str.ofString "/claim/cut.py") 184, Value.int 1 0, Value.int 0 0, Value.int 0 0, Value.int 0 0, Value.int 0 0, Value.ref 11, Value.bool false, Value.int 181 0, Value.ref 12, Value.none, Value.none, Value.none, Value.none, Value.int 185 0, Value.int 1 0, Value.str (Str.ofString "/claim/cut.py") 186] }
noncomputable def o14_pre : Obj := { cls := Value.type "frame", slots := #[some (Value.ref 13), some (Value.ref 3), some (Value.ref 3), none, some (Value.str (Str.ofString "__main__") 164), none, some (Value.ref 0)] }
noncomputable def tpre (P : Params) : BT := (BT.node (boot_o_0 P) (BT.node (boot_o_1 P) (BT.node (boot_o_3 P) (BT.node (boot_o_7 P) BT.nil BT.nil) (BT.node o11_pre BT.nil BT.nil)) (BT.node (boot_o_5 P) (BT.node (boot_o_9 P) BT.nil BT.nil) (BT.node o13_pre BT.nil BT.nil))) (BT.node (boot_o_2 P) (BT.node (boot_o_4 P) (BT.node (boot_o_8 P) BT.nil BT.nil) (BT.node o12_pre BT.nil BT.nil)) (BT.node (boot_o_6 P) (BT.node (boot_o_10 P) BT.nil BT.nil) (BT.node o14_pre BT.nil BT.nil))))
noncomputable def o3_3 (P : Params) : Obj := { cls := Value.type "dict", data := Data.dict #[en P "__name__" 165 (Value.str (Str.ofString "cpy313.netrc") 187), en P "__doc__" 166 (Value.none), en P "__package__" 167 (Value.none), en P "__loader__" 168 (Value.builtin "__main__.__loader__#opaque"), en P "__spec__" 169 (Value.none), en P "__annotations__" 170 (Value.ref 6), en P "__builtins__" 171 (Value.ref 4), en P "__file__" 173 (Value.str (Str.ofString "/claim/cut.py") 172), en P "__cached__" 174 (Value.none), en P "_netrclex" 246 (Value.ref 52), en P "CRLF" 248 (Value.str (Str.ofString "\x0d\n") 247), en P "NL" 250 (Value.str (Str.ofString "\n") 249)] 12 }
noncomputable def o12_3 : Obj := { cls := Value.none, data := Data.fields #[Value.int 2 0, Value.int 0 0, Value.ref 20] }
noncomputable def o16_3 : Obj := { cls := Value.type "builtin_function_or_method", data := Data.fields #[Value.builtin "type.__prepare__", Value.type "type"] }
noncomputable def o17_3 (P : Params) : Obj := { cls := Value.type "dict", data := Data.dict #[en P "__module__" 196 (Value.str (Str.ofString "cpy313.netrc") 187), en P "__qualname__" 198 (Value.str (Str.ofString "_netrclex") 197), en P "__firstlineno__" 200 (Value.int 2 199), en P "__init__" 208 (Value.ref 28), en P "_read_char" 216 (Value.ref 35), en P "get_token" 226 (Value.ref 42), en P "push_token" 234 (Value.ref 49), en P "__static_attributes__" 239 (Value.ref 50)] 8 }
noncomputable def o19_3 : Obj := { cls := Value.none, data := Data.fields #[Value.int 4 0, Value.int 4 0, Value.ref 27, Value.int 10 0, Value.int 4 0, Value.ref 34, Value.int 16 0, Value.int 4 0, Value.ref 41, Value.int 43 0, Value.int 4 0, Value.ref 48] }
noncomputable def o20_3 : Obj := { cls := Value.type "code", data := Data.fields #[Value.str (Str.ofString "_netrclex") 191, Value.str (Str.ofString "_netrclex") 192, Value.str (Str.ofString "/claim/cut.py") 193, Value.int 2 0, Value.int 0 0, Value.int 0 0, Value.int 0 0, Value.int 0 0, Value.ref 18, Value.bool false, Value.int 181 0, Value.ref 19, Value.none, Value.none, Value.none, Value.none, Value.int 194 0, Value.int 2 0, Value.str (Str.ofString "/claim/cut.py") 195] }
noncomputable def o21_3 : Obj := { cls := Value.type "frame", slots := #[some (Value.ref 20), some (Value.ref 3), some (Value.ref 17), none, some (Value.str (Str.ofString "cpy313.netrc") 187), none, some (Value.ref 0)] }
noncomputable def o24_3 : Obj := { cls := Value.type "tuple", data := Data.seq #[Value.str (Str.ofString "self") 204, Value.str (Str.ofString "fp") 205] }
noncomputable def o26_3 : Obj := skel fInit
noncomputable def o27_3 : Obj := { cls := Value.type "code", data := Data.fields #[Value.str (Str.ofString "__init__") 201, Value.str (Str.ofString "_netrclex.__init__") 202, Value.str (Str.ofString "/claim/cut.py") 203, Value.int 4 0, Value.int 2 0, Value.int 0 0, Value.int 0 0, Value.int 3 0, Value.ref 22, Value.bool true, Value.int 181 0, Value.ref 23, Value.none, Value.ref 24, Value.ref 25, Value.ref 26, Value.int 206 0, Value.int 4 0, Value.str (Str.ofString "/claim/cut.py") 207] }
noncomputable def o28_3 : Obj := fnObj fInit
noncomputable def o31_3 : Obj := { cls := Value.type "tuple", data := Data.seq #[Value.str (Str.ofString "self") 212, Value.str (Str.ofString "ch") 213] }
noncomputable def o33_3 : Obj := skel fRead
noncomputable def o34_3 : Obj := { cls := Value.type "code", data := Data.fields #[Value.str (Str.ofString "_read_char") 209, Value.str (Str.ofString "_netrclex._read_char") 210, Value.str (Str.ofString "/claim/cut.py") 211, Value.int 10 0, Value.int 1 0, Value.int 0 0, Value.int 0 0, Value.int 3 0, Value.ref 29, Value.bool true, Value.int 181 0, Value.ref 30, Value.none, Value.ref 31, Value.ref 32, Value.ref 33, Value.int 214 0, Value.int 10 0, Value.str (Str.ofString "/claim/cut.py") 215] }
noncomputable def o35_3 : Obj := fnObj fRead
noncomputable def o38_3 : Obj := { cls := Value.type "tuple", data := Data.seq #[Value.str (Str.ofString "self") 220, Value.str (Str.ofString "token") 221, Value.str (Str.ofString "fiter") 222, Value.str (Str.ofString "ch") 223] }
noncomputable def o40_3 : Obj := skel fGet
noncomputable def o41_3 : Obj := { cls := Value.type "code", data := Data.fields #[Value.str (Str.ofString "get_token") 217, Value.str (Str.ofString "_netrclex.get_token") 218, Value.str (Str.ofString "/claim/cut.py") 219, Value.int 16 0, Value.int 1 0, Value.int 0 0, Value.int 0 0, Value.int 3 0, Value.ref 36, Value.bool true, Value.int 181 0, Value.ref 37, Value.none, Value.ref 38, Value.ref 39, Value.ref 40, Value.int 224 0, Value.int 16 0, Value.str (Str.ofString "/claim/cut.py") 225] }
noncomputable def o42_3 : Obj := fnObj fGet
noncomputable def o45_3 : Obj := { cls := Value.type "tuple", data := Data.seq #[Value.str (Str.ofString "self") 230, Value.str (Str.ofString "token") 231] }
noncomputable def o47_3 : Obj := skel fPush
noncomputable def o48_3 : Obj := { cls := Value.type "code", data := Data.fields #[Value.str (Str.ofString "push_token") 227, Value.str (Str.ofString "_netrclex.push_token") 228, Value.str (Str.ofString "/claim/cut.py") 229, Value.int 43 0, Value.int 2 0, Value.int 0 0, Value.int 0 0, Value.int 3 0, Value.ref 43, Value.bool true, Value.int 181 0, Value.ref 44, Value.none, Value.ref 45, Value.ref 46, Value.ref 47, Value.int 232 0, Value.int 43 0, Value.str (Str.ofString "/claim/cut.py") 233] }
noncomputable def o49_3 : Obj := fnObj fPush
noncomputable def o50_3 : Obj := { cls := Value.type "tuple", data := Data.seq #[Value.str (Str.ofString "instream") 235, Value.str (Str.ofString "lineno") 236, Value.str (Str.ofString "pushback") 237, Value.str (Str.ofString "whitespace") 238] }
noncomputable def o51_3 (P : Params) : Obj := { cls := Value.type "dict", data := Data.dict #[en P "__module__" 196 (Value.str (Str.ofString "cpy313.netrc") 187), en P "__firstlineno__" 200 (Value.int 2 199), en P "__init__" 208 (Value.ref 28), en P "_read_char" 216 (Value.ref 35), en P "get_token" 226 (Value.ref 42), en P "push_token" 234 (Value.ref 49), en P "__static_attributes__" 239 (Value.ref 50), en P "__dict__" 241 (Value.ref 53), en P "__weakref__" 243 (Value.ref 54), en P "__doc__" 244 (Value.none)] 4 }
noncomputable def o52_3 : Obj := { cls := Value.type "type", data := Data.cls { name := Str.ofString "_netrclex", bases := [Value.type "object"], mro := [Value.ref 52, Value.type "object"], ns := 51, qualname := Str.ofString "_netrclex" }, slots := #[none, none, some (Value.str (Str.ofString "_netrclex") 189), some (Value.str (Str.ofString "_netrclex") 197), some (Value.builtin "object.__new__"), some (Value.bool true)] }
noncomputable def o53_3 : Obj := { cls := Value.type "getset_descriptor", data := Data.fields #[Value.str (Str.ofString "__dict__") 240, Value.ref 52, Value.builtin "function.__dict__", Value.builtin "function.__dict__#set"] }
noncomputable def o54_3 : Obj := { cls := Value.type "getset_descriptor", data := Data.fields #[Value.str (Str.ofString "__weakref__") 242, Value.ref 52, Value.builtin "ExceptionGroup.__weakref__", Value.none] }
noncomputable def o55_3 : Obj := { cls := Value.type "super", data := Data.fields #[Value.ref 52, Value.ref 52, Value.ref 52] }
noncomputable def o56_3 : Obj := { cls := Value.type "builtin_function_or_method", data := Data.fields #[Value.builtin "object.__init_subclass__", Value.ref 52] }
noncomputable def t3 (P : Params) : BT := (BT.node (boot_o_0 P) (BT.node (boot_o_1 P) (BT.node (o3_3 P) (BT.node (boot_o_7 P) (BT.node o11_pre (BT.node o31_3 BT.nil BT.nil) (BT.node o47_3 BT.nil BT.nil)) (BT.node o12_pre (BT.node o11_pre BT.nil BT.nil) (BT.node o55_3 BT.nil BT.nil))) (BT.node o11_pre (BT.node o19_3 (BT.node o35_3 BT.nil BT.nil) (BT.node (o51_3 P) BT.nil BT.nil)) (BT.node o27_3 (BT.node o11_pre BT.nil BT.nil) BT.nil))) (BT.node (boot_o_5 P) (BT.node (boot_o_9 P) (BT.node (o17_3 P) (BT.node o33_3 BT.nil BT.nil) (BT.node o49_3 BT.nil BT.nil)) (BT.node o11_pre (BT.node o41_3 BT.nil BT.nil) BT.nil)) (BT.node o13_pre (BT.node o21_3 (BT.node o12_pre BT.nil BT.nil) (BT.node o53_3 BT.nil BT.nil)) (BT.node o11_pre (BT.node o45_3 BT.nil BT.nil) BT.nil)))) (BT.node (boot_o_2 P) (BT.node (boot_o_4 P) (BT.node (boot_o_8 P) (BT.node o16_3 (BT.node o11_pre BT.nil BT.nil) (BT.node o48_3 BT.nil BT.nil)) (BT.node o24_3 (BT.node o40_3 BT.nil BT.nil) (BT.node o56_3 BT.nil BT.nil))) (BT.node o12_3 (BT.node o20_3 (BT.node o11_pre BT.nil BT.nil) (BT.node o52_3 BT.nil BT.nil)) (BT.node o28_3 (BT.node o12_pre BT.nil BT.nil) BT.nil))) (BT.node (boot_o_6 P) (BT.node (boot_o_10 P) (BT.node o11_pre (BT.node o34_3 BT.nil BT.nil) (BT.node o50_3 BT.nil BT.nil)) (BT.node o26_3 (BT.node o42_3 BT.nil BT.nil) BT.nil)) (BT.node o14_pre (BT.node o11_pre (BT.node o38_3 BT.nil BT.nil) (BT.node o54_3 BT.nil BT.nil)) (BT.node o12_pre (BT.node o11_pre BT.nil BT.nil) BT.nil)))))
noncomputable def o3_4 (P : Params) : Obj := { cls := Value.type "dict", data := Data.dict #[en P "__name__" 165 (Value.str (Str.ofString "cpy313.netrc") 187), en P "__doc__" 166 (Value.none), en P "__package__" 167 (Value.none), en P "__loader__" 168 (Value.builtin "__main__.__loader__#opaque"), en P "__spec__" 169 (Value.none), en P "__annotations__" 170 (Value.ref 6), en P "__builtins__" 171 (Value.ref 4), en P "__file__" 173 (Value.str (Str.ofString "/claim/cut.py") 172), en P "__cached__" 174 (Value.none), en P "_netrclex" 246 (Value.ref 52), en P "CRLF" 248 (Value.str (Str.ofString "\x0d\n") 247), en P "NL" 250 (Value.str (Str.ofString "\n") 249), en P "_QUOPRI_MAP" 1278 (Value.ref 59)] 13 }
noncomputable def o57_4 : Obj := { cls := Value.type "range", data := Data.fields #[Value.int 0 252, Value.int 256 251, Value.int 1 253] }
noncomputable def o58_4 : Obj := { cls := Value.type "range_iterator", data := Data.fields #[Value.int 256 0, Value.int 0 0, Value.int 1 0] }
noncomputable def o60_4 : Obj := { cls := Value.type "dict", data := Data.dict #[] 2 }
noncomputable def o62_4 : Obj := { cls := Value.type "StopIteration", data := Data.fields #[Value.ref 61, Value.none, Value.none, Value.none, Value.bool false, Value.none] }
noncomputable def t4 (P : Params) : BT := (BT.node (boot_o_0 P) (BT.node (boot_o_1 P) (BT.node (o3_4 P) (BT.node (boot_o_7 P) (BT.node o11_pre (BT.node o31_3 BT.nil BT.nil) (BT.node o47_3 BT.nil BT.nil)) (BT.node o12_pre (BT.node o11_pre BT.nil BT.nil) (BT.node o55_3 BT.nil BT.nil))) (BT.node o11_pre (BT.node o19_3 (BT.node o35_3 BT.nil BT.nil) (BT.node (o51_3 P) BT.nil BT.nil)) (BT.node o27_3 (BT.node o11_pre BT.nil BT.nil) (BT.node (tab el4 256 256) BT.nil BT.nil)))) (BT.node (boot_o_5 P) (BT.node (boot_o_9 P) (BT.node (o17_3 P) (BT.node o33_3 BT.nil BT.nil) (BT.node o49_3 BT.nil BT.nil)) (BT.node o11_pre (BT.node o41_3 BT.nil BT.nil) (BT.node o57_4 BT.nil BT.nil))) (BT.node o13_pre (BT.node o21_3 (BT.node o12_pre BT.nil BT.nil) (BT.node o53_3 BT.nil BT.nil)) (BT.node o11_pre (BT.node o45_3 BT.nil BT.nil) (BT.node o11_pre BT.nil BT.nil))))) (BT.node (boot_o_2 P) (BT.node (boot_o_4 P) (BT.node (boot_o_8 P) (BT.node o16_3 (BT.node o11_pre BT.nil BT.nil) (BT.node o48_3 BT.nil BT.nil)) (BT.node o24_3 (BT.node o40_3 BT.nil BT.nil) (BT.node o56_3 BT.nil BT.nil))) (BT.node o12_3 (BT.node o20_3 (BT.node o11_pre BT.nil BT.nil) (BT.node o52_3 BT.nil BT.nil)) (BT.node o28_3 (BT.node o12_pre BT.nil BT.nil) (BT.node o60_4 BT.nil BT.nil)))) (BT.node (boot_o_6 P) (BT.node (boot_o_10 P) (BT.node o11_pre (BT.node o34_3 BT.nil BT.nil) (BT.node o50_3 BT.nil BT.nil)) (BT.node o26_3 (BT.node o42_3 BT.nil BT.nil) (BT.node o58_4 BT.nil BT.nil))) (BT.node o14_pre (BT.node o11_pre (BT.node o38_3 BT.nil BT.nil) (BT.node o54_3 BT.nil BT.nil)) (BT.node o12_pre (BT.node o11_pre BT.nil BT.nil) (BT.node o62_4 BT.nil BT.nil))))))
noncomputable def o3_12 (P : Params) : Obj := { cls := Value.type "dict", data := Data.dict #[en P "__name__" 165 (Value.str (Str.ofString "cpy313.email.quoprimime") 1294), en P "__doc__" 166 (Value.none), en P "__package__" 167 (Value.none), en P "__loader__" 168 (Value.builtin "__main__.__loader__#opaque"), en P "__spec__" 169 (Value.none), en P "__annotations__" 170 (Value.ref 6), en P "__builtins__" 171 (Value.ref 4), en P "__file__" 173 (Value.str (Str.ofString "/claim/cut.py") 172), en P "__cached__" 174 (Value.none), en P "_netrclex" 246 (Value.ref 52), en P "CRLF" 248 (Value.str (Str.ofString "\x0d\n") 247), en P "NL" 250 (Value.str (Str.ofString "\n") 249), en P "_QUOPRI_MAP" 1278 (Value.ref 59), en P "_QUOPRI_HEADER_MAP" 1279 (Value.ref 64), en P "_QUOPRI_BODY_MAP" 1280 (Value.ref 66), en P "ascii_lowercase" 1282 (Value.str (Str.ofString "abcdefghijklmnopqrstuvwxyz") 1281), en P "ascii_uppercase" 1284 (Value.str (Str.ofString "ABCDEFGHIJKLMNOPQRSTUVWXYZ") 1283), en P "ascii_letters" 1286 (Value.str (Str.ofString "abcdefghijklmnopqrstuvwxyzABCDEFGHIJKLMNOPQRSTUVWXYZ") 1285), en P "digits" 1288 (Value.str (Str.ofString "0123456789") 1287), en P "hexdigits" 1293 (Value.str (Str.ofString "0123456789abcdefABCDEF") 1292)] 20 }
noncomputable def o63_12 : Obj := { cls := Value.type "slice", data := Data.fields #[Value.none, Value.none, Value.none] }
noncomputable def t12 (P : Params) : BT := (BT.node (boot_o_0 P) (BT.node (boot_o_1 P) (BT.node (o3_12 P) (BT.node (boot_o_7 P) (BT.node o11_pre (BT.node o31_3 (BT.node o63_12 BT.nil BT.nil) BT.nil) (BT.node o47_3 BT.nil BT.nil)) (BT.node o12_pre (BT.node o11_pre BT.nil BT.nil) (BT.node o55_3 BT.nil BT.nil))) (BT.node o11_pre (BT.node o19_3 (BT.node o35_3 BT.nil BT.nil) (BT.node (o51_3 P) BT.nil BT.nil)) (BT.node o27_3 (BT.node o11_pre BT.nil BT.nil) (BT.node (tab el4 256 256) BT.nil BT.nil)))) (BT.node (boot_o_5 P) (BT.node (boot_o_9 P) (BT.node (o17_3 P) (BT.node o33_3 (BT.node o63_12 BT.nil BT.nil) BT.nil) (BT.node o49_3 BT.nil BT.nil)) (BT.node o11_pre (BT.node o41_3 BT.nil BT.nil) (BT.node o57_4 BT.nil BT.nil))) (BT.node o13_pre (BT.node o21_3 (BT.node o12_pre BT.nil BT.nil) (BT.node o53_3 BT.nil BT.nil)) (BT.node o11_pre (BT.node o45_3 BT.nil BT.nil) (BT.node o11_pre BT.nil BT.nil))))) (BT.node (boot_o_2 P) (BT.node (boot_o_4 P) (BT.node (boot_o_8 P) (BT.node o16_3 (BT.node o11_pre (BT.node (tab el4 256 0) BT.nil BT.nil) BT.nil) (BT.node o48_3 BT.nil BT.nil)) (BT.node o24_3 (BT.node o40_3 BT.nil BT.nil) (BT.node o56_3 BT.nil BT.nil))) (BT.node o12_3 (BT.node o20_3 (BT.node o11_pre BT.nil BT.nil) (BT.node o52_3 BT.nil BT.nil)) (BT.node o28_3 (BT.node o12_pre BT.nil BT.nil) (BT.node o60_4 BT.nil BT.nil)))) (BT.node (boot_o_6 P) (BT.node (boot_o_10 P) (BT.node o11_pre (BT.node o34_3 (BT.node (tab el4 256 0) BT.nil BT.nil) BT.nil) (BT.node o50_3 BT.nil BT.nil)) (BT.node o26_3 (BT.node o42_3 BT.nil BT.nil) (BT.node o58_4 BT.nil BT.nil))) (BT.node o14_pre (BT.node o11_pre (BT.node o38_3 BT.nil BT.nil) (BT.node o54_3 BT.nil BT.nil)) (BT.node o12_pre (BT.node o11_pre BT.nil BT.nil) (BT.node o62_4 BT.nil BT.nil))))))
noncomputable def d13 (P : Params) (c : Value) : Obj := { cls := Value.type "dict", data := Data.dict #[en P "__name__" 165 (Value.str (Str.ofString "cpy313.email.quoprimime") 1294), en P "__doc__" 166 (Value.none), en P "__package__" 167 (Value.none), en P "__loader__" 168 (Value.builtin "__main__.__loader__#opaque"), en P "__spec__" 169 (Value.none), en P "__annotations__" 170 (Value.ref 6), en P "__builtins__" 171 (Value.ref 4), en P "__file__" 173 (Value.str (Str.ofString "/claim/cut.py") 172), en P "__cached__" 174 (Value.none), en P "_netrclex" 246 (Value.ref 52), en P "CRLF" 248 (Value.str (Str.ofString "\x0d\n") 247), en P "NL" 250 (Value.str (Str.ofString "\n") 249), en P "_QUOPRI_MAP" 1278 (Value.ref 59), en P "_QUOPRI_HEADER_MAP" 1279 (Value.ref 64), en P "_QUOPRI_BODY_MAP" 1280 (Value.ref 66), en P "ascii_lowercase" 1282 (Value.str (Str.ofString "abcdefghijklmnopqrstuvwxyz") 1281), en P "ascii_uppercase" 1284 (Value.str (Str.ofString "ABCDEFGHIJKLMNOPQRSTUVWXYZ") 1283), en P "ascii_letters" 1286 (Value.str (Str.ofString "abcdefghijklmnopqrstuvwxyzABCDEFGHIJKLMNOPQRSTUVWXYZ") 1285), en P "digits" 1288 (Value.str (Str.ofString "0123456789") 1287), en P "hexdigits" 1293 (Value.str (Str.ofString "0123456789abcdefABCDEF") 1292), en P "c" 1304 c] 21 }
noncomputable def o67_13 : Obj := { cls := Value.type "bytes_iterator", data := Data.fields #[Value.none, Value.int 67 0] }
noncomputable def o69_13 : Obj := { cls := Value.type "StopIteration", data := Data.fields #[Value.ref 68, Value.none, Value.none, Value.none, Value.bool false, Value.none] }
noncomputable def t13 (P : Params) : BT := (BT.node (boot_o_0 P) (BT.node (boot_o_1 P) (BT.node (d13 P (Value.int 57 1501)) (BT.node (boot_o_7 P) (BT.node o11_pre (BT.node o31_3 (BT.node o63_12 BT.nil BT.nil) BT.nil) (BT.node o47_3 BT.nil BT.nil)) (BT.node o12_pre (BT.node o11_pre BT.nil BT.nil) (BT.node o55_3 BT.nil BT.nil))) (BT.node o11_pre (BT.node o19_3 (BT.node o35_3 (BT.node o67_13 BT.nil BT.nil) BT.nil) (BT.node (o51_3 P) BT.nil BT.nil)) (BT.node o27_3 (BT.node o11_pre BT.nil BT.nil) (BT.node (tab el4 256 256) BT.nil BT.nil)))) (BT.node (boot_o_5 P) (BT.node (boot_o_9 P) (BT.node (o17_3 P) (BT.node o33_3 (BT.node o63_12 BT.nil BT.nil) BT.nil) (BT.node o49_3 BT.nil BT.nil)) (BT.node o11_pre (BT.node o41_3 BT.nil BT.nil) (BT.node o57_4 BT.nil BT.nil))) (BT.node o13_pre (BT.node o21_3 (BT.node o12_pre (BT.node o69_13 BT.nil BT.nil) BT.nil) (BT.node o53_3 BT.nil BT.nil)) (BT.node o11_pre (BT.node o45_3 BT.nil BT.nil) (BT.node o11_pre BT.nil BT.nil))))) (BT.node (boot_o_2 P) (BT.node (boot_o_4 P) (BT.node (boot_o_8 P) (BT.node o16_3 (BT.node o11_pre (BT.node (tab (el13 67) 256 0) BT.nil BT.nil) BT.nil) (BT.node o48_3 BT.nil BT.nil)) (BT.node o24_3 (BT.node o40_3 BT.nil BT.nil) (BT.node o56_3 BT.nil BT.nil))) (BT.node o12_3 (BT.node o20_3 (BT.node o11_pre (BT.node o11_pre BT.nil BT.nil) BT.nil) (BT.node o52_3 BT.nil BT.nil)) (BT.node o28_3 (BT.node o12_pre BT.nil BT.nil) (BT.node o60_4 BT.nil BT.nil)))) (BT.node (boot_o_6 P) (BT.node (boot_o_10 P) (BT.node o11_pre (BT.node o34_3 (BT.node (tab el4 256 0) BT.nil BT.nil) BT.nil) (BT.node o50_3 BT.nil BT.nil)) (BT.node o26_3 (BT.node o42_3 BT.nil BT.nil) (BT.node o58_4 BT.nil BT.nil))) (BT.node o14_pre (BT.node o11_pre (BT.node o38_3 BT.nil BT.nil) (BT.node o54_3 BT.nil BT.nil)) (BT.node o12_pre (BT.node o11_pre BT.nil BT.nil) (BT.node o62_4 BT.nil BT.nil))))))
noncomputable def t14 (P : Params) : BT := (BT.node (boot_o_0 P) (BT.node (boot_o_1 P) (BT.node (d13 P (Value.int 57 1501)) (BT.node (boot_o_7 P) (BT.node o11_pre (BT.node o31_3 (BT.node o63_12 BT.nil BT.nil) BT.nil) (BT.node o47_3 BT.nil BT.nil)) (BT.node o12_pre (BT.node o11_pre BT.nil BT.nil) (BT.node o55_3 BT.nil BT.nil))) (BT.node o11_pre (BT.node o19_3 (BT.node o35_3 (BT.node o67_13 BT.nil BT.nil) BT.nil) (BT.node (o51_3 P) BT.nil BT.nil)) (BT.node o27_3 (BT.node o11_pre BT.nil BT.nil) (BT.node (tab el4 256 256) BT.nil BT.nil)))) (BT.node (boot_o_5 P) (BT.node (boot_o_9 P) (BT.node (o17_3 P) (BT.node o33_3 (BT.node o63_12 BT.nil BT.nil) BT.nil) (BT.node o49_3 BT.nil BT.nil)) (BT.node o11_pre (BT.node o41_3 BT.nil BT.nil) (BT.node o57_4 BT.nil BT.nil))) (BT.node o13_pre (BT.node o21_3 (BT.node o12_pre (BT.node o69_13 BT.nil BT.nil) BT.nil) (BT.node o53_3 BT.nil BT.nil)) (BT.node o11_pre (BT.node o45_3 BT.nil BT.nil) (BT.node o11_pre BT.nil BT.nil))))) (BT.node (boot_o_2 P) (BT.node (boot_o_4 P) (BT.node (boot_o_8 P) (BT.node o16_3 (BT.node o11_pre (BT.node (tab el14 256 0) BT.nil BT.nil) BT.nil) (BT.node o48_3 BT.nil BT.nil)) (BT.node o24_3 (BT.node o40_3 BT.nil BT.nil) (BT.node o56_3 BT.nil BT.nil))) (BT.node o12_3 (BT.node o20_3 (BT.node o11_pre (BT.node o11_pre BT.nil BT.nil) BT.nil) (BT.node o52_3 BT.nil BT.nil)) (BT.node o28_3 (BT.node o12_pre BT.nil BT.nil) (BT.node o60_4 BT.nil BT.nil)))) (BT.node (boot_o_6 P) (BT.node (boot_o_10 P) (BT.node o11_pre (BT.node o34_3 (BT.node (tab el4 256 0) BT.nil BT.nil) BT.nil) (BT.node o50_3 BT.nil BT.nil)) (BT.node o26_3 (BT.node o42_3 BT.nil BT.nil) (BT.node o58_4 BT.nil BT.nil))) (BT.node o14_pre (BT.node o11_pre (BT.node o38_3 BT.nil BT.nil) (BT.node o54_3 BT.nil BT.nil)) (BT.node o12_pre (BT.node o11_pre BT.nil BT.nil) (BT.node o62_4 BT.nil BT.nil))))))
noncomputable def o70_15 : Obj := { cls := Value.type "bytes_iterator", data := Data.fields #[Value.none, Value.int 95 0] }
noncomputable def o72_15 : Obj := { cls := Value.type "StopIteration", data := Data.fields #[Value.ref 71, Value.none, Value.none, Value.none, Value.bool false, Value.none] }
noncomputable def t15 (P : Params) : BT := (BT.node (boot_o_0 P) (BT.node (boot_o_1 P) (BT.node (d13 P (Value.int 9 1790)) (BT.node (boot_o_7 P) (BT.node o11_pre (BT.node o31_3 (BT.node o63_12 BT.nil BT.nil) BT.nil) (BT.node o47_3 BT.nil BT.nil)) (BT.node o12_pre (BT.node o11_pre (BT.node o11_pre BT.nil BT.nil) BT.nil) (BT.node o55_3 BT.nil BT.nil))) (BT.node o11_pre (BT.node o19_3 (BT.node o35_3 (BT.node o67_13 BT.nil BT.nil) BT.nil) (BT.node (o51_3 P) BT.nil BT.nil)) (BT.node o27_3 (BT.node o11_pre BT.nil BT.nil) (BT.node (tab el4 256 256) BT.nil BT.nil)))) (BT.node (boot_o_5 P) (BT.node (boot_o_9 P) (BT.node (o17_3 P) (BT.node o33_3 (BT.node o63_12 BT.nil BT.nil) BT.nil) (BT.node o49_3 BT.nil BT.nil)) (BT.node o11_pre (BT.node o41_3 BT.nil BT.nil) (BT.node o57_4 BT.nil BT.nil))) (BT.node o13_pre (BT.node o21_3 (BT.node o12_pre (BT.node o69_13 BT.nil BT.nil) BT.nil) (BT.node o53_3 BT.nil BT.nil)) (BT.node o11_pre (BT.node o45_3 BT.nil BT.nil) (BT.node o11_pre BT.nil BT.nil))))) (BT.node (boot_o_2 P) (BT.node (boot_o_4 P) (BT.node (boot_o_8 P) (BT.node o16_3 (BT.node o11_pre (BT.node (tab el14 256 0) BT.nil BT.nil) BT.nil) (BT.node o48_3 BT.nil BT.nil)) (BT.node o24_3 (BT.node o40_3 (BT.node o72_15 BT.nil BT.nil) BT.nil) (BT.node o56_3 BT.nil BT.nil))) (BT.node o12_3 (BT.node o20_3 (BT.node o11_pre (BT.node o11_pre BT.nil BT.nil) BT.nil) (BT.node o52_3 BT.nil BT.nil)) (BT.node o28_3 (BT.node o12_pre BT.nil BT.nil) (BT.node o60_4 BT.nil BT.nil)))) (BT.node (boot_o_6 P) (BT.node (boot_o_10 P) (BT.node o11_pre (BT.node o34_3 (BT.node (tab (el15 95) 256 0) BT.nil BT.nil) BT.nil) (BT.node o50_3 BT.nil BT.nil)) (BT.node o26_3 (BT.node o42_3 BT.nil BT.nil) (BT.node o58_4 BT.nil BT.nil))) (BT.node o14_pre (BT.node o11_pre (BT.node o38_3 (BT.node o70_15 BT.nil BT.nil) BT.nil) (BT.node o54_3 BT.nil BT.nil)) (BT.node o12_pre (BT.node o11_pre BT.nil BT.nil) (BT.node o62_4 BT.nil BT.nil))))))
noncomputable def d18 (P : Params) (c : Value) : Obj := { cls := Value.type "dict", data := Data.dict #[en P "__name__" 165 (Value.str (Str.ofString "cpy313.email.quoprimime") 1294), en P "__doc__" 166 (Value.none), en P "__package__" 167 (Value.none), en P "__loader__" 168 (Value.builtin "__main__.__loader__#opaque"), en P "__spec__" 169 (Value.none), en P "__annotations__" 170 (Value.ref 6), en P "__builtins__" 171 (Value.ref 4), en P "__file__" 173 (Value.str (Str.ofString "/claim/cut.py") 172), en P "__cached__" 174 (Value.none), en P "_netrclex" 246 (Value.ref 52), en P "CRLF" 248 (Value.str (Str.ofString "\x0d\n") 247), en P "NL" 250 (Value.str (Str.ofString "\n") 249), en P "_QUOPRI_MAP" 1278 (Value.ref 59), en P "_QUOPRI_HEADER_MAP" 1279 (Value.ref 64), en P "_QUOPRI_BODY_MAP" 1280 (Value.ref 66), en P "ascii_lowercase" 1282 (Value.str (Str.ofString "abcdefghijklmnopqrstuvwxyz") 1281), en P "ascii_uppercase" 1284 (Value.str (Str.ofString "ABCDEFGHIJKLMNOPQRSTUVWXYZ") 1283), en P "ascii_letters" 1286 (Value.str (Str.ofString "abcdefghijklmnopqrstuvwxyzABCDEFGHIJKLMNOPQRSTUVWXYZ") 1285), en P "digits" 1288 (Value.str (Str.ofString "0123456789") 1287), en P "hexdigits" 1293 (Value.str (Str.ofString "0123456789abcdefABCDEF") 1292), en P "c" 1304 c, en P "unquote" 1799 (Value.ref 79), en P "quote" 1806 (Value.ref 86), en P "_QUOPRI_BODY_ENCODE_MAP" 1807 (Value.ref 88)] 24 }
noncomputable def o12_18 : Obj := { cls := Value.none, data := Data.fields #[Value.int 2 0, Value.int 0 0, Value.ref 20, Value.int 61 0, Value.int 0 0, Value.ref 78, Value.int 63 0, Value.int 0 0, Value.ref 85] }
noncomputable def o75_18 : Obj := { cls := Value.type "tuple", data := Data.seq #[Value.str (Str.ofString "s") 1796] }
noncomputable def o77_18 : Obj := skel fUnq
noncomputable def o78_18 : Obj := { cls := Value.type "code", data := Data.fields #[Value.str (Str.ofString "unquote") 1793, Value.str (Str.ofString "unquote") 1794, Value.str (Str.ofString "/claim/cut.py") 1795, Value.int 61 0, Value.int 1 0, Value.int 0 0, Value.int 0 0, Value.int 3 0, Value.ref 73, Value.bool true, Value.int 181 0, Value.ref 74, Value.none, Value.ref 75, Value.ref 76, Value.ref 77, Value.int 1797 0, Value.int 61 0, Value.str (Str.ofString "/claim/cut.py") 1798] }
noncomputable def o79_18 : Obj := fnObj fUnq
noncomputable def o82_18 : Obj := { cls := Value.type "tuple", data := Data.seq #[Value.str (Str.ofString "c") 1803] }
noncomputable def o84_18 : Obj := skel fQuo
noncomputable def o85_18 : Obj := { cls := Value.type "code", data := Data.fields #[Value.str (Str.ofString "quote") 1800, Value.str (Str.ofString "quote") 1801, Value.str (Str.ofString "/claim/cut.py") 1802, Value.int 63 0, Value.int 1 0, Value.int 0 0, Value.int 0 0, Value.int 3 0, Value.ref 80, Value.bool true, Value.int 181 0, Value.ref 81, Value.none, Value.ref 82, Value.ref 83, Value.ref 84, Value.int 1804 0, Value.int 63 0, Value.str (Str.ofString "/claim/cut.py") 1805] }
noncomputable def o86_18 : Obj := fnObj fQuo
noncomputable def t18 (P : Params) : BT := (BT.node (boot_o_0 P) (BT.node (boot_o_1 P) (BT.node (d18 P (Value.int 9 1790)) (BT.node (boot_o_7 P) (BT.node o11_pre (BT.node o31_3 (BT.node o63_12 BT.nil BT.nil) BT.nil) (BT.node o47_3 (BT.node o79_18 BT.nil BT.nil) BT.nil)) (BT.node o12_pre (BT.node o11_pre (BT.node o11_pre BT.nil BT.nil) BT.nil) (BT.node o55_3 (BT.node o63_12 BT.nil BT.nil) BT.nil))) (BT.node o11_pre (BT.node o19_3 (BT.node o35_3 (BT.node o67_13 BT.nil BT.nil) BT.nil) (BT.node (o51_3 P) (BT.node o11_pre BT.nil BT.nil) BT.nil)) (BT.node o27_3 (BT.node o11_pre (BT.node o75_18 BT.nil BT.nil) BT.nil) (BT.node (tab el4 256 256) BT.nil BT.nil)))) (BT.node (boot_o_5 P) (BT.node (boot_o_9 P) (BT.node (o17_3 P) (BT.node o33_3 (BT.node o63_12 BT.nil BT.nil) BT.nil) (BT.node o49_3 (BT.node o12_pre BT.nil BT.nil) BT.nil)) (BT.node o11_pre (BT.node o41_3 (BT.node o11_pre BT.nil BT.nil) BT.nil) (BT.node o57_4 BT.nil BT.nil))) (BT.node o13_pre (BT.node o21_3 (BT.node o12_pre (BT.node o69_13 BT.nil BT.nil) BT.nil) (BT.node o53_3 (BT.node o85_18 BT.nil BT.nil) BT.nil)) (BT.node o11_pre (BT.node o45_3 (BT.node o77_18 BT.nil BT.nil) BT.nil) (BT.node o11_pre BT.nil BT.nil))))) (BT.node (boot_o_2 P) (BT.node (boot_o_4 P) (BT.node (boot_o_8 P) (BT.node o16_3 (BT.node o11_pre (BT.node (tab el14 256 0) BT.nil BT.nil) BT.nil) (BT.node o48_3 (BT.node o11_pre BT.nil BT.nil) BT.nil)) (BT.node o24_3 (BT.node o40_3 (BT.node o72_15 BT.nil BT.nil) BT.nil) (BT.node o56_3 (BT.node (tab (el15 95) 256 0) BT.nil BT.nil) BT.nil))) (BT.node o12_18 (BT.node o20_3 (BT.node o11_pre (BT.node o11_pre BT.nil BT.nil) BT.nil) (BT.node o52_3 (BT.node o84_18 BT.nil BT.nil) BT.nil)) (BT.node o28_3 (BT.node o12_pre (BT.node o11_pre BT.nil BT.nil) BT.nil) (BT.node o60_4 BT.nil BT.nil)))) (BT.node (boot_o_6 P) (BT.node (boot_o_10 P) (BT.node o11_pre (BT.node o34_3 (BT.node (tab (el15 95) 256 0) BT.nil BT.nil) BT.nil) (BT.node o50_3 (BT.node o82_18 BT.nil BT.nil) BT.nil)) (BT.node o26_3 (BT.node o42_3 (BT.node o12_pre BT.nil BT.nil) BT.nil) (BT.node o58_4 BT.nil BT.nil))) (BT.node o14_pre (BT.node o11_pre (BT.node o38_3 (BT.node o70_15 BT.nil BT.nil) BT.nil) (BT.node o54_3 (BT.node o86_18 BT.nil BT.nil) BT.nil)) (BT.node o12_pre (BT.node o11_pre (BT.node o78_18 BT.nil BT.nil) BT.nil) (BT.node o62_4 BT.nil BT.nil))))))
noncomputable def o89_19 : Obj := { cls := Value.type "bytes_iterator", data := Data.fields #[Value.none, Value.int 2 0] }
noncomputable def o91_19 : Obj := { cls := Value.type "StopIteration", data := Data.fields #[Value.ref 90, Value.none, Value.none, Value.none, Value.bool false, Value.none] }
noncomputable def t19 (P : Params) : BT := (BT.node (boot_o_0 P) (BT.node (boot_o_1 P) (BT.node (d18 P (Value.int 10 1812)) (BT.node (boot_o_7 P) (BT.node o11_pre (BT.node o31_3 (BT.node o63_12 BT.nil BT.nil) BT.nil) (BT.node o47_3 (BT.node o79_18 BT.nil BT.nil) BT.nil)) (BT.node o12_pre (BT.node o11_pre (BT.node o11_pre BT.nil BT.nil) BT.nil) (BT.node o55_3 (BT.node o63_12 BT.nil BT.nil) BT.nil))) (BT.node o11_pre (BT.node o19_3 (BT.node o35_3 (BT.node o67_13 BT.nil BT.nil) BT.nil) (BT.node (o51_3 P) (BT.node o11_pre BT.nil BT.nil) BT.nil)) (BT.node o27_3 (BT.node o11_pre (BT.node o75_18 BT.nil BT.nil) BT.nil) (BT.node (tab el4 256 256) (BT.node o91_19 BT.nil BT.nil) BT.nil)))) (BT.node (boot_o_5 P) (BT.node (boot_o_9 P) (BT.node (o17_3 P) (BT.node o33_3 (BT.node o63_12 BT.nil BT.nil) BT.nil) (BT.node o49_3 (BT.node o12_pre BT.nil BT.nil) BT.nil)) (BT.node o11_pre (BT.node o41_3 (BT.node o11_pre BT.nil BT.nil) BT.nil) (BT.node o57_4 (BT.node o89_19 BT.nil BT.nil) BT.nil))) (BT.node o13_pre (BT.node o21_3 (BT.node o12_pre (BT.node o69_13 BT.nil BT.nil) BT.nil) (BT.node o53_3 (BT.node o85_18 BT.nil BT.nil) BT.nil)) (BT.node o11_pre (BT.node o45_3 (BT.node o77_18 BT.nil BT.nil) BT.nil) (BT.node o11_pre BT.nil BT.nil))))) (BT.node (boot_o_2 P) (BT.node (boot_o_4 P) (BT.node (boot_o_8 P) (BT.node o16_3 (BT.node o11_pre (BT.node (tab el14 256 0) BT.nil BT.nil) BT.nil) (BT.node o48_3 (BT.node o11_pre BT.nil BT.nil) BT.nil)) (BT.node o24_3 (BT.node o40_3 (BT.node o72_15 BT.nil BT.nil) BT.nil) (BT.node o56_3 (BT.node (tab (el19 2) 256 0) BT.nil BT.nil) BT.nil))) (BT.node o12_18 (BT.node o20_3 (BT.node o11_pre (BT.node o11_pre BT.nil BT.nil) BT.nil) (BT.node o52_3 (BT.node o84_18 BT.nil BT.nil) BT.nil)) (BT.node o28_3 (BT.node o12_pre (BT.node o11_pre BT.nil BT.nil) BT.nil) (BT.node o60_4 BT.nil BT.nil)))) (BT.node (boot_o_6 P) (BT.node (boot_o_10 P) (BT.node o11_pre (BT.node o34_3 (BT.node (tab (el15 95) 256 0) BT.nil BT.nil) BT.nil) (BT.node o50_3 (BT.node o82_18 BT.nil BT.nil) BT.nil)) (BT.node o26_3 (BT.node o42_3 (BT.node o12_pre BT.nil BT.nil) BT.nil) (BT.node o58_4 (BT.node o11_pre BT.nil BT.nil) BT.nil))) (BT.node o14_pre (BT.node o11_pre (BT.node o38_3 (BT.node o70_15 BT.nil BT.nil) BT.nil) (BT.node o54_3 (BT.node o86_18 BT.nil BT.nil) BT.nil)) (BT.node o12_pre (BT.node o11_pre (BT.node o78_18 BT.nil BT.nil) BT.nil) (BT.node o62_4 BT.nil BT.nil))))))
noncomputable def o3_27 (P : Params) : Obj := { cls := Value.type "dict", data := Data.dict #[en P "__name__" 165 (Value.str (Str.ofString "law_rs0124_02") 1848), en P "__doc__" 166 (Value.none), en P "__package__" 167 (Value.none), en P "__loader__" 168 (Value.builtin "__main__.__loader__#opaque"), en P "__spec__" 169 (Value.none), en P "__annotations__" 170 (Value.ref 6), en P "__builtins__" 171 (Value.ref 4), en P "__file__" 173 (Value.str (Str.ofString "/claim/cut.py") 172), en P "__cached__" 174 (Value.none), en P "_netrclex" 246 (Value.ref 52), en P "CRLF" 248 (Value.str (Str.ofString "\x0d\n") 247), en P "NL" 250 (Value.str (Str.ofString "\n") 249), en P "_QUOPRI_MAP" 1278 (Value.ref 59), en P "_QUOPRI_HEADER_MAP" 1279 (Value.ref 64), en P "_QUOPRI_BODY_MAP" 1280 (Value.ref 66), en P "ascii_lowercase" 1282 (Value.str (Str.ofString "abcdefghijklmnopqrstuvwxyz") 1281), en P "ascii_uppercase" 1284 (Value.str (Str.ofString "ABCDEFGHIJKLMNOPQRSTUVWXYZ") 1283), en P "ascii_letters" 1286 (Value.str (Str.ofString "abcdefghijklmnopqrstuvwxyzABCDEFGHIJKLMNOPQRSTUVWXYZ") 1285), en P "digits" 1288 (Value.str (Str.ofString "0123456789") 1287), en P "hexdigits" 1293 (Value.str (Str.ofString "0123456789abcdefABCDEF") 1292), en P "unquote" 1799 (Value.ref 79), en P "quote" 1806 (Value.ref 86), en P "_QUOPRI_BODY_ENCODE_MAP" 1807 (Value.ref 88), en P "body_encode" 1834 (Value.ref 99), en P "decode" 1847 (Value.ref 107), en P "_law_lexer" 1860 (Value.ref 114), en P "_law_piles" 1866 (Value.ref 119), en P "_law_turns" 1881 (Value.ref 126), en P "law" 1887 (Value.ref 131)] 31 }
noncomputable def o12_27 : Obj := { cls := Value.none, data := Data.fields #[Value.int 2 0, Value.int 0 0, Value.ref 20, Value.int 61 0, Value.int 0 0, Value.ref 78, Value.int 63 0, Value.int 0 0, Value.ref 85, Value.int 69 0, Value.int 0 0, Value.ref 98, Value.int 107 0, Value.int 0 0, Value.ref 106, Value.int 138 0, Value.int 0 0, Value.ref 113, Value.int 148 0, Value.int 0 0, Value.ref 118, Value.int 151 0, Value.int 0 0, Value.ref 125, Value.int 163 0, Value.int 0 0, Value.ref 130] }
noncomputable def o92_27 : Obj := { cls := Value.type "tuple", data := Data.seq #[Value.int 76 1815, Value.str (Str.ofString "\n") 249] }
noncomputable def o95_27 : Obj := { cls := Value.type "tuple", data := Data.seq #[Value.str (Str.ofString "body") 1819, Value.str (Str.ofString "maxlinelen") 1820, Value.str (Str.ofString "eol") 1821, Value.str (Str.ofString "soft_break") 1822, Value.str (Str.ofString "maxlinelen1") 1823, Value.str (Str.ofString "encoded_body") 1824, Value.str (Str.ofString "append") 1825, Value.str (Str.ofString "line") 1826, Value.str (Str.ofString "start") 1827, Value.str (Str.ofString "laststart") 1828, Value.str (Str.ofString "stop") 1829, Value.str (Str.ofString "room") 1830, Value.str (Str.ofString "q") 1831] }
noncomputable def o97_27 : Obj := skel fEnc
noncomputable def o98_27 : Obj := { cls := Value.type "code", data := Data.fields #[Value.str (Str.ofString "body_encode") 1816, Value.str (Str.ofString "body_encode") 1817, Value.str (Str.ofString "/claim/cut.py") 1818, Value.int 69 0, Value.int 3 0, Value.int 0 0, Value.int 0 0, Value.int 3 0, Value.ref 93, Value.bool true, Value.int 181 0, Value.ref 94, Value.none, Value.ref 95, Value.ref 96, Value.ref 97, Value.int 1832 0, Value.int 69 0, Value.str (Str.ofString "/claim/cut.py") 1833] }
noncomputable def o99_27 : Obj := fnObj fEnc
noncomputable def o100_27 : Obj := { cls := Value.type "tuple", data := Data.seq #[Value.str (Str.ofString "\n") 249] }
noncomputable def o103_27 : Obj := { cls := Value.type "tuple", data := Data.seq #[Value.str (Str.ofString "encoded") 1838, Value.str (Str.ofString "eol") 1839, Value.str (Str.ofString "decoded") 1840, Value.str (Str.ofString "line") 1841, Value.str (Str.ofString "i") 1842, Value.str (Str.ofString "n") 1843, Value.str (Str.ofString "c") 1844] }
noncomputable def o105_27 : Obj := skel fDec
noncomputable def o106_27 : Obj := { cls := Value.type "code", data := Data.fields #[Value.str (Str.ofString "decode") 1835, Value.str (Str.ofString "decode") 1836, Value.str (Str.ofString "/claim/cut.py") 1837, Value.int 107 0, Value.int 2 0, Value.int 0 0, Value.int 0 0, Value.int 3 0, Value.ref 101, Value.bool true, Value.int 181 0, Value.ref 102, Value.none, Value.ref 103, Value.ref 104, Value.ref 105, Value.int 1845 0, Value.int 107 0, Value.str (Str.ofString "/claim/cut.py") 1846] }
noncomputable def o107_27 : Obj := fnObj fDec
noncomputable def o110_27 : Obj := { cls := Value.type "tuple", data := Data.seq #[Value.str (Str.ofString "text") 1853, Value.str (Str.ofString "read") 1854, Value.str (Str.ofString "stream") 1855] }
noncomputable def o111_27 : Obj := { cls := Value.type "tuple", data := Data.seq #[Value.str (Str.ofString "text") 1856, Value.str (Str.ofString "place") 1857] }
noncomputable def o112_27 : Obj := skel fLex
noncomputable def o113_27 : Obj := { cls := Value.type "code", data := Data.fields #[Value.str (Str.ofString "_law_lexer") 1850, Value.str (Str.ofString "_law_lexer") 1851, Value.str (Str.ofString "/claim/cut.py") 1852, Value.int 138 0, Value.int 1 0, Value.int 0 0, Value.int 0 0, Value.int 3 0, Value.ref 108, Value.bool true, Value.int 181 0, Value.ref 109, Value.none, Value.ref 110, Value.ref 111, Value.ref 112, Value.int 1858 0, Value.int 138 0, Value.str (Str.ofString "/claim/cut.py") 1859] }
noncomputable def o114_27 : Obj := fnObj fLex
noncomputable def o117_27 : Obj := skel fPil
noncomputable def o118_27 : Obj := { cls := Value.type "code", data := Data.fields #[Value.str (Str.ofString "_law_piles") 1861, Value.str (Str.ofString "_law_piles") 1862, Value.str (Str.ofString "/claim/cut.py") 1863, Value.int 148 0, Value.int 2 0, Value.int 0 0, Value.int 0 0, Value.int 3 0, Value.ref 115, Value.bool true, Value.int 181 0, Value.ref 116, Value.none, Value.none, Value.none, Value.ref 117, Value.int 1864 0, Value.int 148 0, Value.str (Str.ofString "/claim/cut.py") 1865] }
noncomputable def o119_27 : Obj := fnObj fPil
noncomputable def o122_27 : Obj := { cls := Value.type "tuple", data := Data.seq #[Value.str (Str.ofString "lexer") 1870, Value.str (Str.ofString "waiting") 1871, Value.str (Str.ofString "bare") 1872, Value.str (Str.ofString "count") 1873, Value.str (Str.ofString "turn") 1874, Value.str (Str.ofString "left") 1875, Value.str (Str.ofString "pile") 1876, Value.str (Str.ofString "one") 1877, Value.str (Str.ofString "word") 1878] }
noncomputable def o124_27 : Obj := skel fTur
noncomputable def o125_27 : Obj := { cls := Value.type "code", data := Data.fields #[Value.str (Str.ofString "_law_turns") 1867, Value.str (Str.ofString "_law_turns") 1868, Value.str (Str.ofString "/claim/cut.py") 1869, Value.int 151 0, Value.int 4 0, Value.int 0 0, Value.int 0 0, Value.int 3 0, Value.ref 120, Value.bool true, Value.int 181 0, Value.ref 121, Value.none, Value.ref 122, Value.ref 123, Value.ref 124, Value.int 1879 0, Value.int 151 0, Value.str (Str.ofString "/claim/cut.py") 1880] }
noncomputable def o126_27 : Obj := fnObj fTur
noncomputable def o129_27 : Obj := skel fLaw
noncomputable def o130_27 : Obj := { cls := Value.type "code", data := Data.fields #[Value.str (Str.ofString "law") 1882, Value.str (Str.ofString "law") 1883, Value.str (Str.ofString "/claim/cut.py") 1884, Value.int 163 0, Value.int 1 0, Value.int 0 0, Value.int 0 0, Value.int 3 0, Value.ref 127, Value.bool true, Value.int 181 0, Value.ref 128, Value.none, Value.none, Value.none, Value.ref 129, Value.int 1885 0, Value.int 163 0, Value.str (Str.ofString "/claim/cut.py") 1886] }
noncomputable def o131_27 : Obj := fnObj fLaw
noncomputable def t27 (P : Params) : BT := (BT.node (boot_o_0 P) (BT.node (boot_o_1 P) (BT.node (o3_27 P) (BT.node (boot_o_7 P) (BT.node o11_pre (BT.node o31_3 (BT.node o63_12 (BT.node o11_pre BT.nil BT.nil) BT.nil) (BT.node o95_27 BT.nil BT.nil)) (BT.node o47_3 (BT.node o79_18 BT.nil BT.nil) (BT.node o111_27 BT.nil BT.nil))) (BT.node o12_pre (BT.node o11_pre (BT.node o11_pre BT.nil BT.nil) (BT.node o103_27 BT.nil BT.nil)) (BT.node o55_3 (BT.node o63_12 BT.nil BT.nil) (BT.node o119_27 BT.nil BT.nil)))) (BT.node o11_pre (BT.node o19_3 (BT.node o35_3 (BT.node o67_13 (BT.node o131_27 BT.nil BT.nil) BT.nil) (BT.node o99_27 BT.nil BT.nil)) (BT.node (o51_3 P) (BT.node o11_pre BT.nil BT.nil) (BT.node o11_pre BT.nil BT.nil))) (BT.node o27_3 (BT.node o11_pre (BT.node o75_18 BT.nil BT.nil) (BT.node o107_27 BT.nil BT.nil)) (BT.node (tab el4 256 256) (BT.node o91_19 BT.nil BT.nil) (BT.node o11_pre BT.nil BT.nil))))) (BT.node (boot_o_5 P) (BT.node (boot_o_9 P) (BT.node (o17_3 P) (BT.node o33_3 (BT.node o63_12 (BT.node o129_27 BT.nil BT.nil) BT.nil) (BT.node o97_27 BT.nil BT.nil)) (BT.node o49_3 (BT.node o12_pre BT.nil BT.nil) (BT.node o113_27 BT.nil BT.nil))) (BT.node o11_pre (BT.node o41_3 (BT.node o11_pre BT.nil BT.nil) (BT.node o105_27 BT.nil BT.nil)) (BT.node o57_4 (BT.node o89_19 BT.nil BT.nil) (BT.node o12_pre BT.nil BT.nil)))) (BT.node o13_pre (BT.node o21_3 (BT.node o12_pre (BT.node o69_13 BT.nil BT.nil) (BT.node o11_pre BT.nil BT.nil)) (BT.node o53_3 (BT.node o85_18 BT.nil BT.nil) (BT.node o117_27 BT.nil BT.nil))) (BT.node o11_pre (BT.node o45_3 (BT.node o77_18 BT.nil BT.nil) (BT.node o12_pre BT.nil BT.nil)) (BT.node o11_pre (BT.node o11_pre BT.nil BT.nil) (BT.node o125_27 BT.nil BT.nil)))))) (BT.node (boot_o_2 P) (BT.node (boot_o_4 P) (BT.node (boot_o_8 P) (BT.node o16_3 (BT.node o11_pre (BT.node (tab el14 256 0) (BT.node o12_pre BT.nil BT.nil) BT.nil) (BT.node o11_pre BT.nil BT.nil)) (BT.node o48_3 (BT.node o11_pre BT.nil BT.nil) (BT.node o112_27 BT.nil BT.nil))) (BT.node o24_3 (BT.node o40_3 (BT.node o72_15 BT.nil BT.nil) (BT.node o11_pre BT.nil BT.nil)) (BT.node o56_3 (BT.node (tab (el19 2) 256 0) BT.nil BT.nil) (BT.node o11_pre BT.nil BT.nil)))) (BT.node o12_27 (BT.node o20_3 (BT.node o11_pre (BT.node o11_pre BT.nil BT.nil) (BT.node o100_27 BT.nil BT.nil)) (BT.node o52_3 (BT.node o84_18 BT.nil BT.nil) (BT.node o12_pre BT.nil BT.nil))) (BT.node o28_3 (BT.node o12_pre (BT.node o11_pre BT.nil BT.nil) (BT.node o11_pre BT.nil BT.nil)) (BT.node o60_4 (BT.node o92_27 BT.nil BT.nil) (BT.node o124_27 BT.nil BT.nil))))) (BT.node (boot_o_6 P) (BT.node (boot_o_10 P) (BT.node o11_pre (BT.node o34_3 (BT.node (tab (el15 95) 256 0) (BT.node o130_27 BT.nil BT.nil) BT.nil) (BT.node o98_27 BT.nil BT.nil)) (BT.node o50_3 (BT.node o82_18 BT.nil BT.nil) (BT.node o114_27 BT.nil BT.nil))) (BT.node o26_3 (BT.node o42_3 (BT.node o12_pre BT.nil BT.nil) (BT.node o106_27 BT.nil BT.nil)) (BT.node o58_4 (BT.node o11_pre BT.nil BT.nil) (BT.node o122_27 BT.nil BT.nil)))) (BT.node o14_pre (BT.node o11_pre (BT.node o38_3 (BT.node o70_15 BT.nil BT.nil) (BT.node o12_pre BT.nil BT.nil)) (BT.node o54_3 (BT.node o86_18 BT.nil BT.nil) (BT.node o118_27 BT.nil BT.nil))) (BT.node o12_pre (BT.node o11_pre (BT.node o78_18 BT.nil BT.nil) (BT.node o110_27 BT.nil BT.nil)) (BT.node o62_4 (BT.node o12_pre BT.nil BT.nil) (BT.node o126_27 BT.nil BT.nil)))))))
noncomputable def rIt (i : Nat) : Obj := { cls := Value.type "range_iterator", data := Data.fields #[Value.int (Int.ofNat i) 0, Value.int (Int.ofNat (256 - i)) 0, Value.int 1 0] }
noncomputable def c4 (P : Params) (j : Nat) : Obj := { cls := Value.type "dict", data := bif Nat.beq j 0 then Data.dict #[] else Data.dict #[en P "c" 255 (Value.int (Int.ofNat (j - 1)) (250 + 4 * j))] 1 }
noncomputable def h4 (P : Params) (j : Nat) : BT := (BT.node (boot_o_0 P) (BT.node (boot_o_1 P) (BT.node (o3_3 P) (BT.node (boot_o_7 P) (BT.node o11_pre (BT.node o31_3 BT.nil BT.nil) (BT.node o47_3 BT.nil BT.nil)) (BT.node o12_pre (BT.node o11_pre BT.nil BT.nil) (BT.node o55_3 BT.nil BT.nil))) (BT.node o11_pre (BT.node o19_3 (BT.node o35_3 BT.nil BT.nil) (BT.node (o51_3 P) BT.nil BT.nil)) (BT.node o27_3 (BT.node o11_pre BT.nil BT.nil) (BT.node (tab el4 j j) BT.nil BT.nil)))) (BT.node (boot_o_5 P) (BT.node (boot_o_9 P) (BT.node (o17_3 P) (BT.node o33_3 BT.nil BT.nil) (BT.node o49_3 BT.nil BT.nil)) (BT.node o11_pre (BT.node o41_3 BT.nil BT.nil) (BT.node o57_4 BT.nil BT.nil))) (BT.node o13_pre (BT.node o21_3 (BT.node o12_pre BT.nil BT.nil) (BT.node o53_3 BT.nil BT.nil)) (BT.node o11_pre (BT.node o45_3 BT.nil BT.nil) BT.nil)))) (BT.node (boot_o_2 P) (BT.node (boot_o_4 P) (BT.node (boot_o_8 P) (BT.node o16_3 (BT.node o11_pre BT.nil BT.nil) (BT.node o48_3 BT.nil BT.nil)) (BT.node o24_3 (BT.node o40_3 BT.nil BT.nil) (BT.node o56_3 BT.nil BT.nil))) (BT.node o12_3 (BT.node o20_3 (BT.node o11_pre BT.nil BT.nil) (BT.node o52_3 BT.nil BT.nil)) (BT.node o28_3 (BT.node o12_pre BT.nil BT.nil) (BT.node (c4 P j) BT.nil BT.nil)))) (BT.node (boot_o_6 P) (BT.node (boot_o_10 P) (BT.node o11_pre (BT.node o34_3 BT.nil BT.nil) (BT.node o50_3 BT.nil BT.nil)) (BT.node o26_3 (BT.node o42_3 BT.nil BT.nil) (BT.node (rIt j) BT.nil BT.nil))) (BT.node o14_pre (BT.node o11_pre (BT.node o38_3 BT.nil BT.nil) (BT.node o54_3 BT.nil BT.nil)) (BT.node o12_pre (BT.node o11_pre BT.nil BT.nil) BT.nil)))))
noncomputable def h13a (P : Params) : BT := (BT.node (boot_o_0 P) (BT.node (boot_o_1 P) (BT.node (o3_12 P) (BT.node (boot_o_7 P) (BT.node o11_pre (BT.node o31_3 (BT.node o63_12 BT.nil BT.nil) BT.nil) (BT.node o47_3 BT.nil BT.nil)) (BT.node o12_pre (BT.node o11_pre BT.nil BT.nil) (BT.node o55_3 BT.nil BT.nil))) (BT.node o11_pre (BT.node o19_3 (BT.node o35_3 (BT.node (bIt b13 1302 0) BT.nil BT.nil) BT.nil) (BT.node (o51_3 P) BT.nil BT.nil)) (BT.node o27_3 (BT.node o11_pre BT.nil BT.nil) (BT.node (tab el4 256 256) BT.nil BT.nil)))) (BT.node (boot_o_5 P) (BT.node (boot_o_9 P) (BT.node (o17_3 P) (BT.node o33_3 (BT.node o63_12 BT.nil BT.nil) BT.nil) (BT.node o49_3 BT.nil BT.nil)) (BT.node o11_pre (BT.node o41_3 BT.nil BT.nil) (BT.node o57_4 BT.nil BT.nil))) (BT.node o13_pre (BT.node o21_3 (BT.node o12_pre BT.nil BT.nil) (BT.node o53_3 BT.nil BT.nil)) (BT.node o11_pre (BT.node o45_3 BT.nil BT.nil) (BT.node o11_pre BT.nil BT.nil))))) (BT.node (boot_o_2 P) (BT.node (boot_o_4 P) (BT.node (boot_o_8 P) (BT.node o16_3 (BT.node o11_pre (BT.node (tab el4 256 0) BT.nil BT.nil) BT.nil) (BT.node o48_3 BT.nil BT.nil)) (BT.node o24_3 (BT.node o40_3 BT.nil BT.nil) (BT.node o56_3 BT.nil BT.nil))) (BT.node o12_3 (BT.node o20_3 (BT.node o11_pre BT.nil BT.nil) (BT.node o52_3 BT.nil BT.nil)) (BT.node o28_3 (BT.node o12_pre BT.nil BT.nil) (BT.node o60_4 BT.nil BT.nil)))) (BT.node (boot_o_6 P) (BT.node (boot_o_10 P) (BT.node o11_pre (BT.node o34_3 (BT.node (tab el4 256 0) BT.nil BT.nil) BT.nil) (BT.node o50_3 BT.nil BT.nil)) (BT.node o26_3 (BT.node o42_3 BT.nil BT.nil) (BT.node o58_4 BT.nil BT.nil))) (BT.node o14_pre (BT.node o11_pre (BT.node o38_3 BT.nil BT.nil) (BT.node o54_3 BT.nil BT.nil)) (BT.node o12_pre (BT.node o11_pre BT.nil BT.nil) (BT.node o62_4 BT.nil BT.nil))))))
noncomputable def h13 (P : Params) (j : Nat) : BT := (BT.node (boot_o_0 P) (BT.node (boot_o_1 P) (BT.node (d13 P (Value.int (Int.ofNat (b13.getD (j - 1) 0)) (1300 + 3 * j))) (BT.node (boot_o_7 P) (BT.node o11_pre (BT.node o31_3 (BT.node o63_12 BT.nil BT.nil) BT.nil) (BT.node o47_3 BT.nil BT.nil)) (BT.node o12_pre (BT.node o11_pre BT.nil BT.nil) (BT.node o55_3 BT.nil BT.nil))) (BT.node o11_pre (BT.node o19_3 (BT.node o35_3 (BT.node (bIt b13 1302 j) BT.nil BT.nil) BT.nil) (BT.node (o51_3 P) BT.nil BT.nil)) (BT.node o27_3 (BT.node o11_pre BT.nil BT.nil) (BT.node (tab el4 256 256) BT.nil BT.nil)))) (BT.node (boot_o_5 P) (BT.node (boot_o_9 P) (BT.node (o17_3 P) (BT.node o33_3 (BT.node o63_12 BT.nil BT.nil) BT.nil) (BT.node o49_3 BT.nil BT.nil)) (BT.node o11_pre (BT.node o41_3 BT.nil BT.nil) (BT.node o57_4 BT.nil BT.nil))) (BT.node o13_pre (BT.node o21_3 (BT.node o12_pre BT.nil BT.nil) (BT.node o53_3 BT.nil BT.nil)) (BT.node o11_pre (BT.node o45_3 BT.nil BT.nil) (BT.node o11_pre BT.nil BT.nil))))) (BT.node (boot_o_2 P) (BT.node (boot_o_4 P) (BT.node (boot_o_8 P) (BT.node o16_3 (BT.node o11_pre (BT.node (tab (el13 j) 256 0) BT.nil BT.nil) BT.nil) (BT.node o48_3 BT.nil BT.nil)) (BT.node o24_3 (BT.node o40_3 BT.nil BT.nil) (BT.node o56_3 BT.nil BT.nil))) (BT.node o12_3 (BT.node o20_3 (BT.node o11_pre BT.nil BT.nil) (BT.node o52_3 BT.nil BT.nil)) (BT.node o28_3 (BT.node o12_pre BT.nil BT.nil) (BT.node o60_4 BT.nil BT.nil)))) (BT.node (boot_o_6 P) (BT.node (boot_o_10 P) (BT.node o11_pre (BT.node o34_3 (BT.node (tab el4 256 0) BT.nil BT.nil) BT.nil) (BT.node o50_3 BT.nil BT.nil)) (BT.node o26_3 (BT.node o42_3 BT.nil BT.nil) (BT.node o58_4 BT.nil BT.nil))) (BT.node o14_pre (BT.node o11_pre (BT.node o38_3 BT.nil BT.nil) (BT.node o54_3 BT.nil BT.nil)) (BT.node o12_pre (BT.node o11_pre BT.nil BT.nil) (BT.node o62_4 BT.nil BT.nil))))))
noncomputable def h15a (P : Params) : BT := (BT.node (boot_o_0 P) (BT.node (boot_o_1 P) (BT.node (d13 P (Value.int 57 1501)) (BT.node (boot_o_7 P) (BT.node o11_pre (BT.node o31_3 (BT.node o63_12 BT.nil BT.nil) BT.nil) (BT.node o47_3 BT.nil BT.nil)) (BT.node o12_pre (BT.node o11_pre BT.nil BT.nil) (BT.node o55_3 BT.nil BT.nil))) (BT.node o11_pre (BT.node o19_3 (BT.node o35_3 (BT.node o67_13 BT.nil BT.nil) BT.nil) (BT.node (o51_3 P) BT.nil BT.nil)) (BT.node o27_3 (BT.node o11_pre BT.nil BT.nil) (BT.node (tab el4 256 256) BT.nil BT.nil)))) (BT.node (boot_o_5 P) (BT.node (boot_o_9 P) (BT.node (o17_3 P) (BT.node o33_3 (BT.node o63_12 BT.nil BT.nil) BT.nil) (BT.node o49_3 BT.nil BT.nil)) (BT.node o11_pre (BT.node o41_3 BT.nil BT.nil) (BT.node o57_4 BT.nil BT.nil))) (BT.node o13_pre (BT.node o21_3 (BT.node o12_pre (BT.node o69_13 BT.nil BT.nil) BT.nil) (BT.node o53_3 BT.nil BT.nil)) (BT.node o11_pre (BT.node o45_3 BT.nil BT.nil) (BT.node o11_pre BT.nil BT.nil))))) (BT.node (boot_o_2 P) (BT.node (boot_o_4 P) (BT.node (boot_o_8 P) (BT.node o16_3 (BT.node o11_pre (BT.node (tab el14 256 0) BT.nil BT.nil) BT.nil) (BT.node o48_3 BT.nil BT.nil)) (BT.node o24_3 (BT.node o40_3 BT.nil BT.nil) (BT.node o56_3 BT.nil BT.nil))) (BT.node o12_3 (BT.node o20_3 (BT.node o11_pre (BT.node o11_pre BT.nil BT.nil) BT.nil) (BT.node o52_3 BT.nil BT.nil)) (BT.node o28_3 (BT.node o12_pre BT.nil BT.nil) (BT.node o60_4 BT.nil BT.nil)))) (BT.node (boot_o_6 P) (BT.node (boot_o_10 P) (BT.node o11_pre (BT.node o34_3 (BT.node (tab el4 256 0) BT.nil BT.nil) BT.nil) (BT.node o50_3 BT.nil BT.nil)) (BT.node o26_3 (BT.node o42_3 BT.nil BT.nil) (BT.node o58_4 BT.nil BT.nil))) (BT.node o14_pre (BT.node o11_pre (BT.node o38_3 (BT.node (bIt b15 1507 0) BT.nil BT.nil) BT.nil) (BT.node o54_3 BT.nil BT.nil)) (BT.node o12_pre (BT.node o11_pre BT.nil BT.nil) (BT.node o62_4 BT.nil BT.nil))))))
noncomputable def h15 (P : Params) (j : Nat) : BT := (BT.node (boot_o_0 P) (BT.node (boot_o_1 P) (BT.node (d13 P (Value.int (Int.ofNat (b15.getD (j - 1) 0)) (1505 + 3 * j))) (BT.node (boot_o_7 P) (BT.node o11_pre (BT.node o31_3 (BT.node o63_12 BT.nil BT.nil) BT.nil) (BT.node o47_3 BT.nil BT.nil)) (BT.node o12_pre (BT.node o11_pre BT.nil BT.nil) (BT.node o55_3 BT.nil BT.nil))) (BT.node o11_pre (BT.node o19_3 (BT.node o35_3 (BT.node o67_13 BT.nil BT.nil) BT.nil) (BT.node (o51_3 P) BT.nil BT.nil)) (BT.node o27_3 (BT.node o11_pre BT.nil BT.nil) (BT.node (tab el4 256 256) BT.nil BT.nil)))) (BT.node (boot_o_5 P) (BT.node (boot_o_9 P) (BT.node (o17_3 P) (BT.node o33_3 (BT.node o63_12 BT.nil BT.nil) BT.nil) (BT.node o49_3 BT.nil BT.nil)) (BT.node o11_pre (BT.node o41_3 BT.nil BT.nil) (BT.node o57_4 BT.nil BT.nil))) (BT.node o13_pre (BT.node o21_3 (BT.node o12_pre (BT.node o69_13 BT.nil BT.nil) BT.nil) (BT.node o53_3 BT.nil BT.nil)) (BT.node o11_pre (BT.node o45_3 BT.nil BT.nil) (BT.node o11_pre BT.nil BT.nil))))) (BT.node (boot_o_2 P) (BT.node (boot_o_4 P) (BT.node (boot_o_8 P) (BT.node o16_3 (BT.node o11_pre (BT.node (tab el14 256 0) BT.nil BT.nil) BT.nil) (BT.node o48_3 BT.nil BT.nil)) (BT.node o24_3 (BT.node o40_3 BT.nil BT.nil) (BT.node o56_3 BT.nil BT.nil))) (BT.node o12_3 (BT.node o20_3 (BT.node o11_pre (BT.node o11_pre BT.nil BT.nil) BT.nil) (BT.node o52_3 BT.nil BT.nil)) (BT.node o28_3 (BT.node o12_pre BT.nil BT.nil) (BT.node o60_4 BT.nil BT.nil)))) (BT.node (boot_o_6 P) (BT.node (boot_o_10 P) (BT.node o11_pre (BT.node o34_3 (BT.node (tab (el15 j) 256 0) BT.nil BT.nil) BT.nil) (BT.node o50_3 BT.nil BT.nil)) (BT.node o26_3 (BT.node o42_3 BT.nil BT.nil) (BT.node o58_4 BT.nil BT.nil))) (BT.node o14_pre (BT.node o11_pre (BT.node o38_3 (BT.node (bIt b15 1507 j) BT.nil BT.nil) BT.nil) (BT.node o54_3 BT.nil BT.nil)) (BT.node o12_pre (BT.node o11_pre BT.nil BT.nil) (BT.node o62_4 BT.nil BT.nil))))))
noncomputable def h19a (P : Params) : BT := (BT.node (boot_o_0 P) (BT.node (boot_o_1 P) (BT.node (d18 P (Value.int 9 1790)) (BT.node (boot_o_7 P) (BT.node o11_pre (BT.node o31_3 (BT.node o63_12 BT.nil BT.nil) BT.nil) (BT.node o47_3 (BT.node o79_18 BT.nil BT.nil) BT.nil)) (BT.node o12_pre (BT.node o11_pre (BT.node o11_pre BT.nil BT.nil) BT.nil) (BT.node o55_3 (BT.node o63_12 BT.nil BT.nil) BT.nil))) (BT.node o11_pre (BT.node o19_3 (BT.node o35_3 (BT.node o67_13 BT.nil BT.nil) BT.nil) (BT.node (o51_3 P) (BT.node o11_pre BT.nil BT.nil) BT.nil)) (BT.node o27_3 (BT.node o11_pre (BT.node o75_18 BT.nil BT.nil) BT.nil) (BT.node (tab el4 256 256) BT.nil BT.nil)))) (BT.node (boot_o_5 P) (BT.node (boot_o_9 P) (BT.node (o17_3 P) (BT.node o33_3 (BT.node o63_12 BT.nil BT.nil) BT.nil) (BT.node o49_3 (BT.node o12_pre BT.nil BT.nil) BT.nil)) (BT.node o11_pre (BT.node o41_3 (BT.node o11_pre BT.nil BT.nil) BT.nil) (BT.node o57_4 (BT.node (bIt [13, 10] 1808 0) BT.nil BT.nil) BT.nil))) (BT.node o13_pre (BT.node o21_3 (BT.node o12_pre (BT.node o69_13 BT.nil BT.nil) BT.nil) (BT.node o53_3 (BT.node o85_18 BT.nil BT.nil) BT.nil)) (BT.node o11_pre (BT.node o45_3 (BT.node o77_18 BT.nil BT.nil) BT.nil) (BT.node o11_pre BT.nil BT.nil))))) (BT.node (boot_o_2 P) (BT.node (boot_o_4 P) (BT.node (boot_o_8 P) (BT.node o16_3 (BT.node o11_pre (BT.node (tab el14 256 0) BT.nil BT.nil) BT.nil) (BT.node o48_3 (BT.node o11_pre BT.nil BT.nil) BT.nil)) (BT.node o24_3 (BT.node o40_3 (BT.node o72_15 BT.nil BT.nil) BT.nil) (BT.node o56_3 (BT.node (tab (el15 95) 256 0) BT.nil BT.nil) BT.nil))) (BT.node o12_18 (BT.node o20_3 (BT.node o11_pre (BT.node o11_pre BT.nil BT.nil) BT.nil) (BT.node o52_3 (BT.node o84_18 BT.nil BT.nil) BT.nil)) (BT.node o28_3 (BT.node o12_pre (BT.node o11_pre BT.nil BT.nil) BT.nil) (BT.node o60_4 BT.nil BT.nil)))) (BT.node (boot_o_6 P) (BT.node (boot_o_10 P) (BT.node o11_pre (BT.node o34_3 (BT.node (tab (el15 95) 256 0) BT.nil BT.nil) BT.nil) (BT.node o50_3 (BT.node o82_18 BT.nil BT.nil) BT.nil)) (BT.node o26_3 (BT.node o42_3 (BT.node o12_pre BT.nil BT.nil) BT.nil) (BT.node o58_4 BT.nil BT.nil))) (BT.node o14_pre (BT.node o11_pre (BT.node o38_3 (BT.node o70_15 BT.nil BT.nil) BT.nil) (BT.node o54_3 (BT.node o86_18 BT.nil BT.nil) BT.nil)) (BT.node o12_pre (BT.node o11_pre (BT.node o78_18 BT.nil BT.nil) BT.nil) (BT.node o62_4 BT.nil BT.nil))))))
noncomputable def heap27 (P : Params) : Heap := ⟨#[(boot_o_0 P), (boot_o_1 P), (boot_o_2 P), (o3_27 P), (boot_o_4 P), (boot_o_5 P), (boot_o_6 P), (boot_o_7 P), (boot_o_8 P), (boot_o_9 P), (boot_o_10 P), o11_pre, o12_27, o13_pre, o14_pre, o11_pre, o16_3, (o17_3 P), o11_pre, o19_3, o20_3, o21_3, o11_pre, o12_pre, o24_3, o11_pre, o26_3, o27_3, o28_3, o11_pre, o12_pre, o31_3, o11_pre, o33_3, o34_3, o35_3, o11_pre, o12_pre, o38_3, o11_pre, o40_3, o41_3, o42_3, o11_pre, o12_pre, o45_3, o11_pre, o47_3, o48_3, o49_3, o50_3, (o51_3 P), o52_3, o53_3, o54_3, o55_3, o56_3, o57_4, o58_4, (tab el4 256 256), o60_4, o11_pre, o62_4, o63_12, (tab el14 256 0), o63_12, (tab (el15 95) 256 0), o67_13, o11_pre, o69_13, o70_15, o11_pre, o72_15, o11_pre, o12_pre, o75_18, o11_pre, o77_18, o78_18, o79_18, o11_pre, o12_pre, o82_18, o11_pre, o84_18, o85_18, o86_18, o63_12, (tab (el19 2) 256 0), o89_19, o11_pre, o91_19, o92_27, o11_pre, o12_pre, o95_27, o11_pre, o97_27, o98_27, o99_27, o100_27, o11_pre, o12_pre, o103_27, o11_pre, o105_27, o106_27, o107_27, o11_pre, o12_pre, o110_27, o111_27, o112_27, o113_27, o114_27, o11_pre, o12_pre, o117_27, o118_27, o119_27, o11_pre, o12_pre, o122_27, o11_pre, o124_27, o125_27, o126_27, o11_pre, o12_pre, o129_27, o130_27, o131_27], {}⟩
end
end Hd
end Mine

namespace Mine
namespace Hd
noncomputable section
/-! law 02's top, walked by the kernel: stretches of steps -/
noncomputable abbrev prg : Program := PySem.Challenge.pw_rs0124_02
noncomputable def env : Env := { scope := prg.main.scope, locals := mainNs, globals := mainNs, cells := [], code := .ref 13, frame := some 14 }
noncomputable def cB : Code := .body (behindTheImports prg) env
noncomputable def p0 : Pos := ⟨0, 0, 0, 0⟩
noncomputable abbrev stk : List Frame := [topFrame p0]
noncomputable abbrev an : Option Value := some (.ref 6)
noncomputable abbrev sh (t : BT) (n toks : Nat) (os : OsState) : SharedT := ⟨t, n, {}, #[], {}, toks, os⟩
noncomputable def rest (n : Nat) : List Stmt := (behindTheImports prg).drop n
noncomputable def some_ (a n : Nat) : List Stmt := ((behindTheImports prg).drop a).take n
noncomputable abbrev pcs (a n : Nat) (p : Pos) : Thread := piecesOf (some_ a n) env cB p stk
noncomputable abbrev GoT := Fast.tw10295753902157049106 Fast.tw14364793385576792824 prg
noncomputable abbrev RunT := Fast.tw10110043849684766642 Fast.tw14364793385576792824 prg
/-- from here to there in n steps -/
noncomputable def Go (w : World) (n : Nat) (s : SharedT) (t : Thread) (s' : SharedT) (t' : Thread) : Prop :=
  ∀ N r, segRun treeTable prg w 11 an 1 N s'.abs t' = some r → segRun treeTable prg w 11 an 1 (n + N) s.abs t = some r
theorem run_more {w : World} (k : Nat) : ∀ (n : Nat) (s : Shared) (t : Thread) (r : Flow × Shared × Code × Pos), segRun treeTable prg w 11 an 1 n s t = some r → segRun treeTable prg w 11 an 1 (n + k) s t = some r
  | 0, _, _, _, h => by simp [segRun] at h
  | n + 1, s, t, r, h => by
    rw [show n + 1 + k = n + k + 1 by omega]
    unfold segRun at h ⊢
    split at h
    · exact h
    · split at h
      · cases h
      · split at h
        · exact run_more k n _ _ _ h
        · cases h
theorem Go.of {w : World} {n : Nat} {s s' : SharedT} {t t' : Thread} (h : GoT w 11 an 1 n s t = some (s', t')) : Go w n s t s' t' := fun N r k => by
  refine seg_go (segGo_of ?_) k
  rw [Fast.te10295753902157049106, Fast.te14364793385576792824]
  exact h
theorem Go.trans {w : World} {n m : Nat} {s s' s'' : SharedT} {t t' t'' : Thread} (a : Go w n s t s' t') (b : Go w m s' t' s'' t'') : Go w (n + m) s t s'' t'' := fun N r k => by
  rw [Nat.add_assoc]; exact a _ _ (b _ _ k)
theorem Go.more {w : World} {n : Nat} {s s' : SharedT} {t t' : Thread} (k : Nat) (a : Go w n s t s' t') : Go w (n + k) s t s' t' := fun N r h => by
  rw [Nat.add_assoc, Nat.add_comm k N]; exact a _ _ (run_more k _ _ _ _ h)
/-- to the end of the piece -/
noncomputable def End (w : World) (n : Nat) (s : SharedT) (t : Thread) (s' : SharedT) (p : Pos) : Prop := segRun treeTable prg w 11 an 1 n s.abs t = some (.next, s'.abs, cB, p)
theorem End.of {w : World} {n : Nat} {s s' : SharedT} {t : Thread} {p : Pos} (h : RunT w 11 an 1 n s t = some (.next, s', cB, p)) : End w n s t s' p := by
  refine segRun_of ?_
  rw [Fast.te10110043849684766642, Fast.te14364793385576792824]
  exact h
theorem Go.end_ {w : World} {n m : Nat} {s s' s'' : SharedT} {t t' : Thread} {p : Pos} (a : Go w n s t s' t') (b : End w m s' t' s'' p) : End w (n + m) s t s'' p := a _ _ b
noncomputable def thOf : Option (SharedT × Thread) → Thread
  | some (_, t) => t
  | none => ⟨.pure (.done .next), cB, p0, []⟩
noncomputable abbrev it2 : String := "comprehension-iter-twice"
noncomputable abbrev spr : String := "special-get-raises"
noncomputable abbrev plain (w : World) : World := (w.withFollow it2 true).withFollow spr true
end
set_option maxHeartbeats 0
theorem e1 : ∀ w os, End w 351 (sh (tpre w.params) 15 187 os) (pcs 0 4 p0) (sh (t3 w.params) 57 251 os) ⟨46, 0, 46, 2⟩ := fun w os => End.of (by kernel_rfl)
end Hd
end Mine

namespace Mine
namespace Hd
/-! the comprehension of 256 texts, cut at its turns -/
noncomputable section
noncomputable abbrev q4 : Pos := ⟨46, 0, 46, 2⟩
noncomputable def th4 (w : World) (os : OsState) : Thread := thOf (GoT (plain w) 11 an 1 42 (sh (t3 (plain w).params) 57 251 os) (pcs 4 1 q4))
noncomputable def at_ (p : Pos) (t : Thread) : Thread := ⟨t.cur, t.code, p, t.stack⟩
noncomputable abbrev lp4 : Pos := ⟨47, 15, 47, 26⟩
noncomputable abbrev s4 (w : World) (os : OsState) (j : Nat) : SharedT := sh (h4 w.params j) 61 (254 + 4 * j) os
end
set_option maxHeartbeats 0
theorem in4 : ∀ w os, Go w 52 (sh (t3 w.params) 57 251 os) (pcs 4 1 q4) (s4 w os 0) (th4 w os) :=
  byRow2 it2 (byRow2 spr (fun w os => Go.of (by kernel_rfl)) (fun w os => Go.of (by kernel_rfl)))
    (byRow2 spr (fun w os => (Go.of (by kernel_rfl) : Go _ 42 _ _ _ _).more 10) (fun w os => (Go.of (by kernel_rfl) : Go _ 42 _ _ _ _).more 10))
theorem tn4_0 : ∀ w os, Go w 592 (s4 w os 0) (th4 w os) (s4 w os 16) (at_ lp4 (th4 w os)) := fun w os => Go.of (by kernel_rfl)
theorem tn4_1 : ∀ w os, Go w 592 (s4 w os 16) (at_ lp4 (th4 w os)) (s4 w os 32) (at_ lp4 (th4 w os)) := fun w os => Go.of (by kernel_rfl)
theorem tn4_2 : ∀ w os, Go w 592 (s4 w os 32) (at_ lp4 (th4 w os)) (s4 w os 48) (at_ lp4 (th4 w os)) := fun w os => Go.of (by kernel_rfl)
theorem tn4_3 : ∀ w os, Go w 592 (s4 w os 48) (at_ lp4 (th4 w os)) (s4 w os 64) (at_ lp4 (th4 w os)) := fun w os => Go.of (by kernel_rfl)
theorem tn4_4 : ∀ w os, Go w 592 (s4 w os 64) (at_ lp4 (th4 w os)) (s4 w os 80) (at_ lp4 (th4 w os)) := fun w os => Go.of (by kernel_rfl)
theorem tn4_5 : ∀ w os, Go w 592 (s4 w os 80) (at_ lp4 (th4 w os)) (s4 w os 96) (at_ lp4 (th4 w os)) := fun w os => Go.of (by kernel_rfl)
theorem tn4_6 : ∀ w os, Go w 592 (s4 w os 96) (at_ lp4 (th4 w os)) (s4 w os 112) (at_ lp4 (th4 w os)) := fun w os => Go.of (by kernel_rfl)
theorem tn4_7 : ∀ w os, Go w 592 (s4 w os 112) (at_ lp4 (th4 w os)) (s4 w os 128) (at_ lp4 (th4 w os)) := fun w os => Go.of (by kernel_rfl)
theorem tn4_8 : ∀ w os, Go w 592 (s4 w os 128) (at_ lp4 (th4 w os)) (s4 w os 144) (at_ lp4 (th4 w os)) := fun w os => Go.of (by kernel_rfl)
theorem tn4_9 : ∀ w os, Go w 592 (s4 w os 144) (at_ lp4 (th4 w os)) (s4 w os 160) (at_ lp4 (th4 w os)) := fun w os => Go.of (by kernel_rfl)
theorem tn4_10 : ∀ w os, Go w 592 (s4 w os 160) (at_ lp4 (th4 w os)) (s4 w os 176) (at_ lp4 (th4 w os)) := fun w os => Go.of (by kernel_rfl)
theorem tn4_11 : ∀ w os, Go w 592 (s4 w os 176) (at_ lp4 (th4 w os)) (s4 w os 192) (at_ lp4 (th4 w os)) := fun w os => Go.of (by kernel_rfl)
theorem tn4_12 : ∀ w os, Go w 592 (s4 w os 192) (at_ lp4 (th4 w os)) (s4 w os 208) (at_ lp4 (th4 w os)) := fun w os => Go.of (by kernel_rfl)
theorem tn4_13 : ∀ w os, Go w 592 (s4 w os 208) (at_ lp4 (th4 w os)) (s4 w os 224) (at_ lp4 (th4 w os)) := fun w os => Go.of (by kernel_rfl)
theorem tn4_14 : ∀ w os, Go w 592 (s4 w os 224) (at_ lp4 (th4 w os)) (s4 w os 240) (at_ lp4 (th4 w os)) := fun w os => Go.of (by kernel_rfl)
theorem tn4_15 : ∀ w os, Go w 592 (s4 w os 240) (at_ lp4 (th4 w os)) (s4 w os 256) (at_ lp4 (th4 w os)) := fun w os => Go.of (by kernel_rfl)
theorem out4 : ∀ w os, End w 28 (s4 w os 256) (at_ lp4 (th4 w os)) (sh (t4 w.params) 63 1279 os) ⟨47, 0, 47, 11⟩ := fun w os => End.of (by kernel_rfl)
theorem e4 : ∀ w os, End w (52 + (592 + (592 + (592 + (592 + (592 + (592 + (592 + (592 + (592 + (592 + (592 + (592 + (592 + (592 + (592 + (592 + (28)))))))))))))))))) (sh (t3 w.params) 57 251 os) (pcs 4 1 q4) (sh (t4 w.params) 63 1279 os) ⟨47, 0, 47, 11⟩ := fun w os => (in4 w os).end_ ((tn4_0 w os).end_ ((tn4_1 w os).end_ ((tn4_2 w os).end_ ((tn4_3 w os).end_ ((tn4_4 w os).end_ ((tn4_5 w os).end_ ((tn4_6 w os).end_ ((tn4_7 w os).end_ ((tn4_8 w os).end_ ((tn4_9 w os).end_ ((tn4_10 w os).end_ ((tn4_11 w os).end_ ((tn4_12 w os).end_ ((tn4_13 w os).end_ ((tn4_14 w os).end_ ((tn4_15 w os).end_ (out4 w os)))))))))))))))))
end Hd
end Mine

namespace Mine
namespace Hd
/-! the rest of the top: the three loops and what stands between them -/
noncomputable section
noncomputable abbrev q12 : Pos := ⟨55, 0, 55, 8⟩
noncomputable abbrev q13 : Pos := ⟨56, 9, 56, 74⟩
noncomputable abbrev q15 : Pos := ⟨59, 9, 59, 110⟩
noncomputable abbrev q19 : Pos := ⟨66, 9, 66, 16⟩
noncomputable abbrev lp13 : Pos := ⟨57, 4, 57, 25⟩
noncomputable abbrev lp15 : Pos := ⟨60, 4, 60, 23⟩
noncomputable abbrev lp19 : Pos := ⟨67, 4, 67, 30⟩
noncomputable def th13 (w : World) (os : OsState) : Thread := thOf (GoT (plain w) 11 an 1 44 (sh (t12 (plain w).params) 67 1296 os) (pcs 13 1 q12))
noncomputable def th15 (w : World) (os : OsState) : Thread := thOf (GoT (plain w) 11 an 1 34 (sh (t13 (plain w).params) 70 1504 os) (pcs 14 2 q13))
noncomputable def th19 (w : World) (os : OsState) : Thread := thOf (GoT (plain w) 11 an 1 95 (sh (t15 (plain w).params) 73 1793 os) (pcs 16 4 q15))
noncomputable abbrev s13 (w : World) (os : OsState) (j : Nat) : SharedT := sh (h13 w.params j) 68 (1303 + 3 * j) os
noncomputable abbrev s15 (w : World) (os : OsState) (j : Nat) : SharedT := sh (h15 w.params j) 71 (1508 + 3 * j) os
end
set_option maxHeartbeats 0
theorem e12 : ∀ w os, End w 133 (sh (t4 w.params) 63 1279 os) (pcs 5 8 ⟨47, 0, 47, 11⟩) (sh (t12 w.params) 67 1296 os) q12 := fun w os => End.of (by kernel_rfl)
theorem in13 : ∀ w os, Go w 44 (sh (t12 w.params) 67 1296 os) (pcs 13 1 q12) (sh (h13a w.params) 68 1303 os) (th13 w os) :=
  byRow2 spr (fun w os => Go.of (by kernel_rfl)) (fun w os => Go.of (by kernel_rfl))
theorem tn13_0 : ∀ w os, Go w 765 (sh (h13a w.params) 68 1303 os) (th13 w os) (s13 w os 17) (at_ lp13 (th13 w os)) := fun w os => Go.of (by kernel_rfl)
theorem tn13_1 : ∀ w os, Go w 765 (s13 w os 17) (at_ lp13 (th13 w os)) (s13 w os 34) (at_ lp13 (th13 w os)) := fun w os => Go.of (by kernel_rfl)
theorem tn13_2 : ∀ w os, Go w 765 (s13 w os 34) (at_ lp13 (th13 w os)) (s13 w os 51) (at_ lp13 (th13 w os)) := fun w os => Go.of (by kernel_rfl)
theorem tn13_3 : ∀ w os, Go w 720 (s13 w os 51) (at_ lp13 (th13 w os)) (s13 w os 67) (at_ lp13 (th13 w os)) := fun w os => Go.of (by kernel_rfl)
theorem out13 : ∀ w os, End w 18 (s13 w os 67) (at_ lp13 (th13 w os)) (sh (t13 w.params) 70 1504 os) q13 := fun w os => End.of (by kernel_rfl)
theorem e13 : ∀ w os, End w (44 + (765 + (765 + (765 + (720 + (18)))))) (sh (t12 w.params) 67 1296 os) (pcs 13 1 q12) (sh (t13 w.params) 70 1504 os) q13 := fun w os => (in13 w os).end_ ((tn13_0 w os).end_ ((tn13_1 w os).end_ ((tn13_2 w os).end_ ((tn13_3 w os).end_ (out13 w os)))))
theorem in15 : ∀ w os, Go w 34 (sh (t13 w.params) 70 1504 os) (pcs 14 2 q13) (sh (h15a w.params) 71 1508 os) (th15 w os) :=
  byRow2 spr (fun w os => Go.of (by kernel_rfl)) (fun w os => Go.of (by kernel_rfl))
theorem tn15_0 : ∀ w os, Go w 720 (sh (h15a w.params) 71 1508 os) (th15 w os) (s15 w os 16) (at_ lp15 (th15 w os)) := fun w os => Go.of (by kernel_rfl)
theorem tn15_1 : ∀ w os, Go w 720 (s15 w os 16) (at_ lp15 (th15 w os)) (s15 w os 32) (at_ lp15 (th15 w os)) := fun w os => Go.of (by kernel_rfl)
theorem tn15_2 : ∀ w os, Go w 720 (s15 w os 32) (at_ lp15 (th15 w os)) (s15 w os 48) (at_ lp15 (th15 w os)) := fun w os => Go.of (by kernel_rfl)
theorem tn15_3 : ∀ w os, Go w 720 (s15 w os 48) (at_ lp15 (th15 w os)) (s15 w os 64) (at_ lp15 (th15 w os)) := fun w os => Go.of (by kernel_rfl)
theorem tn15_4 : ∀ w os, Go w 720 (s15 w os 64) (at_ lp15 (th15 w os)) (s15 w os 80) (at_ lp15 (th15 w os)) := fun w os => Go.of (by kernel_rfl)
theorem tn15_5 : ∀ w os, Go w 675 (s15 w os 80) (at_ lp15 (th15 w os)) (s15 w os 95) (at_ lp15 (th15 w os)) := fun w os => Go.of (by kernel_rfl)
theorem out15 : ∀ w os, End w 18 (s15 w os 95) (at_ lp15 (th15 w os)) (sh (t15 w.params) 73 1793 os) q15 := fun w os => End.of (by kernel_rfl)
theorem e15 : ∀ w os, End w (34 + (720 + (720 + (720 + (720 + (720 + (675 + (18)))))))) (sh (t13 w.params) 70 1504 os) (pcs 14 2 q13) (sh (t15 w.params) 73 1793 os) q15 := fun w os => (in15 w os).end_ ((tn15_0 w os).end_ ((tn15_1 w os).end_ ((tn15_2 w os).end_ ((tn15_3 w os).end_ ((tn15_4 w os).end_ ((tn15_5 w os).end_ (out15 w os)))))))
theorem in19 : ∀ w os, Go w 95 (sh (t15 w.params) 73 1793 os) (pcs 16 4 q15) (sh (h19a w.params) 90 1809 os) (th19 w os) :=
  byRow2 spr (fun w os => Go.of (by kernel_rfl)) (fun w os => Go.of (by kernel_rfl))
theorem out19 : ∀ w os, End w 108 (sh (h19a w.params) 90 1809 os) (th19 w os) (sh (t19 w.params) 92 1815 os) q19 := fun w os => End.of (by kernel_rfl)
theorem e19 : ∀ w os, End w (95 + 108) (sh (t15 w.params) 73 1793 os) (pcs 16 4 q15) (sh (t19 w.params) 92 1815 os) q19 := fun w os => (in19 w os).end_ (out19 w os)
theorem e27 : ∀ w os, End w 251 (sh (t19 w.params) 92 1815 os) (pcs 20 8 q19) (sh (t27 w.params) 132 1888 os) ⟨163, 0, 197, 75⟩ := fun w os => End.of (by kernel_rfl)
end Hd
end Mine

namespace Mine
namespace Hd
/-! the head: the whole top, and what the law finds behind it -/
noncomputable section
open L2 in
noncomputable def myK (P : Params) : Frag := [(2, (boot_o_2 P)), (3, (o3_27 P)), (27, o27_3), (28, o28_3), (34, o34_3), (35, o35_3), (41, o41_3), (42, o42_3), (48, o48_3), (49, o49_3), (51, (o51_3 P)), (52, o52_3), (53, o53_3), (54, o54_3), (59, (tab el4 256 256)), (78, o78_18), (79, o79_18), (85, o85_18), (86, o86_18), (88, (tab (el19 2) 256 0)), (92, o92_27), (98, o98_27), (99, o99_27), (100, o100_27), (106, o106_27), (107, o107_27), (113, o113_27), (114, o114_27), (118, o118_27), (119, o119_27), (125, o125_27), (126, o126_27), (130, o130_27), (131, o131_27)]
noncomputable abbrev ads : List Addr := [2, 3, 27, 28, 34, 35, 41, 42, 48, 49, 51, 52, 53, 54, 59, 78, 79, 85, 86, 88, 92, 98, 99, 100, 106, 107, 113, 114, 118, 119, 125, 126, 130, 131]
noncomputable def at_n (n : Nat) : Stmt := ((behindTheImports prg)[n]?).getD (.Pass p0)
noncomputable def view : Program := { prg with main := { prg.main with body := [at_n 1, at_n 2, at_n 3, at_n 4, at_n 5, at_n 6, at_n 7, at_n 8, at_n 9, at_n 10, at_n 11, at_n 16, at_n 17, at_n 18, at_n 24, at_n 25, at_n 26, at_n 27] } }
noncomputable abbrev loose : List Str := [Str.ofString "_QUOPRI_MAP", Str.ofString "_QUOPRI_HEADER_MAP", Str.ofString "_QUOPRI_BODY_MAP", Str.ofString "ascii_letters", Str.ofString "hexdigits", Str.ofString "_QUOPRI_BODY_ENCODE_MAP", Str.ofString "body_encode", Str.ofString "decode"]
noncomputable abbrev lv : List (Str × WData) := [(Str.ofString "ascii_letters", WData.str (S [97, 98, 99, 100, 101, 102, 103, 104, 105, 106, 107, 108, 109, 110, 111, 112, 113, 114, 115, 116, 117, 118, 119, 120, 121, 122, 65, 66, 67, 68, 69, 70, 71, 72, 73, 74, 75, 76, 77, 78, 79, 80, 81, 82, 83, 84, 85, 86, 87, 88, 89, 90])), (Str.ofString "hexdigits", WData.str (S [48, 49, 50, 51, 52, 53, 54, 55, 56, 57, 97, 98, 99, 100, 101, 102, 65, 66, 67, 68, 69, 70]))]
end
set_option maxHeartbeats 0
theorem adsK : ∀ P, ads = (myK P).map (·.1) := fun _ => by kernel_rfl
noncomputable abbrev hk : Hook := kmHook myK ads adsK [109]
theorem pre : ∀ w os, topGo treeTable prg w 11 an 12 ⟨boot_heap w.params, Array.mk [], boot_drawn, boot_toks, os⟩ (topStub prg) = some ((sh (tpre w.params) 15 187 os).abs, ⟨denote treeTable cB, cB, p0, stk⟩) := fun w os => by kernel_rfl
theorem blk : ∀ w os, segRun treeTable prg w 11 an 1 1 (sh (tpre w.params) 15 187 os).abs (blockOf (behindTheImports prg) env cB p0 stk) = some (.next, (sh (tpre w.params) 15 187 os).abs, cB, p0) := fun w os => by kernel_rfl
theorem fin : ∀ w os, topRun treeTable prg w 11 an 4 (sh (t27 w.params) 132 1888 os).abs ⟨doneF .next, cB, ⟨163, 0, 197, 75⟩, stk⟩ = some ⟨heap27 w.params, Array.mk [], {}, 1888, os⟩ := fun w os => by kernel_rfl
theorem split_ : behindTheImports prg = some_ 0 4 ++ (some_ 4 1 ++ (some_ 5 8 ++ (some_ 13 1 ++ (some_ 14 2 ++ (some_ 16 4 ++ (some_ 20 8 ++ [])))))) := by kernel_rfl
theorem run27 : ∀ w os, topRun treeTable prg w 11 an (12 + (1 + ((351) + ((52 + (592 + (592 + (592 + (592 + (592 + (592 + (592 + (592 + (592 + (592 + (592 + (592 + (592 + (592 + (592 + (592 + (28)))))))))))))))))) + ((133) + ((44 + (765 + (765 + (765 + (720 + (18)))))) + ((34 + (720 + (720 + (720 + (720 + (720 + (675 + (18)))))))) + ((95 + 108) + ((251) + (4)))))))))) ⟨boot_heap w.params, Array.mk [], boot_drawn, boot_toks, os⟩ (topStub prg) = some ⟨heap27 w.params, Array.mk [], {}, 1888, os⟩ := fun w os => by
  refine go_top (pre w os) (piece_block (env := env) (blk w os) ?_)
  have e := congrArg (fun l => restOf l env cB p0 [topFrame p0]) split_
  rw [e]
  exact piece_app (e1 w os) (piece_app (e4 w os) (piece_app (e12 w os) (piece_app (e13 w os) (piece_app (e15 w os) (piece_app (e19 w os) (piece_app (e27 w os) (piece_nil (fin w os))))))))
theorem size_ : ∀ w : World, ((boot_heap w.params).isNs mainGlobals && (Array.mk [] : Array GenState).size == 0, (boot_heap w.params).objs.size, (boot_heap w.params).nsMap mainGlobals "__annotations__") = (true, 11, an) := fun w => by kernel_rfl
theorem open0 : ∀ w : World, importEnds treeTable (opening prg) w 600 (start (opening prg)).1 (start (opening prg)).2 = some ⟨boot_heap w.params, Array.mk [], boot_drawn, boot_toks, (start (opening prg)).1.os⟩ := fun w => by kernel_rfl
theorem open_ : ∀ w : World, (fencedOpening treeTable prg w 35840).map (fun s => (s.heap, s.gens, s.drawn, s.toks)) = some (boot_heap w.params, Array.mk [], boot_drawn, boot_toks) := open_cut open0 (by kernel_rfl) (fun w => by kernel_rfl)
theorem looks : ∀ w : World, (fun os => ((staticsOk (importedModules prg.main.body) (boot_heap w.params) (heap27 w.params) && namesBound prg (heap27 w.params) && gensDone ⟨heap27 w.params, Array.mk [], {}, 1888, os⟩ && laidKept (boot_heap w.params) (heap27 w.params)),
    openSeen view loose (importedModules prg.main.body) (fun s => xlAt view lv s && recOk (RowW.records Challenge.rw_rs0124_02.row.toRowW) s) true ⟨heap27 w.params, Array.mk [], {}, 1888, os⟩, hk.obs ⟨heap27 w.params, Array.mk [], {}, 1888, os⟩)) = fun _ => (true, openGood view loose, hk.val w) := fun w => by kernel_rfl
theorem left_ : LeftO Challenge.rw_rs0124_02.row.prog view loose (fun s => xlAt view lv s && recOk (RowW.records Challenge.rw_rs0124_02.row.toRowW) s) hk.obs hk.val 35840 := LeftO.of_pieces open_ size_ run27 (by kernel_rfl) looks
end Hd
end Mine

namespace Mine
theorem Hd.kf (w : World) : L2.KF (Hd.myK w.params) :=
  { isg := by kernel_rfl, bi := by kernel_rfl, gl := by kernel_rfl, hex := by kernel_rfl, crlf := by kernel_rfl, law := by kernel_rfl, iter := by kernel_rfl, len := by kernel_rfl,
      dDec := ⟨_, rfl⟩, dEnc := ⟨_, _, rfl⟩, tEnc := ⟨_, _, rfl, by kernel_rfl⟩, tQuo := ⟨_, _, rfl, by kernel_rfl⟩, kT := by kernel_rfl,
      init := ⟨by kernel_rfl, rfl, by kernel_rfl⟩, read := ⟨by kernel_rfl, rfl, by kernel_rfl⟩, get := ⟨by kernel_rfl, rfl, by kernel_rfl⟩, push := ⟨by kernel_rfl, rfl, by kernel_rfl⟩,
      unq := ⟨by kernel_rfl, rfl, by kernel_rfl⟩, quo := ⟨by kernel_rfl, rfl, by kernel_rfl⟩, enc := ⟨by kernel_rfl, rfl, by kernel_rfl⟩, dec := ⟨by kernel_rfl, rfl, by kernel_rfl⟩,
      lex := ⟨by kernel_rfl, rfl, by kernel_rfl⟩, pil := ⟨by kernel_rfl, rfl, by kernel_rfl⟩, tur := ⟨by kernel_rfl, rfl, by kernel_rfl⟩, lawf := ⟨by kernel_rfl, rfl, by kernel_rfl⟩,
      cd := by kernel_rfl, cs := by kernel_rfl, co := by kernel_rfl, attrs := by kernel_rfl, meths := by kernel_rfl, made := by kernel_rfl, keep := by kernel_rfl, mInit := by kernel_rfl, iInit := by kernel_rfl, hd := by kernel_rfl }
end Mine
set_option maxRecDepth 100000 in
set_option maxHeartbeats 0 in
theorem PySem.Challenge.cw_rs0124_02_holds : PySem.Challenge.rw_rs0124_02.Holds := by
  refine holds_law (by kernel_rfl) fun said => ?_
  refine holds_open (q := Mine.Hd.view) (loose := Mine.Hd.loose) (Xt := fun s => xlAt Mine.Hd.view Mine.Hd.lv s && recOk (RowW.records PySem.Challenge.rw_rs0124_02.row.toRowW) s) (XP := XL Mine.Hd.view Mine.Hd.lv) (Yf := Hook.obs Mine.Hd.hk) (Ya := Hook.val Mine.Hd.hk) (YP := Hook.says Mine.Hd.hk) (N := 35840) Mine.Hd.left_ (Hook.of Mine.Hd.hk) (Hook.keeps Mine.Hd.hk) (fun s e => xl_of s (Bool.and_eq_true_iff.mp e).1) XL.keeps (by rfl) (by rfl) (by rfl) (fun s e => recFacts_of (Bool.and_eq_true_iff.mp e).2) (by rfl) (by first | assumption | decide +kernel) (by decide +kernel) ⟨rfl, rfl, rfl, rfl, rfl, by decide +kernel⟩ ?hw ?hc
  case hw => w_witness2
  intro w s₀ s₁ mg mb G Y fa o pm cd doc dV kV ho hd' hcd hD hmg hg args vals as hpre hlay hrd hwl hlo
  have KX := km_in_of Y
  have KT := km_tabs_of Y
  have hmg : mg (Str.ofString "law") = some (.ref fa) := hmg
  refine Ground.open G ?_
  intro T B D TE TW
  clear Y G B D TE TW hD hcd hd' ho
  wrow_args hpre hlay hrd hwl hlo
  rename_i ns _ _ _ _ _ _ _ lA vs _ hL _ _ _ hI _ hlen _
  have fin := Mine.L2.finish (prog := PySem.Challenge.rw_rs0124_02.row.prog) (w := w) T KX (Mine.Hd.kf w) (KT 109 (by simp)) hL hI (by omega) hmg
  refine wpAny_mono fin ?_ fun _ _ e => e.elim
  rintro v s' ⟨rfl, hold, hos, hgens⟩
  refine ⟨.inl ⟨_, .bool true, [], rfl, ?_, .bool _, ?_, ?_⟩, hold, hos, ?_⟩
  · intro cls
    first | rfl | wrow_none_raised | (trace_state; fail "raises")
  · first | rfl | wrow_post | (trace_state; fail "post")
  · exact fun _ => ⟨List.nodup_nil, fun a ha => nomatch ha⟩
  · exact AllBare.of_eq (hgens.trans hg)
