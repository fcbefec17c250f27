import PyProof.Rows.All
import Wide.All
import OpenK.AllK
import Wide.FinOn
import PySem.Challenge.RW_dm0137_01
set_option Elab.async false
set_option genSizeOf false
set_option genInjectivity false
/-! Fw1 -/
set_option autoImplicit false
set_option maxRecDepth 100000
set_option linter.unusedVariables false
namespace Mine
open PySem PySem.W PyProof.Rows

/-- the rest of the state stands -/
def Sm (s s' : Shared) : Prop := s'.os = s.os ∧ s'.gens = s.gens
theorem Sm.rfl {s : Shared} : Sm s s := ⟨Eq.refl _, Eq.refl _⟩
theorem Sm.trans {a b c : Shared} (x : Sm a b) (y : Sm b c) : Sm a c := ⟨y.1.trans x.1, y.2.trans x.2⟩

/-! the abstract values and heaps -/
inductive V where
  | none
  | bool (b : Bool)
  | int (i : Int)
  | str (s : Str)
  | ref (a : Addr)
  | val (v : Value)
  | tup (vs : List V)
  | rng (a b c : Int)

/-- objects that no step changes -/
def Imm (o : Obj) : Prop := (o.cls = .type "tuple" ∧ ∃ vs n, o.data = .seq vs n) ∨ (o.cls = .type "range" ∧ ∃ vs, o.data = .fields vs) ∨ ∃ fd, o.data = .func fd

mutual
inductive Rep (h : Heap) : Value → V → Prop
  | none : Rep h .none .none
  | bool (b : Bool) : Rep h (.bool b) (.bool b)
  | int (i : Int) (t : Tok) : Rep h (.int i t) (.int i)
  | str (s : Str) (t : Tok) : Rep h (.str s t) (.str s)
  | ref (a : Addr) : Rep h (.ref a) (.ref a)
  | val (v : Value) : Rep h v (.val v)
  | tup {a : Addr} {vs : List Value} {xs : List V} : IsTup h a vs.toArray → Reps h vs xs → Rep h (.ref a) (.tup xs)
  | rng {r : Addr} {a b c : Int} {t u v : Tok} : IsRange h r a b c t u v → Rep h (.ref r) (.rng a b c)
inductive Reps (h : Heap) : List Value → List V → Prop
  | nil : Reps h [] []
  | cons {v : Value} {x : V} {vs : List Value} {xs : List V} : Rep h v x → Reps h vs xs → Reps h (v :: vs) (x :: xs)
end

inductive AObj where
  | list (xs : List V)
  | flist (xs : List V)
  | iter (src : Addr) (i : Nat)

abbrev Hp := Addr → Option AObj

def upd (σ : Hp) (a : Addr) (o : AObj) : Hp := fun b => if b = a then some o else σ b
theorem upd_same (σ : Hp) (a : Addr) (o : AObj) : upd σ a o a = some o := if_pos rfl
theorem upd_ne (σ : Hp) {a b : Addr} (o : AObj) (h : b ≠ a) : upd σ a o b = σ b := if_neg h
theorem upd_upd (σ : Hp) (a : Addr) (o o' : AObj) : upd (upd σ a o) a o' = upd σ a o' := by
  funext b; unfold upd; split <;> rfl
theorem upd_comm (σ : Hp) {a b : Addr} (o o' : AObj) (h : a ≠ b) : upd (upd σ a o) b o' = upd (upd σ b o') a o := by
  funext c; unfold upd; by_cases h1 : c = b <;> by_cases h2 : c = a <;> simp_all
theorem ne_of_none {σ : Hp} {a b : Addr} {o : AObj} (h : σ a = none) (h' : σ b = some o) : b ≠ a := by
  rintro rfl; rw [h] at h'; cases h'
theorem upd_id {σ : Hp} {a : Addr} {o : AObj} (h : σ a = some o) : upd σ a o = σ := by
  funext b; unfold upd; split
  · rename_i e; rw [e, h]
  · rfl

def AObj.mut : AObj → Bool
  | .list _ => true
  | .flist _ => false
  | .iter _ _ => true

def LObj (vs : List Value) (n : Nat) : Obj := { cls := .type "list", dict := none, data := .seq vs.toArray n, slots := #[] }
def Holds (h : Heap) (a : Addr) : AObj → Prop
  | .list xs => ∃ (vs : List Value) (n : Nat), h.get? a = some (LObj vs n) ∧ Reps h vs xs
  | .flist xs => ∃ vs : List Value, h.IsList a vs.toArray ∧ Reps h vs xs
  | .iter l i => h.IsListIter a l i

def BIG : Nat := 1000000
def AObj.small : AObj → Prop
  | .list xs => xs.length ≤ BIG
  | .flist xs => xs.length ≤ BIG
  | .iter _ _ => True
def Mut (σ : Hp) (a : Addr) : Prop := ∃ o, σ a = some o ∧ o.mut = true

/-- the concrete heap bears the abstract one over the ground h₀ -/
structure W (h₀ : Heap) (σ : Hp) (h : Heap) : Prop where
  stays : ∀ b o, h₀.get? b = some o → h.get? b = some o
  holds : ∀ a o, σ a = some o → Holds h a o
  above : ∀ a, Mut σ a → h₀.get? a = none
  small : ∀ a o, σ a = some o → o.small

def Keep (σ : Hp) (h h' : Heap) : Prop := ∀ a o, ¬ Mut σ a → h.get? a = some o → h'.get? a = some o
def Grow (σ : Hp) (h : Heap) (σ' : Hp) : Prop := ∀ a, (Mut σ' a → Mut σ a ∨ h.get? a = none) ∧ (σ' a ≠ none → σ a ≠ none ∨ h.get? a = none)

theorem Keep.refl (σ : Hp) (h : Heap) : Keep σ h h := fun _ _ _ e => e
theorem Grow.refl (σ : Hp) (h : Heap) : Grow σ h σ := fun _ => ⟨.inl, .inl⟩
theorem Grow.not {σ σ' : Hp} {h : Heap} (g : Grow σ h σ') {a : Addr} {o : Obj} (e : h.get? a = some o) (n : ¬ Mut σ a) : ¬ Mut σ' a := fun m =>
  ((g a).1 m).elim n fun q => by rw [e] at q; cases q
theorem Grow.none {σ σ' : Hp} {h : Heap} (g : Grow σ h σ') {a : Addr} {o : Obj} (e : h.get? a = some o) (n : σ a = none) : σ' a = none := by
  cases q : σ' a with
  | none => rfl
  | some p => exact (((g a).2 (by rw [q]; simp)).elim (fun r => r n) fun r => by rw [e] at r; cases r).elim

theorem get_back {σ : Hp} {h h' : Heap} (k : Keep σ h h') {a : Addr} (n : ¬ Mut σ a) (e : h'.get? a = none) : h.get? a = none := by
  cases q : h.get? a with
  | none => rfl
  | some o => rw [k a o n q] at e; cases e

theorem holds_not_imm {h : Heap} {a : Addr} {o : AObj} {p : Obj} (x : Holds h a o) (e : h.get? a = some p) (i : Imm p) : False := by
  cases o with
  | list xs => obtain ⟨_, n, e2, _⟩ := x; rw [e] at e2; cases e2; rcases i with i | i | i <;> simp [LObj] at i
  | flist xs => obtain ⟨_, ⟨o2, e2, c2, n, d2⟩, _⟩ := x; rw [e] at e2; cases e2; rcases i with ⟨i, _⟩ | ⟨i, _⟩ | ⟨fd, i⟩ <;> simp_all
  | iter l i' => obtain ⟨o2, e2, c2, d2⟩ := x; rw [e] at e2; cases e2; rcases i with ⟨i, _⟩ | ⟨i, _⟩ | ⟨fd, i⟩ <;> simp_all

def Tups (h h' : Heap) : Prop := ∀ a o, h.get? a = some o → Imm o → h'.get? a = some o
theorem tup_keep {h₀ : Heap} {σ : Hp} {h h' : Heap} (w : W h₀ σ h) (k : Keep σ h h') : Tups h h' := fun a p e i =>
  k a p (fun ⟨o, q, _⟩ => holds_not_imm (w.holds a o q) e i) e
theorem Tups.tup {h h' : Heap} (k : Tups h h') {a : Addr} {vs : Array Value} (y : IsTup h a vs) : IsTup h' a vs := by
  obtain ⟨o1, e1, c, n, r⟩ := y; exact ⟨o1, k a o1 e1 (.inl ⟨c, _, _, r⟩), c, n, r⟩
mutual
theorem Rep.tups {h h' : Heap} (k : Tups h h') : ∀ {v : Value} {x : V}, Rep h v x → Rep h' v x
  | _, _, .none => .none
  | _, _, .bool b => .bool b
  | _, _, .int i t => .int i t
  | _, _, .str s t => .str s t
  | _, _, .ref a => .ref a
  | _, _, .val v => .val v
  | _, _, .tup y r => .tup (k.tup y) (Reps.tups k r)
  | _, _, .rng y => .rng (k _ _ y (.inr (.inl ⟨rfl, _, rfl⟩)))
theorem Reps.tups {h h' : Heap} (k : Tups h h') : ∀ {vs : List Value} {xs : List V}, Reps h vs xs → Reps h' vs xs
  | _, _, .nil => .nil
  | _, _, .cons r rs => .cons (Rep.tups k r) (Reps.tups k rs)
end

/-- a step of the run: what is not under σ and not one's own stays -/
structure StepX (own : Addr → Prop) (h₀ : Heap) (σ : Hp) (h : Heap) (σ' : Hp) (h' : Heap) : Prop where
  w : W h₀ σ' h'
  keep : ∀ a o, ¬ Mut σ a → ¬ own a → h.get? a = some o → h'.get? a = some o
  grow : Grow σ h σ'
  tups : Tups h h'
  alive : ∀ a o, h.get? a = some o → ∃ o', h'.get? a = some o'
def nobody : Addr → Prop := fun _ => False
abbrev Step (h₀ : Heap) (σ : Hp) (h : Heap) (σ' : Hp) (h' : Heap) : Prop := StepX nobody h₀ σ h σ' h'
theorem Step.of {h₀ : Heap} {σ : Hp} {h : Heap} {σ' : Hp} {h' : Heap} (w₀ : W h₀ σ h) (w : W h₀ σ' h') (k : Keep σ h h') (g : Grow σ h σ') (al : ∀ a o, h.get? a = some o → ∃ o', h'.get? a = some o') : Step h₀ σ h σ' h' :=
  ⟨w, fun a o n _ e => k a o n e, g, tup_keep w₀ k, al⟩
theorem Step.keeps {h₀ : Heap} {σ : Hp} {h : Heap} {σ' : Hp} {h' : Heap} (s : Step h₀ σ h σ' h') : Keep σ h h' := fun a o n e => s.keep a o n (fun f => f) e
theorem StepX.more {own own' : Addr → Prop} {h₀ : Heap} {σ : Hp} {h : Heap} {σ' : Hp} {h' : Heap} (s : StepX own h₀ σ h σ' h') (i : ∀ a, own a → own' a) : StepX own' h₀ σ h σ' h' :=
  ⟨s.w, fun a o n m e => s.keep a o n (fun q => m (i a q)) e, s.grow, s.tups, s.alive⟩
theorem Step.any {own : Addr → Prop} {h₀ : Heap} {σ : Hp} {h : Heap} {σ' : Hp} {h' : Heap} (s : Step h₀ σ h σ' h') : StepX own h₀ σ h σ' h' := s.more fun _ f => f.elim
theorem StepX.refl {own : Addr → Prop} {h₀ : Heap} {σ : Hp} {h : Heap} (w : W h₀ σ h) : StepX own h₀ σ h σ h := ⟨w, fun _ _ _ _ e => e, .refl _ _, fun _ _ e _ => e, fun _ o e => ⟨o, e⟩⟩
theorem StepX.trans {own : Addr → Prop} {h₀ : Heap} {σ σ' σ'' : Hp} {h h' h'' : Heap} (x : StepX own h₀ σ h σ' h') (y : StepX own h₀ σ' h' σ'' h'') : StepX own h₀ σ h σ'' h'' :=
  ⟨y.w, fun a o n m e => y.keep a o (x.grow.not e n) m (x.keep a o n m e), (fun a => by
    have key : h'.get? a = none → h.get? a = none := fun q => by
      cases e : h.get? a with
      | none => rfl
      | some o => obtain ⟨o', e'⟩ := x.alive a o e; rw [e'] at q; exact absurd q (by simp)
    refine ⟨fun m => ?_, fun m => ?_⟩
    · rcases (y.grow a).1 m with q | q
      · exact (x.grow a).1 q
      · exact .inr (key q)
    · rcases (y.grow a).2 m with q | q
      · exact (x.grow a).2 q
      · exact .inr (key q)),
   fun a o e i => y.tups a o (x.tups a o e i) i, fun a o e => (x.alive a o e).elim fun o' e' => y.alive a o' e'⟩
theorem Step.trans {h₀ : Heap} {σ σ' σ'' : Hp} {h h' h'' : Heap} (x : Step h₀ σ h σ' h') (y : Step h₀ σ' h' σ'' h'') : Step h₀ σ h σ'' h'' := StepX.trans x y
theorem Rep.step {own : Addr → Prop} {h₀ : Heap} {σ σ' : Hp} {h h' : Heap} {v : Value} {x : V} (r : Rep h v x) (s : StepX own h₀ σ h σ' h') : Rep h' v x := r.tups s.tups
theorem Reps.step {own : Addr → Prop} {h₀ : Heap} {σ σ' : Hp} {h h' : Heap} {v : List Value} {x : List V} (r : Reps h v x) (s : StepX own h₀ σ h σ' h') : Reps h' v x := r.tups s.tups

theorem Reps.length {h : Heap} : ∀ {vs : List Value} {xs : List V}, Reps h vs xs → vs.length = xs.length
  | _, _, .nil => rfl
  | _, _, .cons _ r => congrArg (· + 1) r.length
theorem Reps.append {h : Heap} : ∀ {vs ws : List Value} {xs ys : List V}, Reps h vs xs → Reps h ws ys → Reps h (vs ++ ws) (xs ++ ys)
  | _, _, _, _, .nil, r => r
  | _, _, _, _, .cons a r, q => .cons a (r.append q)
theorem Reps.get {h : Heap} : ∀ {vs : List Value} {xs : List V}, Reps h vs xs → ∀ {i : Nat} {x : V}, xs[i]? = some x → ∃ v, vs[i]? = some v ∧ Rep h v x
  | _, _, .cons a r, 0, x, e => by simp at e; subst e; exact ⟨_, rfl, a⟩
  | _, _, .cons a r, i + 1, x, e => by simp at e; simpa using r.get e
theorem Reps.set {h : Heap} : ∀ {vs : List Value} {xs : List V}, Reps h vs xs → ∀ (i : Nat) {v : Value} {x : V}, Rep h v x → Reps h (vs.set i v) (xs.set i x)
  | _, _, .nil, _, _, _, _ => .nil
  | _, _, .cons a r, 0, v, x, e => .cons e r
  | _, _, .cons a r, i + 1, v, x, e => .cons a (r.set i e)
theorem Reps.drop {h : Heap} : ∀ {vs : List Value} {xs : List V}, Reps h vs xs → ∀ (i : Nat), Reps h (vs.drop i) (xs.drop i)
  | _, _, .nil, i => by simp; exact .nil
  | _, _, .cons a r, 0 => .cons a r
  | _, _, .cons a r, i + 1 => by simpa using r.drop i
theorem Reps.take {h : Heap} : ∀ {vs : List Value} {xs : List V}, Reps h vs xs → ∀ (i : Nat), Reps h (vs.take i) (xs.take i)
  | _, _, .nil, i => by simp; exact .nil
  | _, _, .cons a r, 0 => .nil
  | _, _, .cons a r, i + 1 => by simpa using .cons a (r.take i)
theorem reps_erase {h : Heap} : ∀ {vs : List Value} {xs : List V}, Reps h vs xs → ∀ (i : Nat), Reps h (vs.eraseIdx i) (xs.eraseIdx i)
  | _, _, .nil, i => .nil
  | _, _, .cons a r, 0 => r
  | _, _, .cons a r, i + 1 => .cons a (reps_erase r i)
theorem Reps.reverse {h : Heap} : ∀ {vs : List Value} {xs : List V}, Reps h vs xs → Reps h vs.reverse xs.reverse
  | _, _, .nil => .nil
  | _, _, .cons a r => by simp only [List.reverse_cons]; exact r.reverse.append (.cons a .nil)
theorem Reps.getRev {h : Heap} : ∀ {vs : List Value} {xs : List V}, Reps h vs xs → ∀ {i : Nat} {v : Value}, vs[i]? = some v → ∃ x, xs[i]? = some x ∧ Rep h v x
  | _, _, .cons a r, 0, x, e => by simp at e; subst e; exact ⟨_, rfl, a⟩
  | _, _, .cons a r, i + 1, x, e => by simp at e; simpa using r.getRev e
theorem Reps.filterMap {h : Heap} {vs : List Value} {xs : List V} (r : Reps h vs xs) : ∀ js : List Nat, Reps h (js.filterMap (vs[·]?)) (js.filterMap (xs[·]?))
  | [] => .nil
  | j :: js => by
    simp only [List.filterMap_cons]
    cases e : vs[j]? with
    | none =>
      have : xs[j]? = none := by
        rw [List.getElem?_eq_none_iff] at e ⊢; rw [← r.length]; exact e
      rw [this]; exact r.filterMap js
    | some v =>
      obtain ⟨x, e', rr⟩ := r.getRev e
      rw [e']; exact .cons rr (r.filterMap js)

theorem upd_small {σ : Hp} {a : Addr} {o : AObj} (h : ∀ a o, σ a = some o → o.small) (sm : o.small) : ∀ b p, upd σ a o b = some p → p.small := fun b p e => by
  unfold upd at e; split at e
  · cases e; exact sm
  · exact h b p e
theorem upd_grow {σ : Hp} {h : Heap} {a : Addr} {o : AObj} (n : Mut σ a ∨ h.get? a = none) : Grow σ h (upd σ a o) := fun b => by
  by_cases q : b = a
  · subst q; exact ⟨fun _ => n, fun _ => n.imp (fun ⟨p, e, _⟩ => by rw [e]; simp) id⟩
  · unfold Mut; rw [upd_ne _ _ q]; exact ⟨.inl, .inl⟩
/-- a new object at a fresh address, put under σ -/
theorem get_push_none (h : Heap) : h.get? h.objs.size = none := by
  cases e : h.get? h.objs.size with
  | none => rfl
  | some o => exact absurd (Heap.lt_size e) (Nat.lt_irrefl _)
theorem W.fresh {h₀ : Heap} {σ : Hp} {h : Heap} (w : W h₀ σ h) {a : Addr} (e : h.get? a = none) : σ a = none := by
  cases q : σ a with
  | none => rfl
  | some o =>
    have := w.holds a o q
    cases o with
    | list xs => obtain ⟨_, _, e2, _⟩ := this; rw [e] at e2; cases e2
    | flist xs => obtain ⟨_, ⟨o2, e2, _⟩, _⟩ := this; rw [e] at e2; cases e2
    | iter l i => obtain ⟨o2, e2, _⟩ := this; rw [e] at e2; cases e2
theorem Holds.alive {h : Heap} {a : Addr} {o : AObj} (x : Holds h a o) : ∃ b, h.get? a = some b := by
  cases o with
  | list xs => obtain ⟨vs, n, e2, rr⟩ := x; exact ⟨_, e2⟩
  | flist xs => obtain ⟨vs, ⟨o2, e2, r⟩, rr⟩ := x; exact ⟨_, e2⟩
  | iter l i => obtain ⟨o2, e2, r⟩ := x; exact ⟨_, e2⟩
theorem Holds.keep {h₀ : Heap} {σ : Hp} {h h' : Heap} (w : W h₀ σ h) (k : Keep σ h h') {a : Addr} {o : AObj} (x : Holds h a o) (same : ∀ b, h.get? a = some b → h'.get? a = some b) : Holds h' a o := by
  cases o with
  | list xs => obtain ⟨vs, n, e2, rr⟩ := x; exact ⟨vs, n, same _ e2, rr.tups (tup_keep w k)⟩
  | flist xs => obtain ⟨vs, ⟨o2, e2, r⟩, rr⟩ := x; exact ⟨vs, ⟨o2, same _ e2, r⟩, rr.tups (tup_keep w k)⟩
  | iter l i => obtain ⟨o2, e2, r⟩ := x; exact ⟨o2, same _ e2, r⟩
/-- only new objects: all that was stays -/
theorem W.extend {h₀ : Heap} {σ : Hp} {h h' : Heap} (w : W h₀ σ h) (k : ∀ b o, h.get? b = some o → h'.get? b = some o) : Step h₀ σ h σ h' := by
  have kk : Keep σ h h' := fun a o _ e => k a o e
  exact .of w ⟨fun b o e => k b o (w.stays b o e), fun a o e => (w.holds a o e).keep w kk (fun b => k a b), w.above, w.small⟩ kk (.refl _ _) (fun a o e => ⟨o, k a o e⟩)
/-- a new object of the abstract heap -/
theorem W.alloc {h₀ : Heap} {σ : Hp} {h h' : Heap} (w : W h₀ σ h) (k : ∀ b o, h.get? b = some o → h'.get? b = some o) {a : Addr} (n : h.get? a = none) {o : AObj} (x : Holds h' a o) (sm : o.small) : Step h₀ σ h (upd σ a o) h' := by
  have kk : Keep σ h h' := fun a o _ e => k a o e
  refine .of w ⟨fun b o e => k b o (w.stays b o e), fun b p e => ?_, fun b m => ?_, upd_small w.small sm⟩ kk (upd_grow (.inr n)) (fun a o e => ⟨o, k a o e⟩)
  · unfold upd at e; split at e
    · rename_i q; subst q; cases e; exact x
    · exact (w.holds b p e).keep w kk (fun b' => k b b')
  · by_cases q : b = a
    · subst q
      cases r : h₀.get? b with
      | none => rfl
      | some o' => rw [w.stays b o' r] at n; cases n
    · obtain ⟨p, e, mm⟩ := m; rw [upd_ne _ _ q] at e; exact w.above b ⟨p, e, mm⟩
/-- a change of one mutable object -/
theorem W.change {h₀ : Heap} {σ : Hp} {h h' : Heap} (w : W h₀ σ h) {a : Addr} (m : Mut σ a) (k : Heap.ExtBut a h h') {o : AObj} (x : Keep σ h h' → Holds h' a o) (sm : o.small) : Step h₀ σ h (upd σ a o) h' := by
  have kk : Keep σ h h' := fun b o n e => k b o (by rintro rfl; exact n m) e
  refine .of w ⟨fun b o e => ?_, fun b p e => ?_, fun b m' => ?_, upd_small w.small sm⟩ kk (upd_grow (.inl m)) (fun b p e => by
    by_cases q : b = a
    · subst q; exact (x kk).alive
    · exact ⟨p, k b p q e⟩)
  · refine k b o ?_ (w.stays b o e)
    rintro rfl; rw [w.above b m] at e; cases e
  · unfold upd at e; split at e
    · rename_i q; subst q; cases e; exact x kk
    · rename_i q; exact (w.holds b p e).keep w kk (fun b' => k b b' q)
  · by_cases q : b = a
    · subst q; exact w.above b m
    · obtain ⟨p, e, mm⟩ := m'; rw [upd_ne _ _ q] at e; exact w.above b ⟨p, e, mm⟩
/-- an object that lies there already is put under σ -/
theorem W.adopt {h₀ : Heap} {σ : Hp} {h : Heap} (w : W h₀ σ h) {a : Addr} (f : h₀.get? a = none) {o : AObj} (x : Holds h a o) (sm : o.small) : W h₀ (upd σ a o) h := by
  refine ⟨w.stays, fun b p e => ?_, fun b m => ?_, upd_small w.small sm⟩
  · unfold upd at e; split at e
    · rename_i q; subst q; cases e; exact x
    · exact w.holds b p e
  · by_cases q : b = a
    · subst q; exact f
    · obtain ⟨p, e, mm⟩ := m; rw [upd_ne _ _ q] at e; exact w.above b ⟨p, e, mm⟩
/-- forgetting -/
def Sub (σ' σ : Hp) : Prop := ∀ a o, σ' a = some o → σ a = some o
theorem W.forget {h₀ : Heap} {σ σ' : Hp} {h : Heap} (w : W h₀ σ h) (s : Sub σ' σ) : W h₀ σ' h :=
  ⟨w.stays, fun a o e => w.holds a o (s a o e), fun a ⟨o, e, m⟩ => w.above a ⟨o, s a o e, m⟩, fun a o e => w.small a o (s a o e)⟩
theorem StepX.forget {own : Addr → Prop} {h₀ : Heap} {σ σ' σ'' : Hp} {h h' : Heap} (x : StepX own h₀ σ h σ' h') (s : Sub σ'' σ') : StepX own h₀ σ h σ'' h' :=
  ⟨x.w.forget s, x.keep, fun a => ⟨fun ⟨o, e, m⟩ => (x.grow a).1 ⟨o, s a o e, m⟩, fun m => (x.grow a).2 (by cases q : σ'' a with | none => exact absurd q m | some p => rw [s a p q]; simp)⟩, x.tups, x.alive⟩

theorem LObj.isList {h : Heap} {a : Addr} {vs : List Value} {n : Nat} (e : h.get? a = some (LObj vs n)) : h.IsList a vs.toArray := ⟨_, e, rfl, n, rfl⟩
theorem LObj.mapSeq (vs : List Value) (n : Nat) (f : Array Value → Array Value) : ∃ m, (LObj vs n).mapSeq f = LObj (f vs.toArray).toList m := ⟨_, rfl⟩
theorem LObj.update {h : Heap} {a : Addr} {vs : List Value} {n : Nat} (e : h.get? a = some (LObj vs n)) (f : Array Value → Array Value) :
    ∃ m, (h.update a (Obj.mapSeq f)).get? a = some (LObj (f vs.toArray).toList m) := by
  obtain ⟨m, q⟩ := LObj.mapSeq vs n f
  exact ⟨m, by rw [← q]; exact Heap.get?_update_self _ e rfl⟩

def listAt (σ : Hp) (a : Addr) : Option (List V) := match σ a with | some (.list xs) => some xs | some (.flist xs) => some xs | _ => none
theorem listAt_list {σ : Hp} {a : Addr} {xs : List V} (h : σ a = some (.list xs)) : listAt σ a = some xs := by unfold listAt; rw [h]
theorem listAt_flist {σ : Hp} {a : Addr} {xs : List V} (h : σ a = some (.flist xs)) : listAt σ a = some xs := by unfold listAt; rw [h]
theorem W.list {h₀ : Heap} {σ : Hp} {h : Heap} (w : W h₀ σ h) {a : Addr} {xs : List V} (e : listAt σ a = some xs) : ∃ vs : List Value, h.IsList a vs.toArray ∧ Reps h vs xs := by
  unfold listAt at e
  split at e
  · cases e; rename_i q; obtain ⟨vs, n, g, r⟩ := w.holds _ _ q; exact ⟨vs, LObj.isList g, r⟩
  · cases e; rename_i q; exact w.holds _ _ q
  · cases e
theorem W.mlist {h₀ : Heap} {σ : Hp} {h : Heap} (w : W h₀ σ h) {a : Addr} {xs : List V} (e : σ a = some (.list xs)) : ∃ (vs : List Value) (n : Nat), h.get? a = some (LObj vs n) ∧ Reps h vs xs := w.holds _ _ e
/-- a mutable list of σ changed by a map of its items -/
theorem W.mapSeq {h₀ : Heap} {σ : Hp} {h : Heap} (w : W h₀ σ h) {a : Addr} {xs : List V} (e : σ a = some (.list xs)) {vs : List Value} {n : Nat} (g : h.get? a = some (LObj vs n)) (f : Array Value → Array Value) {ys : List V}
    (r : Reps h (f vs.toArray).toList ys) (sm : ys.length ≤ BIG) : Step h₀ σ h (upd σ a (.list ys)) (h.update a (Obj.mapSeq f)) :=
  w.change ⟨_, e, rfl⟩ (Heap.SameBut.update ..).extBut (fun k => by
    obtain ⟨m, q⟩ := LObj.update g f
    exact ⟨_, m, q, r.tups (tup_keep w k)⟩) sm
theorem W.len {h₀ : Heap} {σ : Hp} {h : Heap} (w : W h₀ σ h) {a : Addr} {xs : List V} (e : listAt σ a = some xs) : xs.length ≤ BIG := by
  unfold listAt at e
  split at e
  · cases e; rename_i q; exact w.small _ _ q
  · cases e; rename_i q; exact w.small _ _ q
  · cases e

/-! Fw2 -/
/-- room of the machine for n calls more -/
structure Room (A : Around) (n : Nat) : Prop where
  handled : A.handled = none
  depth : A.depth + n ≤ 800
  units : A.units + 4 * n ≤ 9000
  env : ∃ env l, A.frames = some (env :: l) ∧ env.scope.isGenerator = false ∧ env.scope.isCoroutine = false ∧ env.builtins = builtinsNs ∧ env.globals = mainGlobals
theorem Room.le {A : Around} {n m : Nat} (r : Room A n) (h : m ≤ n) : Room A m := ⟨r.handled, by have := r.depth; omega, by have := r.units; omega, r.env⟩

/-- the ground -/
structure Gnd (prog : Program) (h₀ : Heap) (mg mb : Str → Option Value) : Prop where
  g : h₀.Ns mainGlobals mg
  b : h₀.Ns builtinsNs mb
  nolimit : h₀.NoLimit
  seer : h₀.NoSeer
  tree : prog.given.tree = none
  boot : ∀ x : Str, x ≠ "__name__" → mb x = bootBuiltins x

def PV (h₀ : Heap) (σ : Hp) (s : Shared) (Q : V → Hp → Prop) (v : Value) (s' : Shared) : Prop := ∃ x σ', Rep s'.heap v x ∧ (Step h₀ σ s.heap σ' s'.heap ∧ Sm s s') ∧ Q x σ'
def E0 : Value → Shared → Prop := fun _ _ => False
theorem BIG_le : BIG ≤ sizeLine := by decide
theorem big_line {n : Nat} (h : n ≤ BIG) : n ≤ sizeLine := Nat.le_trans h BIG_le
theorem big_63 {n : Nat} (h : n ≤ BIG) : (n : Int) < 2 ^ 63 := by unfold BIG at h; omega

def newL (xs : List V) (Q : V → Hp → Prop) (σ : Hp) : Prop := xs.length ≤ BIG ∧ ∀ a, σ a = none → Q (.ref a) (upd σ a (.list xs))

section
variable {prog : Program} {w : World} {A : Around} {s : Shared} {h₀ : Heap} {mg mb : Str → Option Value} {σ : Hp} {Q : V → Hp → Prop}

theorem PV.same {v : Value} {x : V} (hw : W h₀ σ s.heap) (r : Rep s.heap v x) (q : Q x σ) (tk : Nat) : PV h₀ σ s Q v { s with toks := tk } := ⟨x, σ, r, ⟨.refl hw, .rfl⟩, q⟩
theorem PV.same' {v : Value} {x : V} (hw : W h₀ σ s.heap) (r : Rep s.heap v x) (q : Q x σ) : PV h₀ σ s Q v s := ⟨x, σ, r, ⟨.refl hw, .rfl⟩, q⟩
/-- a new list behind a push -/
theorem PV.push (hw : W h₀ σ s.heap) {vs : List Value} {xs : List V} {n : Nat} (r : Reps s.heap vs xs) (q : newL xs Q σ) (tk : Nat) :
    PV h₀ σ s Q (.ref s.heap.objs.size) { s with heap := s.heap.push (LObj vs n), toks := tk } := by
  have k : ∀ b o, s.heap.get? b = some o → (s.heap.push (LObj vs n)).get? b = some o := fun b o e => Heap.get?_push_of_some _ e
  have x : Step h₀ σ s.heap (upd σ s.heap.objs.size (.list xs)) (s.heap.push (LObj vs n)) :=
    hw.alloc k (get_push_none _) ⟨vs, n, Heap.get?_push_size _ rfl, r.tups (fun a o e _ => k a o e)⟩ q.1
  exact ⟨_, _, .ref _, ⟨x, Eq.refl _, Eq.refl _⟩, q.2 _ (hw.fresh (get_push_none _))⟩
/-- a new list at any fresh address -/
theorem PV.new (hw : W h₀ σ s.heap) {vs : List Value} {xs : List V} {n : Nat} {a : Addr} {s' : Shared} (k : ∀ b o, s.heap.get? b = some o → s'.heap.get? b = some o) (f : s.heap.get? a = none)
    (g : s'.heap.get? a = some (LObj vs n)) (r : Reps s.heap vs xs) (q : newL xs Q σ) (m : Sm s s' := by exact ⟨rfl, rfl⟩) : PV h₀ σ s Q (.ref a) s' :=
  ⟨_, _, .ref _, ⟨hw.alloc (o := .list xs) k f ⟨vs, n, g, r.tups (fun a o e _ => k a o e)⟩ q.1, m⟩, q.2 _ (hw.fresh f)⟩

theorem foldl_rep_aux (v : Value) : ∀ (n : Nat) (acc : Array Value), List.foldl (fun x1 x2 => x1 ++ x2) acc (List.replicate n [v].toArray) = acc ++ (List.replicate n v).toArray
  | 0, acc => by simp
  | n + 1, acc => by
    rw [List.replicate_succ, List.foldl_cons, foldl_rep_aux v n, List.replicate_succ]
    apply Array.toList_inj.mp
    simp
theorem foldl_rep (v : Value) (n : Nat) : List.foldl (fun x1 x2 => x1 ++ x2) #[] (List.replicate n [v].toArray) = (List.replicate n v).toArray := by
  rw [foldl_rep_aux]; simp
theorem reps_replicate {h : Heap} {v : Value} {x : V} (r : Rep h v x) : ∀ n : Nat, Reps h (List.replicate n v) (List.replicate n x)
  | 0 => .nil
  | n + 1 => .cons r (reps_replicate r n)

def opBin (op : Operator) (a b : V) (Q : V → Hp → Prop) (σ : Hp) : Prop :=
  match op, a, b with
  | .Add, .int x, .int y => Q (.int (x + y)) σ
  | .Sub, .int x, .int y => Q (.int (x - y)) σ
  | .Mult, .int x, .int y => IntMulOk x y ∧ Q (.int (x * y)) σ
  | .FloorDiv, .int x, .int y => y ≠ 0 ∧ Q (.int (x.fdiv y)) σ
  | .Mod, .int x, .int y => y ≠ 0 ∧ Q (.int (x.fmod y)) σ
  | .RShift, .int x, .int y => 0 ≤ x ∧ y = 1 ∧ Q (.int (x / 2)) σ
  | .Pow, .int x, .int y => 0 ≤ y ∧ y ≤ 1000 ∧ x.natAbs < 2 ^ 64 ∧ Q (.int (x ^ y.toNat)) σ
  | .Add, .ref x, .ref y => ∃ xs ys, listAt σ x = some xs ∧ listAt σ y = some ys ∧ newL (xs ++ ys) Q σ
  | .Mult, .ref x, .int n => ∃ z, σ x = some (.list [z]) ∧ 0 ≤ n ∧ newL (List.replicate n.toNat z) Q σ
  | _, _, _ => False

theorem pylong (G : Gnd prog h₀ mg mb) (hw : W h₀ σ s.heap) {n : Nat} (R : Room A n) : PylongRoom (model prog w) A s := by
  obtain ⟨env, l, h1, h2, h3, h4, h5⟩ := R.env
  refine PylongRoom.of (G.nolimit.keeps hw.stays) (by have := R.depth; show A.depth + 100 < 1000; omega) (SeerAt.of (G.seer.keeps hw.stays) G.tree h1 h2 h3 h4 h5)

theorem opBin_ok (G : Gnd prog h₀ mg mb) {n : Nat} (R : Room A n) (hw : W h₀ σ s.heap) {op : Operator} {a b : V} {va vb : Value} (ra : Rep s.heap va a) (rb : Rep s.heap vb b) (h : opBin op a b Q σ) :
    wpAny (model prog w) A (binaryOp op va vb) (PV h₀ σ s Q) E0 s := by
  unfold opBin at h
  split at h
  · cases ra; cases rb; exact add_int (PV.same hw (.int _ _) h _)
  · cases ra; cases rb; exact sub_int' (PV.same hw (.int _ _) h _)
  · cases ra; cases rb; exact mul_int (PV.same hw (.int _ _) h.2 _) h.1
  · cases ra; cases rb; exact floordiv_int h.1 (PV.same hw (.int _ _) h.2 _) (.inr (pylong G hw R))
  · cases ra; cases rb; exact mod_int' h.1 (PV.same hw (.int _ _) h.2 _)
  · cases ra; cases rb; obtain ⟨h1, rfl, h3⟩ := h; exact wpAny_rshift1_int h1 (PV.same hw (.int _ _) h3 _)
  · cases ra; cases rb; exact pow_int_small h.1 (by omega) h.2.2.1 (PV.same hw (.int _ _) h.2.2.2 _)
  · cases ra; cases rb
    rename_i l b
    obtain ⟨xs, ys, e1, e2, q⟩ := h
    obtain ⟨vs, hl, r1⟩ := hw.list e1
    obtain ⟨ws, hb, r2⟩ := hw.list e2
    have hsz : vs.length + ws.length ≤ sizeLine := big_line (by have := q.1; rw [List.length_append] at this; rw [r1.length, r2.length]; exact this)
    obtain ⟨⟨cls, dd, data, sl⟩, ho, hc, n, hd⟩ := id hl
    obtain ⟨⟨cls2, dd2, data2, sl2⟩, ho2, hc2, n2, hd2⟩ := id hb
    simp only at hc hd hc2 hd2
    subst hc hd hc2 hd2
    have e : vs.toArray ++ ws.toArray = (vs ++ ws).toArray := by simp
    refine concat_meets ⟨_, ho, rfl⟩ ⟨_, ho2, rfl⟩ noFill_list_add seq_list_add PySem.F.slot_list_add PySem.F.entry_list_add (PySem.F.args_list_add_2 _ _) (list_addW l b vs.toArray ws.toArray n n2 dd dd2 sl sl2 (by simpa using hsz)) ⟨ho, ho2, ?_⟩
    rw [e]
    exact PV.push (n := 0) hw (r1.append r2) q _
  · rename_i l n'
    cases ra; cases rb
    rename_i u
    obtain ⟨z, e, hn, q⟩ := h
    obtain ⟨vs, k, hl, r⟩ := hw.mlist e
    cases r with
    | cons r1 r2 => ?_
    cases r2
    rename_i v
    have hsz : n'.toNat ≤ BIG := by have := q.1; simpa using this
    have hs2 : n'.toNat ≤ 2 ^ 24 := by unfold BIG at hsz; omega
    refine wpAny_binaryOp_repeat_ref (T := "list") (U := "int") (by decide) ⟨_, hl, rfl⟩ (fun s' => typeIs_int s' n' u) noFill_list_mul PySem.F.fills_int_mul PySem.F.slot_int_rmul repeat_list PySem.F.slot_int_index.lookup
      (call_meets PySem.F.slot_int_rmul (typeIs_int s n' u) PySem.F.entry_int_rmul (PySem.F.args_int_rmul_2 _ _) (int___rmul___int_list n' u l _ k)
        ⟨hl, rfl, ⟨_, hl, rfl⟩, call_meets PySem.F.slot_list_mul ⟨_, hl, rfl⟩ PySem.F.entry_list_mul (PySem.F.args_list_mul_2 _ _)
          (AutoListH.list___mul___list_int_3 l _ k n' u (by simp [Builtin.List.listFitsIndex]; unfold BIG at hsz; omega) (by simp; omega) (by simp [Builtin.List.listTooLong, sizeLine]; omega)) ⟨hl, ?_⟩⟩)
    have e3 : List.foldl (fun x1 x2 => x1 ++ x2) #[] (List.replicate (if ([v].toArray : Array Value).isEmpty = true then 0 else n'.toNat) [v].toArray) = (List.replicate n'.toNat v).toArray := by
      rw [if_neg (by simp)]
      exact foldl_rep v _
    rw [e3]
    exact PV.push (n := 0) hw (reps_replicate r1 _) q _
  · exact h.elim
end

/-! Fw3 -/
/-! data, for == -/
mutual
inductive Dat (σ : Hp) : V → PyData → Prop
  | none : Dat σ .none .none
  | bool (b : Bool) : Dat σ (.bool b) (.bool b)
  | int (i : Int) : Dat σ (.int i) (.int i)
  | str (s : Str) : PyData.strOk s = true → Dat σ (.str s) (.str s)
  | tup {xs : List V} {ds : List PyData} : Dats σ xs ds → Dat σ (.tup xs) (.tuple ds)
  | list {a : Addr} {xs : List V} {ds : List PyData} : listAt σ a = some xs → Dats σ xs ds → Dat σ (.ref a) (.list ds)
inductive Dats (σ : Hp) : List V → List PyData → Prop
  | nil : Dats σ [] []
  | cons {x : V} {d : PyData} {xs : List V} {ds : List PyData} : Dat σ x d → Dats σ xs ds → Dats σ (x :: xs) (d :: ds)
end
mutual
theorem Dat.lay {σ : Hp} : ∀ {x : V} {d : PyData}, Dat σ x d → d.canLay0 = true
  | _, _, .none => by simp [PyData.canLay0]
  | _, _, .bool _ => by simp [PyData.canLay0]
  | _, _, .int _ => by simp [PyData.canLay0]
  | _, _, .str _ h => by simpa [PyData.canLay0] using h
  | _, _, .tup h => by simpa [PyData.canLay0] using Dats.lay h
  | _, _, .list _ h => by simpa [PyData.canLay0] using Dats.lay h
theorem Dats.lay {σ : Hp} : ∀ {xs : List V} {ds : List PyData}, Dats σ xs ds → PyData.canLayAll0 ds = true
  | _, _, .nil => by simp [PyData.canLayAll0]
  | _, _, .cons a b => by simp [PyData.canLayAll0, Dat.lay a, Dats.lay b]
end
mutual
theorem Dat.reads {h₀ : Heap} {σ : Hp} {h : Heap} (w : W h₀ σ h) : ∀ {x : V} {d : PyData}, Dat σ x d → ∀ {v : Value}, Rep h v x → ∃ as, Reads h v d as
  | _, _, .none, _, .none => ⟨_, .none⟩
  | _, _, .bool _, _, .bool _ => ⟨_, .bool _⟩
  | _, _, .int _, _, .int _ _ => ⟨_, .int _ _⟩
  | _, _, .str _ _, _, .str _ _ => ⟨_, .str _ _⟩
  | _, _, .tup h1, _, .tup y r => by
    obtain ⟨as, q⟩ := Dats.reads w h1 r
    obtain ⟨o, e, c, n, dd⟩ := y
    exact ⟨_, .tuple e c dd q⟩
  | _, _, .list e h1, _, .ref _ => by
    obtain ⟨vs, ⟨o, e, c, n, dd⟩, r⟩ := w.list e
    obtain ⟨as, q⟩ := Dats.reads w h1 r
    exact ⟨_, .list e c dd q⟩
theorem Dats.reads {h₀ : Heap} {σ : Hp} {h : Heap} (w : W h₀ σ h) : ∀ {xs : List V} {ds : List PyData}, Dats σ xs ds → ∀ {vs : List Value}, Reps h vs xs → ∃ as, ReadsAll h vs ds as
  | _, _, .nil, _, .nil => ⟨_, .nil⟩
  | _, _, .cons a b, _, .cons r rs => by
    obtain ⟨as, q⟩ := Dat.reads w a r
    obtain ⟨bs, q'⟩ := Dats.reads w b rs
    exact ⟨_, .cons q q'⟩
end

/-! items -/
def nth (xs : List V) (k : Int) : Option V := if 0 ≤ k then xs[k.toNat]? else if -(xs.length : Int) ≤ k then xs[(k + xs.length).toNat]? else none
theorem nth_lt {xs : List V} {k : Int} {x : V} (h : nth xs k = some x) : -(xs.length : Int) ≤ k ∧ k < xs.length := by
  unfold nth at h
  split at h
  · have := (List.getElem?_eq_some_iff.mp h).1; omega
  · split at h
    · omega
    · cases h
theorem seqIndex_pos {k : Int} {n : Nat} (h0 : 0 ≤ k) (h1 : k < n) : seqIndex? k n = some k.toNat := by
  unfold seqIndex?
  dsimp only
  rw [if_neg (by omega : ¬ k < 0)]
  rw [if_pos (by simp only [Bool.and_eq_true, decide_eq_true_eq]; omega)]
theorem seqIndex_some {k : Int} {n j : Nat} (h : seqIndex? k n = some j) : -(n : Int) ≤ k ∧ k < n := by
  unfold seqIndex? at h
  by_cases hk : k < 0
  · simp only [hk, if_true, Option.ite_none_right_eq_some, Bool.and_eq_true, decide_eq_true_eq] at h; omega
  · simp only [hk, if_false, Option.ite_none_right_eq_some, Bool.and_eq_true, decide_eq_true_eq] at h; omega

def opSub (o i : V) (Q : V → Hp → Prop) (σ : Hp) : Prop :=
  match o, i with
  | .ref a, .int k => ∃ xs x, listAt σ a = some xs ∧ nth xs k = some x ∧ Q x σ
  | .tup xs, .int k => xs.length ≤ BIG ∧ ∃ x, nth xs k = some x ∧ Q x σ
  | .str x, .int k => x.length ≤ BIG ∧ ∃ c, (seqIndex? k x.length).bind (x.cps[·]?) = some c ∧ Q (.str ⟨#[c]⟩) σ
  | _, _ => False

section
variable {prog : Program} {w : World} {A : Around} {s : Shared} {h₀ : Heap} {mg mb : Str → Option Value} {σ : Hp} {Q : V → Hp → Prop}

theorem getList_ok {a : Addr} {k : Int} {u : Tok} {xs : List V} {x : V} (hw : W h₀ σ s.heap) (e : listAt σ a = some xs) (hx : nth xs k = some x) (q : Q x σ) :
    wpAny (model prog w) A (getItem (.ref a) (.int k u)) (PV h₀ σ s Q) E0 s := by
  obtain ⟨vs, hl, r⟩ := hw.list e
  have hb := hw.len e
  have hk := nth_lt hx
  have hlen := r.length
  unfold BIG at hb
  unfold nth at hx
  split at hx
  · obtain ⟨v, e1, rr⟩ := r.get hx
    exact wpAny_getItem_list hl (by assumption) (by omega) (by simpa using e1) (PV.same' hw rr q)
  · rename_i hneg
    rw [if_pos hk.1] at hx
    obtain ⟨v, e1, rr⟩ := r.get hx
    exact wpAny_getItem_list_neg hl (by omega) (by simp; omega) (by omega) (by simpa [hlen] using e1) (PV.same' hw rr q)

theorem opSub_ok {vo vi : Value} {o i : V} (ro : Rep s.heap vo o) (ri : Rep s.heap vi i) (hw : W h₀ σ s.heap) (h : opSub o i Q σ) {value slice : Expr}
    (hs : ∀ o i, subscripted slice false o i = operate [o, i] (getItem o i)) :
    wpAny (model prog w) A (subscriptTail value slice vo vi) (PV h₀ σ s Q) E0 s := by
  unfold opSub at h
  split at h
  · cases ro; cases ri
    obtain ⟨xs, x, e, hx, q⟩ := h
    obtain ⟨vs, hl, r⟩ := hw.list e
    exact tail_any hl.typeIs slot_list_getitem.lookup (getList_ok hw e hx q) (hs _ _)
  · rename_i xs k
    cases ri
    obtain ⟨hb, x, hx, q⟩ := h
    cases ro with
    | tup y r =>
    rename_i a vs
    have hk := nth_lt hx
    have hlen := r.length
    unfold BIG at hb
    refine tail_any y.typeIs slot_tuple_getitem.lookup ?_ (hs _ _)
    unfold nth at hx
    split at hx
    · obtain ⟨v, e1, rr⟩ := r.get hx
      exact getItem_tuple y (by omega) (by omega) (j := k.toNat) (by simp; exact seqIndex_pos (by omega) (by omega)) (by simpa using e1) (PV.same' hw rr q)
    · rw [if_pos hk.1] at hx
      obtain ⟨v, e1, rr⟩ := r.get hx
      exact getItem_tuple y (by omega) (by omega) (j := (k + xs.length).toNat) (by simp [hlen]; exact seqIndex_neg (by omega) (by omega)) (by simpa using e1) (PV.same' hw rr q)
  · rename_i x k
    cases ro; cases ri
    obtain ⟨hb, c, hc, q⟩ := h
    refine tail_any (typeIs_str s _ _) (T := "str") PySem.F.slot_str_getitem.lookup (getItem_str ?_ hc (PV.same hw (.str _ _) q _)) (hs _ _)
    have : -(x.length : Int) ≤ k ∧ k < x.length := by
      cases e : seqIndex? k x.length with
      | none => rw [e] at hc; cases hc
      | some j => exact seqIndex_some e
    unfold BIG at hb
    rw [decide_eq_false (by omega), decide_eq_false (by omega)]; rfl
  · exact h.elim

def opSet (o i v : V) (Q : Hp → Prop) (σ : Hp) : Prop :=
  match o, i with
  | .ref a, .int k => ∃ xs, σ a = some (.list xs) ∧ 0 ≤ k ∧ k < xs.length ∧ Q (upd σ a (.list (xs.set k.toNat v)))
  | _, _ => False
def PU (h₀ : Heap) (σ : Hp) (s : Shared) (Q : Hp → Prop) (s' : Shared) : Prop := ∃ σ', (Step h₀ σ s.heap σ' s'.heap ∧ Sm s s') ∧ Q σ'
theorem opSet_ok {vo vi vv : Value} {o i v : V} {P : Hp → Prop} (ro : Rep s.heap vo o) (ri : Rep s.heap vi i) (rv : Rep s.heap vv v) (hw : W h₀ σ s.heap) (h : opSet o i v P σ) :
    wpAny (model prog w) A (setItem vo vi vv) (fun _ => PU h₀ σ s P) E0 s := by
  unfold opSet at h
  split at h
  · cases ro; cases ri
    rename_i a k t
    obtain ⟨xs, e, h0, hn, q⟩ := h
    obtain ⟨vs, n, g, r⟩ := hw.mlist e
    have hb := hw.len (listAt_list e)
    have hlen := r.length
    unfold BIG at hb
    have hl : s.heap.IsList a vs.toArray := LObj.isList g
    unfold setItem
    try with_reducible refine wpAny_holding ?_
    first | refine wpAny_bind (wpAny_pure ?_) | skip
    refine wpAny_bind (wpAny_sequenceKey hl.typeIs (by decide) ?_)
    refine wpAny_bind (wpAny_callSpecial?_slot (name := Str.ofString "__setitem__") hl.typeIs slot_list_setitem
      (wpAny_call_entry slot_list_setitem hl.typeIs entry_list_setitem ?_ (args_list_setitem _ _ _)))
    show wpAny _ _ (Builtin.List.listSubscript? (.int k t) >>= _) _ _ s
    refine wpAny_bind (wpAny_listSubscript_int (fitsIndex_of h0 (by omega)) ?_)
    obtain ⟨j, rfl⟩ := Int.eq_ofNat_of_zero_le h0
    have hj : j < vs.toArray.size := by simp; omega
    have hx' : vs.toArray[j]? = some vs.toArray[j] := Array.getElem?_eq_getElem hj
    show wpAny _ _ ((seqItemAt a j >>= fun r => pure (r.map (j, ·))) >>= _) _ _ s
    refine wpAny_bind (wpAny_bind (wpAny_seqItemAt (items := vs.toArray) (n := n) g rfl (wpAny_pure ?_)))
    rw [hx']
    show wpAny _ _ (setSeqItemAt a j vv >>= _) _ _ s
    refine wpAny_bind (wpAny_setSeqItemAt (items := vs.toArray) (n := n) g rfl ?_)
    have fin : PU h₀ σ s P { s with heap := s.heap.update a (Obj.mapSeq (·.setIfInBounds j vv)) } :=
      ⟨_, ⟨hw.mapSeq (ys := xs.set j v) e g (·.setIfInBounds j vv) (by simpa using r.set j rv) (by simp; unfold BIG; omega), Eq.refl _, Eq.refl _⟩, q⟩
    first
      | exact wpAny_bind (wpAny_pure (wpAny_pure ⟨.none, rfl, wpAny_pure fin⟩))
      | exact wpAny_pure ⟨.none, rfl, wpAny_pure fin⟩
  · exact h.elim

/-! comparisons -/
def isOf (a b : V) (Q : Bool → Prop) : Prop :=
  match a, b with
  | .none, .none => Q true
  | .ref _, .none => Q false
  | .int _, .none => Q false
  | .bool _, .none => Q false
  | .str _, .none => Q false
  | .tup _, .none => Q false
  | .ref x, .ref y => Q (decide (x = y))
  | _, _ => False

def opCmp (op : CmpOp) (a b : V) (Q : V → Hp → Prop) (σ : Hp) : Prop :=
  match op, a, b with
  | .Lt, .int x, .int y => Q (.bool (decide (x < y))) σ
  | .LtE, .int x, .int y => Q (.bool (decide (x ≤ y))) σ
  | .Gt, .int x, .int y => Q (.bool (decide (y < x))) σ
  | .GtE, .int x, .int y => Q (.bool (decide (y ≤ x))) σ
  | .Eq, .int x, .int y => Q (.bool (x == y)) σ
  | .NotEq, .int x, .int y => Q (.bool (x != y)) σ
  | .Eq, a, b => ∃ d e, Dat σ a d ∧ Dat σ b e ∧ d.depth ≤ 60 ∧ Q (.bool (PyData.eqv d e)) σ
  | .NotEq, a, b => ∃ d e, Dat σ a d ∧ Dat σ b e ∧ d.depth ≤ 60 ∧ Q (.bool (!PyData.eqv d e)) σ
  | _, _, _ => False
theorem opCmp_ok {n : Nat} (R : Room A n) {op : CmpOp} {va vb : Value} {a b : V} (ra : Rep s.heap va a) (rb : Rep s.heap vb b) (hw : W h₀ σ s.heap) (h : opCmp op a b Q σ) :
    wpAny (model prog w) A (compareOp op va vb) (PV h₀ σ s Q) E0 s := by
  have hu : A.units ≤ 9000 := by have := R.units; omega
  unfold opCmp at h
  split at h
  · cases ra; cases rb; exact lt_int (PV.same' hw (.bool _) h)
  · cases ra; cases rb; exact le_int (PV.same' hw (.bool _) h)
  · cases ra; cases rb; exact gt_int (PV.same' hw (.bool _) h)
  · cases ra; cases rb; exact ge_int (PV.same' hw (.bool _) h)
  · cases ra; cases rb; exact eq_int (PV.same' hw (.bool _) h)
  · cases ra; cases rb; exact ne_int (PV.same' hw (.bool _) h)
  · obtain ⟨d, e, h1, h2, hd, q⟩ := h
    obtain ⟨as, r1⟩ := h1.reads hw ra
    obtain ⟨bs, r2⟩ := h2.reads hw rb
    exact SeqAt.compareEq_reads r1 r2 h1.lay h2.lay (by show _ < 9900; omega) (PV.same' hw (.bool _) q)
  · obtain ⟨d, e, h1, h2, hd, q⟩ := h
    obtain ⟨as, r1⟩ := h1.reads hw ra
    obtain ⟨bs, r2⟩ := h2.reads hw rb
    exact SeqAt.compareNe_reads r1 r2 h1.lay h2.lay (by show _ < 9900; omega) (PV.same' hw (.bool _) q)
  · exact h.elim

def truth (v : V) (Q : Bool → Hp → Prop) (σ : Hp) : Prop :=
  match v with
  | .none => Q false σ
  | .bool b => Q b σ
  | .int i => Q (i != 0) σ
  | .ref a => ∃ xs, listAt σ a = some xs ∧ Q (!xs.isEmpty) σ
  | _ => False
def PB (h₀ : Heap) (σ : Hp) (s : Shared) (Q : Bool → Hp → Prop) (b : Bool) (s' : Shared) : Prop := ∃ σ', (Step h₀ σ s.heap σ' s'.heap ∧ Sm s s') ∧ Q b σ'
theorem truth_ok {vv : Value} {v : V} {P : Bool → Hp → Prop} (rv : Rep s.heap vv v) (hw : W h₀ σ s.heap) (h : truth v P σ) :
    wpAny (model prog w) A (truthy vv) (PB h₀ σ s P) E0 s := by
  unfold truth at h
  split at h
  · cases rv; exact truthy_none ⟨_, ⟨.refl hw, Eq.refl _, Eq.refl _⟩, h⟩
  · cases rv; exact wpAny_truthy_bool ⟨_, ⟨.refl hw, Eq.refl _, Eq.refl _⟩, h⟩
  · cases rv; exact truthy_int ⟨_, ⟨.refl hw, Eq.refl _, Eq.refl _⟩, h⟩
  · cases rv
    obtain ⟨xs, e, q⟩ := h
    obtain ⟨vs, hl, r⟩ := hw.list e
    have hb := hw.len e
    have hlen := r.length
    unfold BIG at hb
    refine wpAny_truthy_list hl (by simp; omega) ⟨_, ⟨.refl hw, Eq.refl _, Eq.refl _⟩, ?_⟩
    have : (!vs.toArray.isEmpty) = !xs.isEmpty := by
      cases r <;> simp
    rw [this]; exact q
  · exact h.elim
end

/-! Fw4 -/
inductive BI where
  | len | min | max | sum | range | list | abs | sorted | divmod
  deriving DecidableEq
def BI.val : BI → Value
  | .len => .builtin "len"
  | .min => .builtin "min"
  | .max => .builtin "max"
  | .sum => .builtin "sum"
  | .range => .type "range"
  | .list => .type "list"
  | .abs => .builtin "abs"
  | .sorted => .builtin "sorted"
  | .divmod => .builtin "divmod"
def BI.name : BI → Str
  | .len => "len" | .min => "min" | .max => "max" | .sum => "sum" | .range => "range" | .list => "list" | .abs => "abs" | .sorted => "sorted" | .divmod => "divmod"

def rlen (a b c : Int) : Nat := if 0 < c then (b - a).toNat else (a - b).toNat
def rvals (a b c : Int) : List V := (List.range (rlen a b c)).map fun (i : Nat) => .int (a + (i : Int) * c)
def rok (a b c : Int) : Prop := (c = 1 ∨ c = -1) ∧ a.natAbs ≤ 1000000000 ∧ b.natAbs ≤ 1000000000
theorem rok_small {a b c : Int} (h : rok a b c) : Builtin.Range.small a b c = true := by
  obtain ⟨h1, h2, h3⟩ := h
  rcases h1 with rfl | rfl
  · exact small_one (by omega) (by omega) (by omega) (by omega)
  · unfold Builtin.Range.small Builtin.Range.rangeSize Builtin.Range.rangeFitsLong
    rw [if_neg (by decide)]
    simp only [Bool.and_eq_true, decide_eq_true_eq, Bool.or_eq_true, beq_iff_eq]
    split <;> simp <;> omega
theorem rok_size {a b c : Int} (h : rok a b c) : Builtin.Range.rangeSize a b c = (rlen a b c : Nat) := by
  obtain ⟨h1, h2, h3⟩ := h
  unfold Builtin.Range.rangeSize rlen
  rcases h1 with rfl | rfl
  · simp; split <;> omega
  · simp; split <;> omega

section
variable {prog : Program} {w : World} {A : Around} {s : Shared} {h₀ : Heap} {mg mb : Str → Option Value} {σ : Hp} {Q : V → Hp → Prop}

def opCall (f : BI) (args : List V) (Q : V → Hp → Prop) (σ : Hp) : Prop :=
  match f, args with
  | .len, [.ref a] => ∃ xs, listAt σ a = some xs ∧ Q (.int xs.length) σ
  | .min, [.int a, .int b] => Q (.int (if b < a then b else a)) σ
  | .sum, [.ref a] => ∃ ns : List Int, listAt σ a = some (ns.map .int) ∧ Q (.int ns.sum) σ
  | .range, [.int b] => Q (.rng 0 b 1) σ
  | .range, [.int a, .int b] => Q (.rng a b 1) σ
  | .range, [.int a, .int b, .int c] => c ≠ 0 ∧ Q (.rng a b c) σ
  | .list, [.ref a] => ∃ xs, listAt σ a = some xs ∧ newL xs Q σ
  | .list, [.rng a b c] => rok a b c ∧ newL (rvals a b c) Q σ
  | .abs, [.int a] => Q (.int (if a < 0 then -a else a)) σ
  | _, _ => False

theorem reps_ints {h : Heap} : ∀ {vs : List Value} {ns : List Int}, Reps h vs (ns.map .int) → IntsAre vs ns
  | _, [], .nil => .nil
  | _, n :: ns, .cons r rs => by cases r; exact .cons _ _ (reps_ints rs)
theorem reps_of_items {h : Heap} (f : Nat → V) (P : Nat → Value → Prop) (hp : ∀ i v, P i v → Rep h v (f i)) : ∀ (n : Nat) (vs : List Value), vs.length = n → (∀ j v, vs[j]? = some v → P j v) → Reps h vs ((List.range n).map f) := by
  intro n
  induction n with
  | zero => intro vs h1 _; rw [List.length_eq_zero_iff.mp h1]; exact .nil
  | succ n ih =>
    intro vs h1 h2
    have hne : vs ≠ [] := by rintro rfl; simp at h1
    rw [List.range_succ, List.map_append, ← List.dropLast_concat_getLast hne]
    refine (ih vs.dropLast (by simp [h1]) fun j v e => h2 j v ?_).append (.cons (hp _ _ (h2 n _ ?_)) .nil)
    · have hj := (List.getElem?_eq_some_iff.mp e).1
      rw [List.getElem?_dropLast] at e
      split at e
      · exact e
      · cases e
    · rw [List.getLast_eq_getElem]
      have : vs.length - 1 = n := by omega
      simp [this, h1]

theorem opCall_ok (G : Gnd prog h₀ mg mb) {n : Nat} (R : Room A n) {f : BI} {args : List V} {vargs : List Value} (ra : Reps s.heap vargs args) (hw : W h₀ σ s.heap) (h : opCall f args Q σ) :
    wpAny (model prog w) A (call f.val vargs) (PV h₀ σ s Q) E0 s := by
  unfold opCall at h
  split at h
  · cases ra with | cons r1 r2 => ?_
    cases r2; cases r1
    obtain ⟨xs, e, q⟩ := h
    obtain ⟨vs, hl, r⟩ := hw.list e
    have hb := hw.len e
    have hlen := r.length
    unfold BIG at hb
    refine Calls.call_len_list hl (by simp; omega) (PV.same hw (.int _ _) ?_ _)
    simp only [List.size_toArray, hlen]; exact q
  · cases ra with | cons r1 r2 => ?_
    cases r2 with | cons r2 r3 => ?_
    cases r3; cases r1; cases r2
    refine min_two_ints R.handled fun h' tk k => ?_
    refine ⟨_, σ, ?_, ⟨hw.extend k, Eq.refl _, Eq.refl _⟩, h⟩
    split <;> exact .int _ _
  · cases ra with | cons r1 r2 => ?_
    cases r2; cases r1
    obtain ⟨ns, e, q⟩ := h
    obtain ⟨vs, hl, r⟩ := hw.list e
    have hi := reps_ints r
    have hall := hi.allInts
    obtain ⟨xs, hx⟩ := hall.items
    rw [hx] at hl
    refine sum_intListG R.handled hl fun h' tk t' k => ?_
    refine ⟨_, σ, .int _ _, ⟨hw.extend k, Eq.refl _, Eq.refl _⟩, ?_⟩
    have e2 : preSum (numAt xs) xs.size = ns.sum := by
      have := hi.numsOf
      rw [show vs = vs.toArray.toList from rfl, hx, nums_intItems] at this
      rw [preSum_eq, List.take_of_length_le (by simp), this]
    rw [e2]; exact q
  · cases ra with | cons r1 r2 => ?_
    cases r2; cases r1
    exact call_range_1 ⟨_, σ, .rng (Heap.get?_push_size _ rfl), ⟨hw.extend (fun b o e => Heap.get?_push_of_some _ e), Eq.refl _, Eq.refl _⟩, h⟩
  · cases ra with | cons r1 r2 => ?_
    cases r2 with | cons r2 r3 => ?_
    cases r3; cases r1; cases r2
    exact call_range_2 ⟨_, σ, .rng (Heap.get?_push_size _ rfl), ⟨hw.extend (fun b o e => Heap.get?_push_of_some _ e), Eq.refl _, Eq.refl _⟩, h⟩
  · cases ra with | cons r1 r2 => ?_
    cases r2 with | cons r2 r3 => ?_
    cases r3 with | cons r3 r4 => ?_
    cases r4; cases r1; cases r2; cases r3
    exact call_range_3 h.1 ⟨_, σ, .rng (Heap.get?_push_size _ rfl), ⟨hw.extend (fun b o e => Heap.get?_push_of_some _ e), Eq.refl _, Eq.refl _⟩, h.2⟩ (.inr (pylong G hw R))
  · cases ra with | cons r1 r2 => ?_
    cases r2; cases r1
    obtain ⟨xs, e, q⟩ := h
    obtain ⟨vs, hl, r⟩ := hw.list e
    have hb := hw.len e
    have hlen := r.length
    obtain ⟨o, ho, hc, n, hd⟩ := id hl
    exact call_list_seq _ (.inl rfl) ho hc hd (fun h' c' k g => PV.new (n := c') hw k (get_push_none _) g r q) (by simp; exact big_line (by omega))
  · cases ra with | cons r1 r2 => ?_
    cases r2
    rename_i a b c vr
    obtain ⟨ok, q⟩ := h
    cases r1 with
    | rng hr =>
    have hq1 := q.1
    have hn : rlen a b c ≤ BIG := by simpa [rvals] using hq1
    refine call_list_range R.handled hr (rok_small ok) (rok_size ok) (by unfold BIG at hn; omega) fun h' tk acc' c' k g it => ?_
    obtain ⟨i1, i2⟩ := it
    refine PV.new (n := c') (vs := acc'.toList) hw k (get_push_none _) (by simpa [LObj] using g) (reps_of_items _ _ (fun i v ⟨t, e⟩ => by rw [e]; exact .int _ _) (rlen a b c) _ (by simpa using i1) fun j v e => i2 j v (by simpa using e)) q
  · cases ra with | cons r1 r2 => ?_
    cases r2; cases r1
    exact call_abs_int fun u tk => PV.same hw (.int _ _) h _
  · exact h.elim

inductive Meth where
  | append | extend | pop | index | reverse
  deriving DecidableEq
def Meth.name : Meth → Str
  | .append => "append" | .extend => "extend" | .pop => "pop" | .index => "index" | .reverse => "reverse"
def Meth.id : Meth → String
  | .append => "list.append" | .extend => "list.extend" | .pop => "list.pop" | .index => "list.index" | .reverse => "list.reverse"

def opMeth (m : Meth) (o : V) (args : List V) (Q : V → Hp → Prop) (σ : Hp) : Prop :=
  match m, o, args with
  | .append, .ref a, [x] => ∃ xs, σ a = some (.list xs) ∧ xs.length < BIG ∧ Q .none (upd σ a (.list (xs ++ [x])))
  | .extend, .ref a, [.ref b] => ∃ xs ys, σ a = some (.list xs) ∧ σ b = some (.list ys) ∧ xs.length + ys.length ≤ BIG ∧ Q .none (upd σ a (.list (xs ++ ys)))
  | .pop, .ref a, [.int k] => ∃ xs x, σ a = some (.list xs) ∧ 0 ≤ k ∧ xs[k.toNat]? = some x ∧ Q x (upd σ a (.list (xs.eraseIdx k.toNat)))
  | .index, .ref a, [.int k] => ∃ ns : List Int, σ a = some (.list (ns.map .int)) ∧ k ∈ ns ∧ Q (.int (ns.idxOf k)) σ
  | .reverse, .ref a, [] => ∃ xs, σ a = some (.list xs) ∧ Q .none (upd σ a (.list xs.reverse))
  | _, _, _ => False

theorem opMeth_ok {m : Meth} {o : V} {vo : Value} {args : List V} {vargs : List Value} (ro : Rep s.heap vo o) (ra : Reps s.heap vargs args) (hw : W h₀ σ s.heap) (h : opMeth m o args Q σ) :
    wpAny (model prog w) A (call (.builtin m.id) (vo :: vargs)) (PV h₀ σ s Q) E0 s := by
  unfold opMeth at h
  split at h
  · cases ra with | cons r1 r2 => ?_
    cases r2; cases ro
    obtain ⟨xs, e, hb, q⟩ := h
    obtain ⟨vs, n, g, r⟩ := hw.mlist e
    have hlen := r.length
    have hsz : vs.length ≤ sizeLine := big_line (by omega)
    refine call_meets PySem.F.slot_list_append ⟨_, g, rfl⟩ PySem.F.entry_list_append (PySem.F.args_list_append_2 _ _) (AutoListH.list_append_list_val_0 _ vs.toArray n _ (by simpa using hsz)) ⟨g, ?_⟩
    exact ⟨_, _, .none, ⟨hw.mapSeq e g _ (by simpa using r.append (.cons r1 .nil)) (by simp; omega), Eq.refl _, Eq.refl _⟩, q⟩
  · cases ra with | cons r1 r2 => ?_
    cases r2; cases r1; cases ro
    obtain ⟨xs, ys, e1, e2, hb, q⟩ := h
    obtain ⟨vs, n, g, r⟩ := hw.mlist e1
    obtain ⟨ws, n2, g2, r2⟩ := hw.mlist e2
    have hlen := r.length
    have hlen2 := r2.length
    have hs : sizeLine = 16777216 := by decide
    unfold BIG at hb
    refine call_meets PySem.F.slot_list_extend ⟨_, g, rfl⟩ PySem.F.entry_list_extend (PySem.F.args_list_extend_2 _ _) (AutoSeq1.list_extend_list_list_0 _ vs.toArray n _ ws.toArray n2 (by
      simp [Builtin.List.listTooLong, hs]; omega) (by simp [hs]; omega) (by simp [hs]; omega)) ⟨g, g2, ?_⟩
    exact ⟨_, _, .none, ⟨hw.mapSeq e1 g _ (by simpa using r.append r2) (by simp; unfold BIG; omega), Eq.refl _, Eq.refl _⟩, q⟩
  · rename_i a k
    cases ra with | cons r1 r2 => ?_
    cases r2; cases r1; cases ro
    obtain ⟨xs, x, e, h0, hx, q⟩ := h
    obtain ⟨vs, n, g, r⟩ := hw.mlist e
    have hlen := r.length
    have hb := hw.len (listAt_list e)
    obtain ⟨v, e1, rr⟩ := r.get hx
    have hk := (List.getElem?_eq_some_iff.mp e1).1
    have hs : sizeLine = 16777216 := by decide
    unfold BIG at hb
    refine call_meets PySem.F.slot_list_pop ⟨_, g, rfl⟩ PySem.F.entry_list_pop (PySem.F.args_list_pop_2 _ _) (MeetsSeq.list_pop_at _ vs.toArray n k _ k.toNat v (fitsIndex_of h0 (by omega)) (seqIndex_pos h0 (by simp; omega)) (by simpa using e1) (by simp [hs]; omega)) ⟨g, ?_⟩
    have st := hw.mapSeq (ys := xs.eraseIdx k.toNat) e g (fun xs => xs.eraseIdxIfInBounds k.toNat) (by
      have : (vs.toArray.eraseIdxIfInBounds k.toNat).toList = vs.eraseIdx k.toNat := by simp
      rw [this]
      exact reps_erase r _) (Nat.le_trans (List.length_eraseIdx_le _ _) (by unfold BIG; omega))
    exact ⟨_, _, rr.step st, ⟨st, Eq.refl _, Eq.refl _⟩, q⟩
  · rename_i a k
    cases ra with | cons r1 r2 => ?_
    cases r2; cases r1; cases ro
    obtain ⟨ns, e, hm, q⟩ := h
    obtain ⟨vs, n, g, r⟩ := hw.mlist e
    have hi := reps_ints r
    have hlen := hi.length
    have hj : ns.idxOf k < ns.length := List.idxOf_lt_length_iff.mpr hm
    have hb := hw.len (listAt_list e)
    simp only [List.length_map] at hb
    unfold BIG at hb
    refine call_meets PySem.F.slot_list_index ⟨_, g, rfl⟩ PySem.F.entry_list_index (PySem.F.args_list_index_2 _ _)
      (SeqAt.list_indexAt a vs.toArray n none #[] _ (isInt k) (ns.idxOf k) (by simpa [hlen] using hj) (by omega) ?_ ?_) ⟨g, fun y hy => (eq_isInt k _ hi y (by simpa using hy)).at _ _, PV.same hw (.int _ _) q _⟩
    · show isInt k vs[ns.idxOf k] = true
      rw [isInt_at k hi _ (by omega) hj]
      simpa using List.getElem_idxOf hj
    · intro j hjs hlt
      show isInt k vs[j] = false
      rw [isInt_at k hi j (by simpa using hjs) (by simp at hjs; omega)]
      exact ne_of_lt_idxOf hlt _
  · cases ra; cases ro
    obtain ⟨xs, e, q⟩ := h
    obtain ⟨vs, n, g, r⟩ := hw.mlist e
    have hlen := r.length
    have hb := hw.len (listAt_list e)
    refine call_meets PySem.F.slot_list_reverse ⟨_, g, rfl⟩ PySem.F.entry_list_reverse (PySem.F.args_list_reverse_1 _) (AutoListH.list_reverse_list_0 _ vs.toArray n (by simp; exact big_line (by omega))) ⟨g, ?_⟩
    exact ⟨_, _, .none, ⟨hw.mapSeq e g _ (by simpa using r.reverse) (by simpa using hb), Eq.refl _, Eq.refl _⟩, q⟩
  · exact h.elim
end

/-! Fw5 -/
/-! a small syntax, and what it asks of a postcondition -/
inductive Tgt where
  | name (i : Nat)
  | tup (is : List Nat)
inductive IK where
  | plain | enum | rev
  deriving DecidableEq

inductive PE where
  | int (i : Int)
  | bool (b : Bool)
  | none
  | str (s : Str)
  | var (i : Nat)
  | fn (i : Nat)
  | bin (op : Operator) (l r : PE)
  | neg (e : PE)
  | not (e : PE)
  | cmp (op : CmpOp) (l r : PE)
  | and (l r : PE)
  | or (l r : PE)
  | ite (c a b : PE)
  | sub (o i : PE)
  | slice (o : PE) (lo hi st : Option PE)
  | list (es : List PE)
  | tuple (es : List PE)
  | call (f : BI) (es : List PE)
  | ucall (f : Nat) (es : List PE)
  | meth (m : Meth) (o : PE) (es : List PE)
  | comp (fmap : List (Option Nat)) (elt : PE) (t : Tgt) (k : IK) (it : PE) (ifs : List PE)

abbrev Frm := List (Option V)

inductive It where
  | lst (a : Addr) (i : Nat)
  | rng (x : Int) (n : Nat) (c : Int)
  | vals (vs : List V)
  | enm (k : Nat) (a : Addr)

def itStart (k : IK) (x : V) (Q : It → Hp → Prop) (σ : Hp) : Prop :=
  match k, x with
  | .plain, .ref a => (∃ xs, listAt σ a = some xs) ∧ Q (.lst a 0) σ
  | .plain, .rng a b c => rok a b c ∧ Q (.rng a (rlen a b c) c) σ
  | .plain, .tup vs => Q (.vals vs) σ
  | .enum, .ref a => (∃ xs, σ a = some (.list xs)) ∧ Q (.enm 0 a) σ
  | .rev, .rng a b c => a = 0 ∧ c = 1 ∧ 0 ≤ b ∧ b ≤ 1000000 ∧ Q (.rng (b - 1) b.toNat (-1)) σ
  | _, _ => False

def itNext (it : It) (σ : Hp) : Option (Option (V × It)) :=
  match it with
  | .lst a i => match listAt σ a with
    | some xs => (match xs[i]? with | some x => some (some (x, .lst a (i + 1))) | none => some none)
    | none => none
  | .rng _ 0 _ => some none
  | .rng x (n + 1) c => some (some (.int x, .rng (x + c) n c))
  | .vals [] => some none
  | .vals (v :: vs) => some (some (v, .vals vs))
  | .enm k a => match listAt σ a with
    | some xs => (match xs[k]? with | some x => some (some (.tup [.int k, x], .enm (k + 1) a)) | none => some none)
    | none => none

def setAll : List Nat → List V → Frm → Frm
  | i :: is, v :: vs, F => setAll is vs (F.set i (some v))
  | _, _, F => F

def bindT (t : Tgt) (x : V) (Q : Frm → Prop) (F : Frm) (σ : Hp) : Prop :=
  match t, x with
  | .name i, x => Q (F.set i (some x))
  | .tup is, .tup vs => is.length = vs.length ∧ Q (setAll is vs F)
  | _, _ => False

def partV (v : V) (Q : Option Int → Prop) : Prop := match v with | .none => Q .none | .int i => Q (some i) | _ => False
def pickL (xs : List V) (lo hi st : Option Int) : List V :=
  (sliceRange (sliceBounds lo hi st xs.length).1 (sliceBounds lo hi st xs.length).2.1 (sliceBounds lo hi st xs.length).2.2).filterMap (xs[·]?)
def opSlice (o lo hi st : V) (Q : V → Hp → Prop) (σ : Hp) : Prop :=
  match o with
  | .ref a => ∃ xs, listAt σ a = some xs ∧ partV lo fun l => partV hi fun h => partV st fun s => s ≠ some 0 ∧ newL (pickL xs l h s) Q σ
  | _ => False

abbrev Fns := Nat → List V → (V → Hp → Prop) → Hp → Prop

mutual
def vE (Φ : Fns) : PE → (V → Hp → Prop) → Frm → Hp → Prop
  | .int i, Q, F, σ => Q (.int i) σ
  | .bool b, Q, F, σ => Q (.bool b) σ
  | .none, Q, F, σ => Q .none σ
  | .str s, Q, F, σ => Q (.str s) σ
  | .var i, Q, F, σ => match F[i]? with | some (some v) => Q v σ | _ => False
  | .fn _, Q, F, σ => False
  | .bin op l r, Q, F, σ => vE Φ l (fun a σ => vE Φ r (fun b σ => opBin op a b Q σ) F σ) F σ
  | .neg e, Q, F, σ => vE Φ e (fun a σ => match a with | .int x => Q (.int (-x)) σ | _ => False) F σ
  | .not e, Q, F, σ => vE Φ e (fun a σ => truth a (fun b σ => Q (.bool (!b)) σ) σ) F σ
  | .cmp op l r, Q, F, σ => vE Φ l (fun a σ => vE Φ r (fun b σ => opCmp op a b Q σ) F σ) F σ
  | .and l r, Q, F, σ => vE Φ l (fun a σ => truth a (fun b σ => if b then vE Φ r Q F σ else Q a σ) σ) F σ
  | .or l r, Q, F, σ => vE Φ l (fun a σ => truth a (fun b σ => if b then Q a σ else vE Φ r Q F σ) σ) F σ
  | .ite c a b, Q, F, σ => vT Φ c (fun t σ => if t then vE Φ a Q F σ else vE Φ b Q F σ) F σ
  | .sub o i, Q, F, σ => vE Φ o (fun a σ => vE Φ i (fun b σ => opSub a b Q σ) F σ) F σ
  | .slice o lo hi st, Q, F, σ => vE Φ o (fun a σ => vO Φ lo (fun l σ => vO Φ hi (fun h σ => vO Φ st (fun s σ => opSlice a l h s Q σ) F σ) F σ) F σ) F σ
  | .list es, Q, F, σ => vEs Φ es (fun vs σ => newL vs Q σ) F σ
  | .tuple es, Q, F, σ => vEs Φ es (fun vs σ => vs.length ≤ BIG ∧ Q (.tup vs) σ) F σ
  | .call f es, Q, F, σ => vEs Φ es (fun vs σ => opCall f vs Q σ) F σ
  | .ucall f es, Q, F, σ => vEs Φ es (fun vs σ => Φ f vs Q σ) F σ
  | .meth m o es, Q, F, σ => vE Φ o (fun a σ => (∃ b xs, a = .ref b ∧ σ b = some (.list xs)) ∧ vEs Φ es (fun vs σ => opMeth m a vs Q σ) F σ) F σ
  | .comp fmap elt t k it ifs, Q, F, σ => vE Φ it (fun x σ => itStart k x (fun I σ =>
      ∃ Inv : Nat → It → List V → Hp → Prop, (∃ n, Inv n I [] σ) ∧ ∀ n I acc σ, Inv n I acc σ →
        match itNext I σ with
        | none => False
        | some none => newL acc Q σ
        | some (some (x, I')) => bindT t x (fun F1 => vTs Φ ifs (fun b σ => if b then vE Φ elt (fun y σ => acc.length < BIG ∧ ∃ m, m < n ∧ Inv m I' (acc ++ [y]) σ) F1 σ else ∃ m, m < n ∧ Inv m I' acc σ) F1 σ)
            (fmap.map fun j => match j with | some j => (match F[j]? with | some v => v | none => none) | none => none) σ) σ) F σ
def vEs (Φ : Fns) : List PE → (List V → Hp → Prop) → Frm → Hp → Prop
  | [], Q, F, σ => Q [] σ
  | e :: es, Q, F, σ => vE Φ e (fun v σ => vEs Φ es (fun vs σ => Q (v :: vs) σ) F σ) F σ
def vO (Φ : Fns) : Option PE → (V → Hp → Prop) → Frm → Hp → Prop
  | .none, Q, F, σ => Q .none σ
  | some e, Q, F, σ => vE Φ e Q F σ
/-- a test -/
def vT (Φ : Fns) : PE → (Bool → Hp → Prop) → Frm → Hp → Prop
  | .not e, Q, F, σ => vT Φ e (fun b σ => Q (!b) σ) F σ
  | .and l r, Q, F, σ => vT Φ l (fun b σ => if b then vT Φ r Q F σ else Q false σ) F σ
  | .or l r, Q, F, σ => vT Φ l (fun b σ => if b then Q true σ else vT Φ r Q F σ) F σ
  | .cmp op l r, Q, F, σ => vE Φ l (fun a σ => vE Φ r (fun b σ => opCmp op a b (fun v σ => truth v Q σ) σ) F σ) F σ
  | .var i, Q, F, σ => match F[i]? with | some (some v) => truth v Q σ | _ => False
  | .call f es, Q, F, σ => vEs Φ es (fun vs σ => opCall f vs (fun v σ => truth v Q σ) σ) F σ
  | .ucall f es, Q, F, σ => vEs Φ es (fun vs σ => Φ f vs (fun v σ => truth v Q σ) σ) F σ
  | _, Q, F, σ => False
def vTs (Φ : Fns) : List PE → (Bool → Hp → Prop) → Frm → Hp → Prop
  | [], Q, F, σ => Q true σ
  | e :: es, Q, F, σ => vT Φ e (fun b σ => if b then vTs Φ es Q F σ else Q false σ) F σ
end

inductive PS where
  | expr (e : PE)
  | assign (t : Tgt) (e : PE)
  | setitem (o i e : PE)
  | aug (i : Nat) (op : Operator) (e : PE)
  | ifs (c : PE) (a b : List PS)
  | whil (c : PE) (b : List PS)
  | for (t : Tgt) (k : IK) (it : PE) (b : List PS)
  | ret (e : PE)
  | brk
  | cont

inductive Fl where
  | next | brk | cont
  | ret (v : V)

mutual
def vS (Φ : Fns) : PS → (Fl → Frm → Hp → Prop) → Frm → Hp → Prop
  | .expr e, Q, F, σ => vE Φ e (fun _ σ => Q .next F σ) F σ
  | .assign t e, Q, F, σ => vE Φ e (fun v σ => bindT t v (fun F' => Q .next F' σ) F σ) F σ
  | .setitem o i e, Q, F, σ => vE Φ e (fun v σ => vE Φ o (fun ov σ => vE Φ i (fun iv σ => opSet ov iv v (fun σ => Q .next F σ) σ) F σ) F σ) F σ
  | .aug i op e, Q, F, σ => match F[i]? with
    | some (some (.int x)) => vE Φ e (fun b σ => match b with | .int y => opBin op (.int x) (.int y) (fun v σ => Q .next (F.set i (some v)) σ) σ | _ => False) F σ
    | _ => False
  | .ifs c a b, Q, F, σ => vT Φ c (fun t σ => if t then vSs Φ a Q F σ else vSs Φ b Q F σ) F σ
  | .whil c b, Q, F, σ => ∃ Inv : Nat → Frm → Hp → Prop, (∃ n, Inv n F σ) ∧ ∀ n F σ, Inv n F σ →
      vT Φ c (fun t σ => if t then vSs Φ b (fun fl F σ => match fl with
        | .next => ∃ m, m < n ∧ Inv m F σ
        | .cont => ∃ m, m < n ∧ Inv m F σ
        | .brk => Q .next F σ
        | .ret v => Q (.ret v) F σ) F σ else Q .next F σ) F σ
  | .for t k it b, Q, F, σ => vE Φ it (fun x σ => itStart k x (fun I σ =>
      ∃ Inv : Nat → It → Frm → Hp → Prop, (∃ n, Inv n I F σ) ∧ ∀ n I F σ, Inv n I F σ →
        match itNext I σ with
        | none => False
        | some none => Q .next F σ
        | some (some (x, I')) => bindT t x (fun F1 => vSs Φ b (fun fl F σ => match fl with
          | .next => ∃ m, m < n ∧ Inv m I' F σ
          | .cont => ∃ m, m < n ∧ Inv m I' F σ
          | .brk => Q .next F σ
          | .ret v => Q (.ret v) F σ) F1 σ) F σ) σ) F σ
  | .ret e, Q, F, σ => vE Φ e (fun v σ => Q (.ret v) F σ) F σ
  | .brk, Q, F, σ => Q .brk F σ
  | .cont, Q, F, σ => Q .cont F σ
def vSs (Φ : Fns) : List PS → (Fl → Frm → Hp → Prop) → Frm → Hp → Prop
  | [], Q, F, σ => Q .next F σ
  | s :: ss, Q, F, σ => vS Φ s (fun fl F σ => match fl with
    | .next => vSs Φ ss Q F σ
    | fl => Q fl F σ) F σ
end


/-! the walk's equations -/
section
variable (Φ : Fns) (Q : V → Hp → Prop) (P : Bool → Hp → Prop) (R : Fl → Frm → Hp → Prop) (F : Frm) (σ : Hp)
theorem e_int (i : Int) : vE Φ (.int i) Q F σ = Q (.int i) σ := rfl
theorem e_bool (b : Bool) : vE Φ (.bool b) Q F σ = Q (.bool b) σ := rfl
theorem e_none : vE Φ .none Q F σ = Q .none σ := rfl
theorem e_str (s : Str) : vE Φ (.str s) Q F σ = Q (.str s) σ := rfl
theorem e_bin (op : Operator) (l r : PE) : vE Φ (.bin op l r) Q F σ = vE Φ l (fun a σ => vE Φ r (fun b σ => opBin op a b Q σ) F σ) F σ := rfl
theorem e_not (e : PE) : vE Φ (.not e) Q F σ = vE Φ e (fun a σ => truth a (fun b σ => Q (.bool (!b)) σ) σ) F σ := rfl
theorem e_cmp (op : CmpOp) (l r : PE) : vE Φ (.cmp op l r) Q F σ = vE Φ l (fun a σ => vE Φ r (fun b σ => opCmp op a b Q σ) F σ) F σ := rfl
theorem e_and (l r : PE) : vE Φ (.and l r) Q F σ = vE Φ l (fun a σ => truth a (fun b σ => if b then vE Φ r Q F σ else Q a σ) σ) F σ := rfl
theorem e_or (l r : PE) : vE Φ (.or l r) Q F σ = vE Φ l (fun a σ => truth a (fun b σ => if b then Q a σ else vE Φ r Q F σ) σ) F σ := rfl
theorem e_ite (c a b : PE) : vE Φ (.ite c a b) Q F σ = vT Φ c (fun t σ => if t then vE Φ a Q F σ else vE Φ b Q F σ) F σ := rfl
theorem e_sub (o i : PE) : vE Φ (.sub o i) Q F σ = vE Φ o (fun a σ => vE Φ i (fun b σ => opSub a b Q σ) F σ) F σ := rfl
theorem e_slice (o : PE) (lo hi st : Option PE) : vE Φ (.slice o lo hi st) Q F σ = vE Φ o (fun a σ => vO Φ lo (fun l σ => vO Φ hi (fun h σ => vO Φ st (fun s σ => opSlice a l h s Q σ) F σ) F σ) F σ) F σ := rfl
theorem e_list (es : List PE) : vE Φ (.list es) Q F σ = vEs Φ es (fun vs σ => newL vs Q σ) F σ := rfl
theorem e_tuple (es : List PE) : vE Φ (.tuple es) Q F σ = vEs Φ es (fun vs σ => vs.length ≤ BIG ∧ Q (.tup vs) σ) F σ := rfl
theorem e_call (f : BI) (es : List PE) : vE Φ (.call f es) Q F σ = vEs Φ es (fun vs σ => opCall f vs Q σ) F σ := rfl
theorem e_ucall (f : Nat) (es : List PE) : vE Φ (.ucall f es) Q F σ = vEs Φ es (fun vs σ => Φ f vs Q σ) F σ := rfl
theorem e_meth (m : Meth) (o : PE) (es : List PE) : vE Φ (.meth m o es) Q F σ = vE Φ o (fun a σ => (∃ b xs, a = .ref b ∧ σ b = some (.list xs)) ∧ vEs Φ es (fun vs σ => opMeth m a vs Q σ) F σ) F σ := rfl
theorem t_not (e : PE) : vT Φ (.not e) P F σ = vT Φ e (fun b σ => P (!b) σ) F σ := rfl
theorem t_and (l r : PE) : vT Φ (.and l r) P F σ = vT Φ l (fun b σ => if b then vT Φ r P F σ else P false σ) F σ := rfl
theorem t_or (l r : PE) : vT Φ (.or l r) P F σ = vT Φ l (fun b σ => if b then P true σ else vT Φ r P F σ) F σ := rfl
theorem t_cmp (op : CmpOp) (l r : PE) : vT Φ (.cmp op l r) P F σ = vE Φ l (fun a σ => vE Φ r (fun b σ => opCmp op a b (fun v σ => truth v P σ) σ) F σ) F σ := rfl
theorem t_call (f : BI) (es : List PE) : vT Φ (.call f es) P F σ = vEs Φ es (fun vs σ => opCall f vs (fun v σ => truth v P σ) σ) F σ := rfl
theorem t_ucall (f : Nat) (es : List PE) : vT Φ (.ucall f es) P F σ = vEs Φ es (fun vs σ => Φ f vs (fun v σ => truth v P σ) σ) F σ := rfl
theorem s_expr (e : PE) : vS Φ (.expr e) R F σ = vE Φ e (fun _ σ => R .next F σ) F σ := rfl
theorem s_assign (t : Tgt) (e : PE) : vS Φ (.assign t e) R F σ = vE Φ e (fun v σ => bindT t v (fun F' => R .next F' σ) F σ) F σ := rfl
theorem s_setitem (o i e : PE) : vS Φ (.setitem o i e) R F σ = vE Φ e (fun v σ => vE Φ o (fun ov σ => vE Φ i (fun iv σ => opSet ov iv v (fun σ => R .next F σ) σ) F σ) F σ) F σ := rfl
theorem s_ifs (c : PE) (a b : List PS) : vS Φ (.ifs c a b) R F σ = vT Φ c (fun t σ => if t then vSs Φ a R F σ else vSs Φ b R F σ) F σ := rfl
theorem s_ret (e : PE) : vS Φ (.ret e) R F σ = vE Φ e (fun v σ => R (.ret v) F σ) F σ := rfl
theorem s_brk : vS Φ .brk R F σ = R .brk F σ := rfl
theorem s_cont : vS Φ .cont R F σ = R .cont F σ := rfl
theorem r_var (i : Nat) : vE Φ (.var i) Q F σ = (match F[i]? with | some (some v) => Q v σ | _ => False) := rfl
theorem r_neg (e : PE) : vE Φ (.neg e) Q F σ = vE Φ e (fun a σ => match a with | .int x => Q (.int (-x)) σ | _ => False) F σ := rfl
theorem r_comp (fmap : List (Option Nat)) (elt : PE) (t : Tgt) (k : IK) (it : PE) (ifs : List PE) : vE Φ (.comp fmap elt t k it ifs) Q F σ = vE Φ it (fun x σ => itStart k x (fun I σ =>
      ∃ Inv : Nat → It → List V → Hp → Prop, (∃ n, Inv n I [] σ) ∧ ∀ n I acc σ, Inv n I acc σ →
        match itNext I σ with
        | none => False
        | some none => newL acc Q σ
        | some (some (x, I')) => bindT t x (fun F1 => vTs Φ ifs (fun b σ => if b then vE Φ elt (fun y σ => acc.length < BIG ∧ ∃ m, m < n ∧ Inv m I' (acc ++ [y]) σ) F1 σ else ∃ m, m < n ∧ Inv m I' acc σ) F1 σ)
            (fmap.map fun j => match j with | some j => (match F[j]? with | some v => v | none => none) | none => none) σ) σ) F σ := rfl
theorem r_tvar (i : Nat) : vT Φ (.var i) P F σ = (match F[i]? with | some (some v) => truth v P σ | _ => False) := rfl
theorem r_aug (i : Nat) (op : Operator) (e : PE) : vS Φ (.aug i op e) R F σ = (match F[i]? with
    | some (some (.int x)) => vE Φ e (fun b σ => match b with | .int y => opBin op (.int x) (.int y) (fun v σ => R .next (F.set i (some v)) σ) σ | _ => False) F σ
    | _ => False) := rfl
theorem r_while (c : PE) (b : List PS) : vS Φ (.whil c b) R F σ = ∃ Inv : Nat → Frm → Hp → Prop, (∃ n, Inv n F σ) ∧ ∀ n F σ, Inv n F σ →
      vT Φ c (fun t σ => if t then vSs Φ b (fun fl F σ => match fl with
        | .next => ∃ m, m < n ∧ Inv m F σ
        | .cont => ∃ m, m < n ∧ Inv m F σ
        | .brk => R .next F σ
        | .ret v => R (.ret v) F σ) F σ else R .next F σ) F σ := rfl
theorem r_for (t : Tgt) (k : IK) (it : PE) (b : List PS) : vS Φ (.for t k it b) R F σ = vE Φ it (fun x σ => itStart k x (fun I σ =>
      ∃ Inv : Nat → It → Frm → Hp → Prop, (∃ n, Inv n I F σ) ∧ ∀ n I F σ, Inv n I F σ →
        match itNext I σ with
        | none => False
        | some none => R .next F σ
        | some (some (x, I')) => bindT t x (fun F1 => vSs Φ b (fun fl F σ => match fl with
          | .next => ∃ m, m < n ∧ Inv m I' F σ
          | .cont => ∃ m, m < n ∧ Inv m I' F σ
          | .brk => R .next F σ
          | .ret v => R (.ret v) F σ) F1 σ) F σ) σ) F σ := rfl
theorem r_cons (s : PS) (ss : List PS) : vSs Φ (s :: ss) R F σ = vS Φ s (fun fl F σ => match fl with
    | .next => vSs Φ ss R F σ
    | fl => R fl F σ) F σ := rfl
theorem ss_nil : vSs Φ [] R F σ = R .next F σ := rfl
theorem es_nil (K : List V → Hp → Prop) : vEs Φ [] K F σ = K [] σ := rfl
theorem es_cons (K : List V → Hp → Prop) (e : PE) (es : List PE) : vEs Φ (e :: es) K F σ = vE Φ e (fun v σ => vEs Φ es (fun vs σ => K (v :: vs) σ) F σ) F σ := rfl
theorem o_none : vO Φ none Q F σ = Q .none σ := rfl
theorem o_some (e : PE) : vO Φ (some e) Q F σ = vE Φ e Q F σ := rfl
theorem ts_nil : vTs Φ [] P F σ = P true σ := rfl
theorem ts_cons (e : PE) (es : List PE) : vTs Φ (e :: es) P F σ = vT Φ e (fun b σ => if b then vTs Φ es P F σ else P false σ) F σ := rfl
end
/-! which syntax it is that of -/
structure Cfg where
  sc : List (Str × NameKind)
  fns : List Str
def isVar : NameKind → Bool
  | .local => true
  | .cell => true
  | .free => true
  | _ => false
def Cfg.names (c : Cfg) : List Str := (c.sc.filter fun x => isVar x.2).map (·.1)

def fmapOf (c : Cfg) (sc : List (Str × NameKind)) : List (Option Nat) :=
  (sc.filter fun x => isVar x.2).map fun x => if x.2 == .free then some (c.names.idxOf x.1) else none
def scOk (c : Cfg) (sc : List (Str × NameKind)) : Bool :=
  decide (sc.map (·.1)).Nodup && sc.all fun x => (x.2 != .free || (c.names.contains x.1 && c.sc.lookup x.1 != some .local)) && (isVar x.2 || x.2 == .globalImplicit) && x.2 != .cell

mutual
/-- a target -/
inductive CG : Cfg → Expr → Tgt → Prop
  | name {c : Cfg} {x : Str} {p : Pos} {i : Nat} : c.names[i]? = some x → c.sc.lookup x ≠ some .free → CG c (.Name x p) (.name i)
  | tup {c : Cfg} {es : List Expr} {k : Nat} {p : Pos} {is : List Nat} : CGs c es is → CG c (.Tuple es k p) (.tup is)
inductive CGs : Cfg → List Expr → List Nat → Prop
  | nil {c : Cfg} : CGs c [] []
  | cons {c : Cfg} {x : Str} {p : Pos} {i : Nat} {es : List Expr} {is : List Nat} : c.names[i]? = some x → c.sc.lookup x ≠ some .free → CGs c es is → CGs c (.Name x p :: es) (i :: is)
end
mutual
inductive CE : Cfg → Expr → PE → Prop
  | int {c : Cfg} {i : Int} {k : Nat} {p : Pos} : CE c (.Constant (.int i) k p) (.int i)
  | bool {c : Cfg} {b : Bool} {k : Nat} {p : Pos} : CE c (.Constant (.bool b) k p) (.bool b)
  | none {c : Cfg} {k : Nat} {p : Pos} : CE c (.Constant .none k p) .none
  | str {c : Cfg} {x : Str} {k : Nat} {p : Pos} : CE c (.Constant (.str x) k p) (.str x)
  | var {c : Cfg} {x : Str} {p : Pos} {i : Nat} : c.names[i]? = some x → (x == ("__debug__" : Str)) = false → (x == ("__classdict__" : Str)) = false → CE c (.Name x p) (.var i)
  | bin {c : Cfg} {l r : Expr} {op : Operator} {p : Pos} {a b : PE} : CE c l a → CE c r b → CE c (.BinOp l op r p) (.bin op a b)
  | neg {c : Cfg} {e : Expr} {p : Pos} {a : PE} : CE c e a → CE c (.UnaryOp .USub e p) (.neg a)
  | cmp {c : Cfg} {l r : Expr} {op : CmpOp} {p : Pos} {a b : PE} : CE c l a → CE c r b → behindInMarks op r = false → CE c (.Compare l [op] [r] p) (.cmp op a b)
  | ite {c : Cfg} {t l r : Expr} {p : Pos} {a b d : PE} : CT c t a → CE c l b → CE c r d → CE c (.IfExp t l r p) (.ite a b d)
  | sub {c : Cfg} {o i : Expr} {p : Pos} {a b : PE} : CE c o a → CE c i b → (∀ o v, subscripted i false o v = operate [o, v] (getItem o v)) → CE c (.Subscript o i p) (.sub a b)
  | slice {c : Cfg} {o : Expr} {lo hi st : Option Expr} {p q : Pos} {a : PE} {l h s : Option PE} : CE c o a → CO c lo l → CO c hi h → CO c st s → CE c (.Subscript o (.Slice lo hi st p) q) (.slice a l h s)
  | list {c : Cfg} {es : List Expr} {p : Pos} {as : List PE} : CEs c es as → CE c (.List es p) (.list as)
  | tuple {c : Cfg} {es : List Expr} {k : Nat} {p : Pos} {as : List PE} : CEs c es as → CE c (.Tuple es k p) (.tuple as)
  | call {c : Cfg} {x : Str} {f : BI} {es : List Expr} {p q : Pos} {as : List PE} : f.name = x → c.sc.lookup x = some .globalImplicit → CEs c es as → CE c (.Call (.Name x p) es [] q) (.call f as)
  | ucall {c : Cfg} {x : Str} {i : Nat} {es : List Expr} {p q : Pos} {as : List PE} : c.fns[i]? = some x → (x == ("__debug__" : Str)) = false → c.sc.lookup x = some .globalImplicit → es.length < 15 → CEs c es as → CE c (.Call (.Name x p) es [] q) (.ucall i as)
  | meth {c : Cfg} {o : Expr} {x : Str} {m : Meth} {es : List Expr} {ap q : Pos} {a : PE} {as : List PE} : m.name = x → (ap.endLine == q.line) = true → es.length < 15 → (∀ env, attributeBase o x env (eval o env) = eval o env) →
      CE c o a → CEs c es as → CE c (.Call (.Attribute o x ap) es [] q) (.meth m a as)
  | comp {c : Cfg} {elt t it : Expr} {k : IK} {ifs : List Expr} {scope : Scope} {p : Pos} {a b : PE} {tg : Tgt} {as : List PE} {fm : List (Option Nat)} : scOk c scope.names = true → scope.kind = .function → fm = fmapOf c scope.names →
      CI c it k b → (k = .enum → ∃ is, tg = .tup is) → CG { sc := scope.names, fns := c.fns } t tg → CE { sc := scope.names, fns := c.fns } elt a → CTs { sc := scope.names, fns := c.fns } ifs as → CE c (.ListComp elt [⟨t, it, ifs, 0⟩] scope p) (.comp fm a tg k b as)
inductive CEs : Cfg → List Expr → List PE → Prop
  | nil {c : Cfg} : CEs c [] []
  | cons {c : Cfg} {e : Expr} {a : PE} {es : List Expr} {as : List PE} : CE c e a → CEs c es as → (∀ env, starEach (e :: es) env = (false, eval e env) :: starEach es env) → CEs c (e :: es) (a :: as)
inductive CO : Cfg → Option Expr → Option PE → Prop
  | none {c : Cfg} : CO c none none
  | some {c : Cfg} {e : Expr} {a : PE} : CE c e a → CO c (some e) (some a)
/-- an iterable -/
inductive CI : Cfg → Expr → IK → PE → Prop
  | plain {c : Cfg} {e : Expr} {a : PE} : CE c e a → (∀ env x, foldedSetIterable e env x = pure x) → CI c e .plain a
  | enum {c : Cfg} {x : Str} {e : Expr} {a : PE} {p q : Pos} : (x = "enumerate") → c.sc.lookup x = some .globalImplicit → CE c e a → (∀ env, starEach [e] env = [(false, eval e env)]) → CI c (.Call (.Name x p) [e] [] q) .enum a
/-- a test -/
inductive CT : Cfg → Expr → PE → Prop
  | not {c : Cfg} {e : Expr} {p : Pos} {a : PE} : CT c e a → CT c (.UnaryOp .Not e p) (.not a)
  | and {c : Cfg} {l r : Expr} {p : Pos} {a b : PE} : CT c l a → CT c r b → CT c (.BoolOp .And [l, r] p) (.and a b)
  | or {c : Cfg} {l r : Expr} {p : Pos} {a b : PE} : CT c l a → CT c r b → CT c (.BoolOp .Or [l, r] p) (.or a b)
  | cmp {c : Cfg} {l r : Expr} {op : CmpOp} {p : Pos} {a b : PE} : CE c l a → CE c r b → behindInMarks op r = false → CT c (.Compare l [op] [r] p) (.cmp op a b)
  | var {c : Cfg} {x : Str} {p : Pos} {i : Nat} : CE c (.Name x p) (.var i) → CT c (.Name x p) (.var i)
  | call {c : Cfg} {x : Str} {f : BI} {es : List Expr} {p q : Pos} {as : List PE} : CE c (.Call (.Name x p) es [] q) (.call f as) → CT c (.Call (.Name x p) es [] q) (.call f as)
  | ucall {c : Cfg} {x : Str} {i : Nat} {es : List Expr} {p q : Pos} {as : List PE} : CE c (.Call (.Name x p) es [] q) (.ucall i as) → CT c (.Call (.Name x p) es [] q) (.ucall i as)
inductive CTs : Cfg → List Expr → List PE → Prop
  | nil {c : Cfg} : CTs c [] []
  | cons {c : Cfg} {e : Expr} {a : PE} {es : List Expr} {as : List PE} : CT c e a → CTs c es as → CTs c (e :: es) (a :: as)
end

/-! Fw6 -/
/-- a frame bears F -/
structure FrOk (c : Cfg) (env : Env) (own : Addr → Prop) (F : Frm) (h₀ : Heap) (σ : Hp) (h : Heap) : Prop where
  kind : env.scope.kind = .function
  glob : env.globals = mainGlobals
  bi : env.builtins = builtinsNs
  gk : ∀ x, c.sc.lookup x = some .globalImplicit → env.kindOf x = some .globalImplicit
  vk : ∀ (i : Nat) x, c.names[i]? = some x → (c.sc.lookup x = some .local ∧ env.kindOf x = some .local) ∨ (c.sc.lookup x = some .cell ∧ env.kindOf x = some .cell) ∨
    (c.sc.lookup x = some .free ∧ (env.kindOf x = some .cell ∨ env.kindOf x = some .free))
  ns : ∃ m, h.Ns env.locals m ∧ ∀ (i : Nat) x v, c.names[i]? = some x → env.kindOf x = some .local → F[i]? = some (some v) → ∃ w, m x = some w ∧ Rep h w v
  cell : ∀ (i : Nat) x, c.names[i]? = some x → env.kindOf x ≠ some .local → ∃ a cv, env.cells.lookup x = some a ∧ h.IsCell a cv ∧ σ a = none ∧ a ≠ env.locals ∧
    (c.sc.lookup x = some .cell → own a ∧ h₀.get? a = none) ∧ (∀ v, F[i]? = some (some v) → ∃ w, cv = some w ∧ Rep h w v)
  inj : ∀ x y a, env.cells.lookup x = some a → env.cells.lookup y = some a → x = y
  loc : own env.locals ∧ σ env.locals = none ∧ h₀.get? env.locals = none
  nd : ∀ (i j : Nat) x, c.names[i]? = some x → c.names[j]? = some x → i = j
  ex : ∀ a, own a → ∃ o, h.get? a = some o

section
variable {prog : Program} {w : World} {A : Around} {s : Shared} {h₀ : Heap} {mg mb : Str → Option Value} {σ σ' : Hp} {c : Cfg} {env : Env} {own : Addr → Prop} {F : Frm} {h h' : Heap}

theorem none_mut {σ : Hp} {a : Addr} (e : σ a = none) : ¬ Mut σ a := fun ⟨o, q, _⟩ => by rw [e] at q; cases q
theorem FrOk.step (f : FrOk c env own F h₀ σ h) (st : Step h₀ σ h σ' h') : FrOk c env own F h₀ σ' h' := by
  refine ⟨f.kind, f.glob, f.bi, f.gk, f.vk, ?_, fun i x e n => ?_, f.inj, ?_, f.nd, fun a oa => (f.ex a oa).elim fun o e => st.alive a o e⟩
  · obtain ⟨m, n, r⟩ := f.ns
    obtain ⟨o, es, ep, ho, q⟩ := n
    exact ⟨m, ⟨o, es, ep, st.keeps _ _ (none_mut f.loc.2.1) ho, q⟩, fun i x v e1 e2 e3 => by
      obtain ⟨w, e4, e5⟩ := r i x v e1 e2 e3
      exact ⟨w, e4, e5.step st⟩⟩
  · obtain ⟨a, cv, e1, ⟨o, e2, e2'⟩, e3, e4, e5, e6⟩ := f.cell i x e n
    refine ⟨a, cv, e1, ⟨o, st.keeps _ _ (none_mut e3) e2, e2'⟩, st.grow.none e2 e3, e4, e5, fun v hv => ?_⟩
    obtain ⟨w, q1, q2⟩ := e6 v hv
    exact ⟨w, q1, q2.step st⟩
  · obtain ⟨m, n, r⟩ := f.ns
    obtain ⟨o, es, ep, ho, q⟩ := n
    exact ⟨f.loc.1, st.grow.none ho f.loc.2.1, f.loc.2.2⟩

/-- the frame at a heap that has more -/
theorem FrOk.load (f : FrOk c env own F h₀ σ s.heap) {i : Nat} {x : Str} {v : V} (e : c.names[i]? = some x) (hv : F[i]? = some (some v)) (hcd : (x == ("__classdict__" : Str)) = false)
    {Q : Value → Shared → Prop} {E : Value → Shared → Prop} (q : ∀ w, Rep s.heap w v → Q w s) : wpAny (model prog w) A (loadName env x) Q E s := by
  rcases f.vk i x e with ⟨_, k⟩ | ⟨_, k⟩ | ⟨_, k | k⟩
  · obtain ⟨m, n, r⟩ := f.ns
    obtain ⟨w, e1, e2⟩ := r i x v e k hv
    exact wpAny_loadName_local f.kind k n e1 (q w e2)
  · obtain ⟨a, cv, e1, e2, e3, e4, e5, e6⟩ := f.cell i x e (by rw [k]; simp)
    obtain ⟨w, rfl, q2⟩ := e6 v hv
    exact wpAny_loadName_cell f.kind k e1 e2 (q w q2)
  · obtain ⟨a, cv, e1, e2, e3, e4, e5, e6⟩ := f.cell i x e (by rw [k]; simp)
    obtain ⟨w, rfl, q2⟩ := e6 v hv
    exact wpAny_loadName_cell f.kind k e1 e2 (q w q2)
  · obtain ⟨a, cv, e1, e2, e3, e4, e5, e6⟩ := f.cell i x e (by rw [k]; simp)
    obtain ⟨w, rfl, q2⟩ := e6 v hv
    exact wpAny_loadName_free f.kind k e1 e2 (q w q2) hcd

/-- a change of one's own object: the rest stays -/
theorem own_step {own : Addr → Prop} {a : Addr} (hw : W h₀ σ h) (oa : own a) (na : σ a = none) (ng : h₀.get? a = none) (sb : Heap.SameBut a h h') (ni : ∀ o, h.get? a = some o → ¬ Imm o)
    (al : ∀ o, h.get? a = some o → ∃ o', h'.get? a = some o') : StepX own h₀ σ h σ h' := by
  have keep : ∀ b o, b ≠ a → h.get? b = some o → h'.get? b = some o := fun b o n e => (sb.2 b n).trans e
  have tups : Tups h h' := fun b o e i => keep b o (by rintro rfl; exact ni o e i) e
  refine ⟨⟨fun b o e => keep b o (by rintro rfl; rw [ng] at e; cases e) (hw.stays b o e), fun b o e => ?_, hw.above, hw.small⟩, fun b o _ no e => keep b o (by rintro rfl; exact no oa) e, .refl _ _, tups, fun b o e => ?_⟩
  · have nb : b ≠ a := by rintro rfl; rw [na] at e; cases e
    have x := hw.holds b o e
    cases o with
    | list xs => obtain ⟨vs, n, e2, rr⟩ := x; exact ⟨vs, n, keep _ _ nb e2, rr.tups tups⟩
    | flist xs => obtain ⟨vs, ⟨o2, e2, r⟩, rr⟩ := x; exact ⟨vs, ⟨o2, keep _ _ nb e2, r⟩, rr.tups tups⟩
    | iter l i => obtain ⟨o2, e2, r⟩ := x; exact ⟨o2, keep _ _ nb e2, r⟩
  · by_cases q : b = a
    · subst q; exact al o e
    · exact ⟨o, keep b o q e⟩

theorem ns_not_imm {a : Addr} {m : Str → Option Value} (n : h.Ns a m) : ∀ o, h.get? a = some o → ¬ Imm o := fun o e i => by
  obtain ⟨o', es, ep, ho, hd, _⟩ := n
  rw [e] at ho; cases ho
  rcases i with ⟨_, vs, n, q⟩ | ⟨_, vs, q⟩ | ⟨fd, q⟩ <;> rw [hd] at q <;> cases q
theorem cell_not_imm {a : Addr} {v : Option Value} (n : h.IsCell a v) : ∀ o, h.get? a = some o → ¬ Imm o := fun o e i => by
  obtain ⟨o', ho, hd⟩ := n
  rw [e] at ho; cases ho
  rcases i with ⟨_, vs, n, q⟩ | ⟨_, vs, q⟩ | ⟨fd, q⟩ <;> rw [hd] at q <;> cases q

/-- storing a name -/
theorem FrOk.store (f : FrOk c env own F h₀ σ s.heap) (hw : W h₀ σ s.heap) {i : Nat} {x : Str} {vv : Value} {v : V} (e : c.names[i]? = some x) (nf : c.sc.lookup x ≠ some .free) (rv : Rep s.heap vv v)
    {Q : Unit → Shared → Prop} {E : Value → Shared → Prop} (q : ∀ s', Sm s s' → StepX own h₀ σ s.heap σ s'.heap → FrOk c env own (F.set i (some v)) h₀ σ s'.heap → Q () s') : wpAny (model prog w) A (storeName env x vv) Q E s := by
  have hi := (List.getElem?_eq_some_iff.mp e).1
  have same : ∀ (j : Nat) y (u : V), c.names[j]? = some y → (F.set i (some v))[j]? = some (some u) → (j = i ∧ u = v) ∨ (j ≠ i ∧ F[j]? = some (some u)) := fun j y u _ e2 => by
    by_cases q : j = i
    · subst q
      rw [List.getElem?_set_self'] at e2
      cases q2 : F[j]? with
      | none => rw [q2] at e2; cases e2
      | some z => rw [q2] at e2; simp at e2; exact .inl ⟨rfl, e2.symm⟩
    · rw [List.getElem?_set_ne (fun h => q h.symm)] at e2; exact .inr ⟨q, e2⟩
  rcases f.vk i x e with ⟨_, k⟩ | ⟨kc, k⟩ | ⟨k, _⟩
  · obtain ⟨m, n, r⟩ := f.ns
    refine wpAny_storeName_local k n (fun h' n' sb => ?_) (by rw [f.kind]; rfl)
    have st : StepX own h₀ σ s.heap σ h' := own_step hw f.loc.1 f.loc.2.1 f.loc.2.2 sb (ns_not_imm n) (fun o _ => by obtain ⟨o', _, _, ho, _⟩ := n'; exact ⟨o', ho⟩)
    refine q _ ⟨Eq.refl _, Eq.refl _⟩ st ⟨f.kind, f.glob, f.bi, f.gk, f.vk, ⟨_, n', fun j y u e1 e2 e3 => ?_⟩, fun j y e1 e2 => ?_, f.inj, f.loc, f.nd, fun a oa => (f.ex a oa).elim fun o e => st.alive a o e⟩
    · rcases same j y u e1 e3 with ⟨rfl, rfl⟩ | ⟨hj, e3⟩
      · rw [e] at e1; cases e1
        exact ⟨vv, if_pos rfl, rv.step st⟩
      · obtain ⟨w, e4, e5⟩ := r j y u e1 e2 e3
        refine ⟨w, ?_, e5.step st⟩
        show (if y = x then some vv else m y) = some w
        rw [if_neg (by rintro rfl; exact hj (f.nd _ _ _ e1 e))]; exact e4
    · obtain ⟨a, cv, g1, g2, g3, g4, g5, g6⟩ := f.cell j y e1 e2
      refine ⟨a, cv, g1, g2.sameBut sb g4, g3, g4, g5, fun u hu => ?_⟩
      rcases same j y u e1 hu with ⟨rfl, rfl⟩ | ⟨hj, e3⟩
      · rw [e] at e1; cases e1; exact absurd k e2
      · obtain ⟨w, q1, q2⟩ := g6 u e3
        exact ⟨w, q1, q2.step st⟩
  · obtain ⟨a, cv, g1, g2, g3, g4, g5, g6⟩ := f.cell i x e (by rw [k]; simp)
    refine wpAny_storeName_cell f.kind k g1 g2 fun h' n' sb => ?_
    have st : StepX own h₀ σ s.heap σ h' := own_step hw (g5 kc).1 g3 (g5 kc).2 sb (cell_not_imm g2) (fun o _ => by obtain ⟨o', ho, _⟩ := n'; exact ⟨o', ho⟩)
    refine q _ ⟨Eq.refl _, Eq.refl _⟩ st ⟨f.kind, f.glob, f.bi, f.gk, f.vk, ?_, fun j y e1 e2 => ?_, f.inj, f.loc, f.nd, fun a oa => (f.ex a oa).elim fun o e => st.alive a o e⟩
    · obtain ⟨m, n, r⟩ := f.ns
      refine ⟨m, n.sameBut sb (fun h => g4 h.symm), fun j y u e1 e2 e3 => ?_⟩
      rcases same j y u e1 e3 with ⟨rfl, rfl⟩ | ⟨hj, e3⟩
      · rw [e] at e1; cases e1; rw [k] at e2; cases e2
      · obtain ⟨w, e4, e5⟩ := r j y u e1 e2 e3
        exact ⟨w, e4, e5.step st⟩
    · obtain ⟨a', cv', g1', g2', g3', g4', g5', g6'⟩ := f.cell j y e1 e2
      by_cases hya : y = x
      · subst hya
        rw [g1] at g1'; cases g1'
        refine ⟨a, some vv, g1, n', g3, g4, g5', fun u hu => ?_⟩
        rcases same j _ u e1 hu with ⟨rfl, rfl⟩ | ⟨hj, e3⟩
        · exact ⟨vv, rfl, rv.step st⟩
        · exact absurd (f.nd _ _ _ e1 e) hj
      · have na : a' ≠ a := by rintro rfl; exact hya (f.inj _ _ _ g1' g1)
        refine ⟨a', cv', g1', g2'.sameBut sb na, g3', g4', g5', fun u hu => ?_⟩
        rcases same j y u e1 hu with ⟨rfl, rfl⟩ | ⟨hj, e3⟩
        · rw [e] at e1; cases e1; exact absurd rfl hya
        · obtain ⟨w, q1, q2⟩ := g6' u e3
          exact ⟨w, q1, q2.step st⟩
  · exact absurd k nf
end

/-! Fw7 -/
section
variable {prog : Program} {w : World} {A : Around} {s : Shared} {h₀ : Heap} {mg mb : Str → Option Value} {σ σ' σs : Hp} {c : Cfg} {env : Env} {own : Addr → Prop} {F : Frm} {h h' hs : Heap}

theorem FrOk.move (f : FrOk c env own F h₀ σ h) (kl : ∀ o, h.get? env.locals = some o → h'.get? env.locals = some o) (kc : ∀ x a, env.cells.lookup x = some a → ∀ o, h.get? a = some o → h'.get? a = some o)
    (t : Tups h h') (al : ∀ a, own a → ∃ o, h'.get? a = some o) : FrOk c env own F h₀ σ h' := by
  refine ⟨f.kind, f.glob, f.bi, f.gk, f.vk, ?_, fun i x e n => ?_, f.inj, f.loc, f.nd, al⟩
  · obtain ⟨m, n, r⟩ := f.ns
    obtain ⟨o, es, ep, ho, q⟩ := n
    exact ⟨m, ⟨o, es, ep, kl _ ho, q⟩, fun i x v e1 e2 e3 => by
      obtain ⟨w, e4, e5⟩ := r i x v e1 e2 e3
      exact ⟨w, e4, e5.tups t⟩⟩
  · obtain ⟨a, cv, e1, ⟨o, e2, e2'⟩, e3, e4, e5, e6⟩ := f.cell i x e n
    refine ⟨a, cv, e1, ⟨o, kc _ _ e1 _ e2, e2'⟩, e3, e4, e5, fun v hv => ?_⟩
    obtain ⟨w, q1, q2⟩ := e6 v hv
    exact ⟨w, q1, q2.tups t⟩

/-- objects beside all (iterators) change -/
def Beside (as : List Addr) (h₀ : Heap) (σ : Hp) (hs : Heap) : Prop := ∀ a ∈ as, hs.get? a = none ∧ σ a = none ∧ h₀.get? a = none
theorem W.slip {as : List Addr} (hw : W h₀ σ h) (b : ∀ a ∈ as, σ a = none ∧ h₀.get? a = none) (ni : ∀ a ∈ as, ∀ o, h.get? a = some o → ¬ Imm o) (k : ∀ b o, b ∉ as → h.get? b = some o → h'.get? b = some o) : W h₀ σ h' ∧ Tups h h' := by
  have tups : Tups h h' := fun a o e i => k a o (fun m => ni a m o e i) e
  refine ⟨⟨fun a o e => k a o (fun m => by rw [(b a m).2] at e; cases e) (hw.stays a o e), fun a o e => ?_, hw.above, hw.small⟩, tups⟩
  have na : a ∉ as := fun m => by rw [(b a m).1] at e; cases e
  have x := hw.holds a o e
  cases o with
  | list xs => obtain ⟨vs, n, e2, rr⟩ := x; exact ⟨vs, n, k _ _ na e2, rr.tups tups⟩
  | flist xs => obtain ⟨vs, ⟨o2, e2, r⟩, rr⟩ := x; exact ⟨vs, ⟨o2, k _ _ na e2, r⟩, rr.tups tups⟩
  | iter l i => obtain ⟨o2, e2, r⟩ := x; exact ⟨o2, k _ _ na e2, r⟩
theorem StepX.slip {as : List Addr} (x : StepX own h₀ σs hs σ h) (b : Beside as h₀ σ hs) (ni : ∀ a ∈ as, ∀ o, h.get? a = some o → ¬ Imm o) (k : ∀ b o, b ∉ as → h.get? b = some o → h'.get? b = some o) : StepX own h₀ σs hs σ h' := by
  obtain ⟨w', tups⟩ := x.w.slip (fun a m => (b a m).2) ni k
  have old : ∀ a o, hs.get? a = some o → a ∉ as := fun a o e m => by rw [(b a m).1] at e; cases e
  exact ⟨w', fun a o n m e => k a o (old a o e) (x.keep a o n m e), x.grow, fun a o e i => k a o (old a o e) (x.tups a o e i), fun a o e => by
    obtain ⟨o', e'⟩ := x.alive a o e
    exact ⟨o', k a o' (old a o e) e'⟩⟩

/-- an iterator of the machine, beside the abstract heap -/
def ItRep (h : Heap) (v : Value) (as : List Addr) : It → Prop
  | .lst a i => ∃ I, v = .ref I ∧ as = [I] ∧ h.IsListIter I a i
  | .rng x n c => ∃ I, v = .ref I ∧ as = [I] ∧ IsRangeIter h I x n c
  | .vals vs => ∃ I t k ws, v = .ref I ∧ as = [I] ∧ h.IsTupleIter I t k ∧ h.IsTuple t (ws : List Value).toArray ∧ Reps h (ws.drop k) vs
  | .enm k a => ∃ e I old, v = .ref e ∧ as = [e, I] ∧ e ≠ I ∧ IsEnum h e I k old ∧ h.IsListIter I a k
theorem ItRep.notImm {v : Value} {as : List Addr} {it : It} (r : ItRep h v as it) : ∀ a ∈ as, ∀ o, h.get? a = some o → ¬ Imm o := by
  intro a m o e i
  cases it with
  | lst b k => obtain ⟨I, _, rfl, o', e', c', d'⟩ := r; simp at m; subst m; rw [e] at e'; cases e'; rcases i with ⟨i, _⟩ | ⟨i, _⟩ | ⟨fd, i⟩ <;> simp_all
  | rng x n c => obtain ⟨I, _, rfl, e'⟩ := r; simp at m; subst m; have e2 := e.symm.trans e'; cases e2; rcases i with ⟨i, _⟩ | ⟨i, _⟩ | ⟨fd, i⟩ <;> simp_all
  | vals vs => obtain ⟨I, t, k, ws, _, rfl, ⟨o', e', c', d'⟩, _⟩ := r; simp at m; subst m; rw [e] at e'; cases e'; rcases i with ⟨i, _⟩ | ⟨i, _⟩ | ⟨fd, i⟩ <;> simp_all
  | enm k b =>
    obtain ⟨e1, I, old, _, rfl, _, e', o', e2, c', d'⟩ := r
    simp at m
    rcases m with rfl | rfl
    · have e3 := e.symm.trans e'; cases e3; rcases i with ⟨i, _⟩ | ⟨i, _⟩ | ⟨fd, i⟩ <;> simp_all
    · rw [e] at e2; cases e2; rcases i with ⟨i, _⟩ | ⟨i, _⟩ | ⟨fd, i⟩ <;> simp_all
/-- it stands where its own objects stand -/
theorem ItRep.move {v : Value} {as : List Addr} {it : It} (r : ItRep h v as it) (k : ∀ a ∈ as, ∀ o, h.get? a = some o → h'.get? a = some o) (t : Tups h h') : ItRep h' v as it := by
  cases it with
  | lst b j => obtain ⟨I, rfl, rfl, o', e', q⟩ := r; exact ⟨I, rfl, rfl, o', k I (by simp) _ e', q⟩
  | rng x n c => obtain ⟨I, rfl, rfl, e'⟩ := r; exact ⟨I, rfl, rfl, k I (by simp) _ e'⟩
  | vals vs =>
    obtain ⟨I, t', j, ws, rfl, rfl, ⟨o', e', q⟩, ⟨o2, e2, c2, n2, d2⟩, rr⟩ := r
    exact ⟨I, t', j, ws, rfl, rfl, ⟨o', k I (by simp) _ e', q⟩, ⟨o2, t _ _ e2 (.inl ⟨c2, _, _, d2⟩), c2, n2, d2⟩, rr.tups t⟩
  | enm j b =>
    obtain ⟨e1, I, old, rfl, rfl, hne, e', o', e2, q⟩ := r
    exact ⟨e1, I, old, rfl, rfl, hne, k e1 (by simp) _ e', o', k I (by simp) _ e2, q⟩

/-- the next item -/
theorem next_item {v : Value} {as : List Addr} {it it' : It} {x : V} (hh : A.handled = none) (hw : W h₀ σ s.heap) (r : ItRep s.heap v as it) (b : ∀ a ∈ as, σ a = none ∧ h₀.get? a = none)
    (hn : itNext it σ = some (some (x, it'))) (hk : (∀ k a, it = .enm k a → False)) {Q : Option Value → Shared → Prop} {E : Value → Shared → Prop}
    (q : ∀ y s', Sm s s' → Rep s'.heap y x → ItRep s'.heap v as it' → (∀ b o, b ∉ as → s.heap.get? b = some o → s'.heap.get? b = some o) → Q (some y) s') : wpAny (model prog w) A (pyNext v) Q E s := by
  cases it with
  | lst a i =>
    obtain ⟨I, rfl, rfl, hi⟩ := r
    simp only [itNext] at hn
    cases e : listAt σ a with
    | none => rw [e] at hn; cases hn
    | some xs =>
      rw [e] at hn
      dsimp only at hn
      cases e2 : xs[i]? with
      | none => rw [e2] at hn; cases hn
      | some z =>
        rw [e2] at hn; cases hn
        obtain ⟨vs, hl, rr⟩ := hw.list e
        obtain ⟨y, e3, ry⟩ := rr.get e2
        refine wpAny_pyNext_list_item hi hl (by simpa using e3) fun h' hi' sb => ?_
        have k : ∀ b o, b ∉ [I] → s.heap.get? b = some o → h'.get? b = some o := fun b o n e => sb.extBut b o (by simpa using n) e
        have t := (hw.slip (as := [I]) b (ItRep.notImm (it := .lst a i) ⟨I, rfl, rfl, hi⟩) k).2
        exact q _ _ ⟨Eq.refl _, Eq.refl _⟩ (ry.tups t) ⟨I, rfl, rfl, hi'⟩ k
  | rng a n cc =>
    obtain ⟨I, rfl, rfl, hi⟩ := r
    cases n with
    | zero => simp [itNext] at hn
    | succ n =>
      simp only [itNext] at hn; cases hn
      refine wpAny_pyNext_range_item hi (by omega) fun h' hi' sb => ?_
      have k : ∀ b o, b ∉ [I] → s.heap.get? b = some o → h'.get? b = some o := fun b o n e => sb.extBut b o (by simpa using n) e
      refine q _ _ ⟨Eq.refl _, Eq.refl _⟩ (.int _ _) ⟨I, rfl, rfl, ?_⟩ k
      have : ((n + 1 : Nat) : Int) - 1 = (n : Int) := by omega
      rw [this] at hi'; exact hi'
  | vals vs =>
    obtain ⟨I, t, k0, ws, rfl, rfl, hi, ht, rr⟩ := r
    cases vs with
    | nil => simp [itNext] at hn
    | cons z zs =>
      simp only [itNext] at hn; cases hn
      have hk0 : k0 < ws.length := by
        rcases Nat.lt_or_ge k0 ws.length with h | h
        · exact h
        · rw [List.drop_eq_nil_of_le h] at rr; cases rr
      rw [List.drop_eq_getElem_cons hk0] at rr
      cases rr with
      | cons ry rr => ?_
      refine wpAny_pyNext_tuple_item hi ht (by simp [hk0]; rfl) fun h' hi' sb => ?_
      have k : ∀ b o, b ∉ [I] → s.heap.get? b = some o → h'.get? b = some o := fun b o n e => sb.extBut b o (by simpa using n) e
      have t2 := (hw.slip (as := [I]) b (ItRep.notImm (it := .vals (x :: zs)) ⟨I, t, k0, ws, rfl, rfl, hi, ht, by rw [List.drop_eq_getElem_cons hk0]; exact .cons ry rr⟩) k).2
      refine q _ _ ⟨Eq.refl _, Eq.refl _⟩ (ry.tups t2) ⟨I, t, k0 + 1, ws, rfl, rfl, hi', ?_, rr.tups t2⟩ k
      obtain ⟨o2, e2, c2, n2, d2⟩ := ht
      exact ⟨o2, t2 _ _ e2 (.inl ⟨c2, _, _, d2⟩), c2, n2, d2⟩
  | enm k a => exact (hk _ _ rfl).elim

theorem next_end {v : Value} {as : List Addr} {it : It} (hh : A.handled = none) (hw : W h₀ σ s.heap) (r : ItRep s.heap v as it)
    (hn : itNext it σ = some none) {Q : Option Value → Shared → Prop} {E : Value → Shared → Prop}
    (q : ∀ s', Sm s s' → (∀ b o, b ∉ as → s.heap.get? b = some o → s'.heap.get? b = some o) → Q none s') : wpAny (model prog w) A (pyNext v) Q E s := by
  cases it with
  | lst a i =>
    obtain ⟨I, rfl, rfl, hi⟩ := r
    simp only [itNext] at hn
    cases e : listAt σ a with
    | none => rw [e] at hn; cases hn
    | some xs =>
      rw [e] at hn
      dsimp only at hn
      cases e2 : xs[i]? with
      | some z => rw [e2] at hn; cases hn
      | none =>
        obtain ⟨vs, hl, rr⟩ := hw.list e
        have e3 : vs[i]? = none := by rw [List.getElem?_eq_none_iff] at e2 ⊢; rw [rr.length]; exact e2
        exact wpAny_pyNext_list_end hh hi hl (by simpa using e3) fun h' sb => q _ ⟨Eq.refl _, Eq.refl _⟩ fun b o n e => sb b o (by simpa using n) e
  | rng a n cc =>
    obtain ⟨I, rfl, rfl, hi⟩ := r
    cases n with
    | succ n => simp [itNext] at hn
    | zero => exact wpAny_pyNext_range_end hh hi (by omega) fun h' sb => q _ ⟨Eq.refl _, Eq.refl _⟩ fun b o n e => sb b o (by simpa using n) e
  | vals vs =>
    obtain ⟨I, t, k0, ws, rfl, rfl, hi, ht, rr⟩ := r
    cases vs with
    | cons z zs => simp [itNext] at hn
    | nil =>
      have hk0 : ws.length ≤ k0 := by
        have := rr.length; simp at this; omega
      exact wpAny_pyNext_tuple_end hh hi ht (by simp; exact hk0) fun h' sb => q _ ⟨Eq.refl _, Eq.refl _⟩ fun b o n e => sb b o (by simpa using n) e
  | enm k a =>
    obtain ⟨e1, I, old, rfl, rfl, hne, he, hi⟩ := r
    simp only [itNext] at hn
    cases e : listAt σ a with
    | none => rw [e] at hn; cases hn
    | some xs =>
      rw [e] at hn
      dsimp only at hn
      cases e2 : xs[k]? with
      | some z => rw [e2] at hn; cases hn
      | none =>
        obtain ⟨vs, hl, rr⟩ := hw.list e
        have e3 : vs[k]? = none := by rw [List.getElem?_eq_none_iff] at e2 ⊢; rw [rr.length]; exact e2
        exact wpAny_pyNext_enum_end hh he hi hl (by simpa using e3) fun h' sb => q _ ⟨Eq.refl _, Eq.refl _⟩ fun b o n e => sb b o (by simp at n; exact n.2) e

theorem next_enum {e1 I a : Addr} {k : Nat} {old : Value} {x : V} {it' : It} (hw : W h₀ σ s.heap) (hne : e1 ≠ I) (he : IsEnum s.heap e1 I k old) (hi : s.heap.IsListIter I a k) (b : ∀ a ∈ [e1, I], σ a = none ∧ h₀.get? a = none)
    (hn : itNext (.enm k a) σ = some (some (x, it'))) {elts : List Expr} {x1 : Nat} {pos : Pos} {Q : Option Value → Shared → Prop} {E : Value → Shared → Prop}
    (q : ∀ y s', wpAny (model prog w) A (letOwnedTupleGo (.Tuple elts x1 pos) (.ref e1) y) (fun _ s'' => Sm s s'' ∧ Rep s''.heap y x ∧ ItRep s''.heap (.ref e1) [e1, I] it' ∧ (∀ b o, b ∉ [e1, I] → s.heap.get? b = some o → s''.heap.get? b = some o)) E0 s' → Q (some y) s') :
    wpAny (model prog w) A (pyNext (.ref e1)) Q E s := by
  simp only [itNext] at hn
  cases e : listAt σ a with
  | none => rw [e] at hn; cases hn
  | some xs =>
    rw [e] at hn
    dsimp only at hn
    cases e2 : xs[k]? with
    | none => rw [e2] at hn; cases hn
    | some z =>
      rw [e2] at hn; cases hn
      obtain ⟨vs, hl, rr⟩ := hw.list e
      obtain ⟨y, e3, ry⟩ := rr.get e2
      refine wpAny_pyNext_enum_item he hi hl (by simpa using e3) hne fun h' eo hi' ht hz kk => q _ _ ?_
      have hlt : e1 < s.heap.objs.size := Heap.lt_size he
      refine wpAny_letOwnedTupleGo_enum eo fun h'' he' sb => ?_
      have k2 : ∀ b o, b ∉ [e1, I] → s.heap.get? b = some o → h''.get? b = some o := fun b o n e => by
        simp at n
        exact sb.extBut b o n.1 (kk b o n.1 n.2 e)
      have t := (hw.slip (as := [e1, I]) b (ItRep.notImm (it := .enm k a) ⟨e1, I, old, rfl, rfl, hne, he, hi⟩) k2).2
      refine ⟨⟨Eq.refl _, Eq.refl _⟩, ?_, ⟨e1, I, y, rfl, rfl, hne, ?_, hi'.extBut sb.extBut (Ne.symm hne)⟩, k2⟩
      · refine .tup (vs := [.int k s.toks, y]) ⟨_, sb.extBut _ _ (Nat.ne_of_gt hlt) ht, rfl, _, rfl⟩ (.cons (.int _ _) (.cons (ry.tups t) .nil))
      · have : ((k + 1 : Nat) : Int) = (k : Int) + 1 := by omega
        rw [this]; exact he'
end

/-! Fw8 -/
section
variable {prog : Program} {w : World} {A : Around} {s : Shared} {h₀ : Heap} {mg mb : Str → Option Value} {σ σ' σs : Hp} {c : Cfg} {env : Env} {own : Addr → Prop} {F : Frm} {h h' hs : Heap}

theorem beside_one (hw : W h₀ σ h) {a : Addr} (e : h.get? a = none) : h.get? a = none ∧ σ a = none ∧ h₀.get? a = none :=
  ⟨e, hw.fresh e, by cases q : h₀.get? a with | none => rfl | some o => rw [hw.stays a o q] at e; cases e⟩

def Started (en : Bool) (h₀ : Heap) (σ : Hp) (s : Shared) (P : It → Hp → Prop) (it : Value) (s' : Shared) : Prop :=
  Sm s s' ∧ ∃ I as, (∀ k a, I = .enm k a → en = true) ∧ ItRep s'.heap it as I ∧ Beside as h₀ σ s.heap ∧ (∀ b o, s.heap.get? b = some o → s'.heap.get? b = some o) ∧ P I σ

theorem start_plain {v : Value} {x : V} {P : It → Hp → Prop} (hw : W h₀ σ s.heap) (r : Rep s.heap v x) (q : itStart .plain x P σ) : wpAny (model prog w) A (pyIter v) (Started false h₀ σ s P) E0 s := by
  unfold itStart at q
  have b1 := beside_one hw (get_push_none s.heap)
  split at q
  · obtain ⟨⟨xs, e⟩, q⟩ := q
    cases r
    obtain ⟨vs, hl, rr⟩ := hw.list e
    exact wpAny_pyIter_list hl ⟨⟨Eq.refl _, Eq.refl _⟩, .lst _ 0, [s.heap.objs.size], (by intro k a e; cases e), ⟨_, rfl, rfl, _, Heap.get?_push_size _ rfl, rfl, rfl⟩, by intro a m; simp at m; subst m; exact b1, fun b o e => Heap.get?_push_of_some _ e, q⟩
  · obtain ⟨ok, q⟩ := q
    cases r with
    | rng hr =>
    refine wpAny_pyIter_range hr (rok_small ok) ⟨⟨Eq.refl _, Eq.refl _⟩, .rng _ _ _, [s.heap.objs.size], (by intro k a e; cases e), ⟨_, rfl, rfl, ?_⟩, by intro a m; simp at m; subst m; exact b1, fun b o e => Heap.get?_push_of_some _ e, q⟩
    rw [rok_size ok]; exact Heap.get?_push_size _ rfl
  · cases r with
    | tup y rr =>
    rename_i a ws
    refine wpAny_pyIter_tuple (items := ws.toArray) y ⟨⟨Eq.refl _, Eq.refl _⟩, .vals _, [s.heap.objs.size], (by intro k a e; cases e), ⟨_, a, 0, ws, rfl, rfl, ⟨_, Heap.get?_push_size _ rfl, rfl, rfl⟩, Heap.IsTuple.push y _, ?_⟩, by intro a m; simp at m; subst m; exact b1, fun b o e => Heap.get?_push_of_some _ e, q⟩
    exact rr.tups fun a o e _ => Heap.get?_push_of_some _ e
  all_goals first | exact q.elim | (exfalso; simp_all)

theorem start_enum {a : Addr} {P : It → Hp → Prop} (hw : W h₀ σ s.heap) (q : itStart .enum (.ref a) P σ) :
    wpAny (model prog w) A (call (.type "enumerate") [.ref a]) (fun v s' => (∀ Q E, Q v s' → wpAny (model prog w) A (pyIter v) Q E s') ∧ Started true h₀ σ s P v s') E0 s := by
  obtain ⟨⟨xs, e⟩, q⟩ := q
  obtain ⟨vs, n, g, r⟩ := hw.mlist e
  refine call_enumerate_1 g fun h' he hi hz k => ⟨fun Q E q => wpAny_pyIter_enum he q, ⟨Eq.refl _, Eq.refl _⟩, .enm 0 _, [s.heap.objs.size + 1, s.heap.objs.size], (fun _ _ _ => rfl), ⟨_, _, _, rfl, rfl, Nat.succ_ne_self _, he, hi⟩, ?_, k, q⟩
  have n1 : s.heap.get? (s.heap.objs.size + 1) = none := by
    cases e : s.heap.get? (s.heap.objs.size + 1) with
    | none => rfl
    | some o => exact absurd (Heap.lt_size e) (Nat.not_lt_of_le (Nat.le_succ _))
  intro a m
  simp at m
  rcases m with rfl | rfl
  · exact beside_one hw n1
  · exact beside_one hw (get_push_none _)

/-- names in order -/
theorem store_all : ∀ {es : List Expr} {is : List Nat}, CGs c es is → ∀ {F : Frm} {s : Shared} {ys : List Value} {xs : List V}, W h₀ σ s.heap → FrOk c env own F h₀ σ s.heap → Reps s.heap ys xs → is.length = xs.length →
    ∀ {Q : Unit → Shared → Prop} {E : Value → Shared → Prop}, (∀ s', Sm s s' → StepX own h₀ σ s.heap σ s'.heap → FrOk c env own (setAll is xs F) h₀ σ s'.heap → Q () s') → wpAny (model prog w) A (assignInOrder ((assignEach es env).map (·.2)) ys) Q E s
  | _, _, .nil, F, s, ys, xs, hw, hf, r, hl, Q, E, q => by
    cases r with
    | nil => exact wpAny_pure (q s .rfl (.refl hw) hf)
    | cons _ _ => simp at hl
  | _, _, .cons (x := x) (p := p) (i := i) (es := es) (is := is) e nf hr, F, s, ys, xs, hw, hf, r, hl, Q, E, q => by
    cases r with
    | nil => simp at hl
    | cons r1 rs =>
      rename_i v x1 vs xs
      show wpAny _ A (do holding vs (assign (.Name x p) env v); assignInOrder ((assignEach es env).map (·.2)) vs) _ _ _
      refine wpAny_bind (wpAny_holding (wpAny_assign_Name (hf.store hw e nf r1 fun s' m st hf' => ?_)))
      refine store_all hr st.w hf' (rs.step st) (by simpa using hl) fun s'' m' st' hf'' => q s'' (m.trans m') (st.trans st') hf''

theorem cgs_len : ∀ {es : List Expr} {is : List Nat}, CGs c es is → (assignEach es env).length = is.length ∧ (assignEach es env).findIdx? (·.1) = none
  | _, _, .nil => ⟨rfl, rfl⟩
  | _, _, .cons (es := es) _ _ hr => by
    have ih := cgs_len hr
    refine ⟨by show (assignEach es env).length + 1 = _; rw [ih.1]; rfl, ?_⟩
    show List.findIdx? _ ((false, _) :: assignEach es env) = none
    rw [List.findIdx?_cons]
    simp [ih.2]

theorem assign_ok {t : Expr} {tg : Tgt} {y : Value} {x : V} {P : Frm → Prop} (hg : CG c t tg) (hh : A.handled = none) (hw : W h₀ σ s.heap) (hf : FrOk c env own F h₀ σ s.heap) (r : Rep s.heap y x) (q : bindT tg x P F σ)
    {Q : Unit → Shared → Prop} {E : Value → Shared → Prop} (k : ∀ s' F1, P F1 → Sm s s' → StepX own h₀ σ s.heap σ s'.heap → FrOk c env own F1 h₀ σ s'.heap → Q () s') :
    wpAny (model prog w) A (assign t env y) Q E s := by
  cases hg with
  | name e nf => exact wpAny_assign_Name (hf.store hw e nf r fun s' m st hf' => k s' _ q m st hf')
  | tup hgs =>
    unfold bindT at q
    split at q
    · rename_i hh2; cases hh2
    · rename_i hh2; cases hh2
      obtain ⟨hl, q⟩ := q
      cases r with
      | tup z rr =>
      obtain ⟨l1, l2⟩ := cgs_len (env := env) hgs
      refine wpAny_assign_Tuple hh z (by rw [l1, hl]; simp [rr.length]) l2 fun h' ext => ?_
      have st : Step h₀ σ s.heap σ h' := hw.extend fun b o e => ext b o (Nat.ne_of_lt (Heap.lt_size e)) e
      refine store_all hgs (s := { s with heap := h' }) st.w (hf.step st) (rr.step st) hl fun s'' m st' hf' => k s'' _ q (Sm.trans ⟨Eq.refl _, Eq.refl _⟩ m) ((Step.any st).trans st') hf'
    · exact q.elim
end

/-! Fw9 -/
/-! the frame of a comprehension -/
def clGo (env : Env) : List (Str × NameKind) → List (Str × Addr) → List (Str × Addr)
  | [], acc => acc
  | (n, k) :: r, acc => if k == .free then clGo env r ((n, (env.cells.lookup n).getD 0) :: acc) else clGo env r acc
theorem closure_go {env : Env} (f : Str × NameKind → List (Str × Addr) → Sem (ForInStep (List (Str × Addr))))
    (hf : ∀ n k cs, f (n, k) cs = if k == .free then (do let a ← cellOf env n; pure (.yield ((n, a) :: cs))) else pure (.yield cs)) :
    ∀ (names : List (Str × NameKind)) (acc : List (Str × Addr)), (∀ n, (n, NameKind.free) ∈ names → (env.cells.lookup n).isSome = true) → forIn names acc f = pure (clGo env names acc)
  | [], acc, _ => by rw [List.forIn_nil]; rfl
  | (n, k) :: r, acc, h => by
    rw [List.forIn_cons, hf]
    unfold clGo
    by_cases q : (k == NameKind.free) = true
    · rw [if_pos q, if_pos q]
      have e : k = .free := by simpa using q
      subst e
      obtain ⟨a, ha⟩ := Option.isSome_iff_exists.mp (h n (.head _))
      have : cellOf env n = pure a := by unfold cellOf; rw [ha]
      rw [this]
      show (forIn r ((n, a) :: acc) f) = _
      rw [closure_go f hf r _ (fun m hm => h m (.tail _ hm)), ha]; rfl
    · rw [if_neg q, if_neg q]
      show (forIn r acc f) = _
      exact closure_go f hf r _ (fun m hm => h m (.tail _ hm))
theorem closureFor_eq {env : Env} {scope : Scope} (h : ∀ n, (n, NameKind.free) ∈ scope.names → (env.cells.lookup n).isSome = true) : closureFor scope env = pure (clGo env scope.names []) := by
  simp only [closureFor]
  rw [closure_go (env := env) _ (fun n k cs => ?_) scope.names [] h]
  · rfl
  · cases hk : k == NameKind.free <;> simp

theorem clGo_not {env : Env} {x : Str} : ∀ (names : List (Str × NameKind)) (acc : List (Str × Addr)), (x, NameKind.free) ∉ names → (clGo env names acc).lookup x = acc.lookup x
  | [], acc, _ => rfl
  | (n, k) :: r, acc, h => by
    unfold clGo
    split
    · rename_i q
      have e : k = .free := by simpa using q
      subst e
      rw [clGo_not r _ (fun m => h (.tail _ m)), List.lookup_cons]
      have : (x == n) = false := by
        cases q : x == n with
        | false => rfl
        | true => exact absurd (by rw [beq_iff_eq.mp q]; exact .head _) h
      rw [this]
    · exact clGo_not r _ (fun m => h (.tail _ m))
theorem clGo_free {env : Env} {x : Str} : ∀ (names : List (Str × NameKind)) (acc : List (Str × Addr)), (names.map (·.1)).Nodup → (x, NameKind.free) ∈ names → (clGo env names acc).lookup x = some ((env.cells.lookup x).getD 0)
  | (n, k) :: r, acc, nd, h => by
    unfold clGo
    simp only [List.map_cons, List.nodup_cons] at nd
    rcases List.mem_cons.mp h with e | h'
    · cases e
      rw [if_pos (by decide), clGo_not r _ (fun m => nd.1 (List.mem_map_of_mem (f := (·.1)) m)), List.lookup_cons]
      simp
    · split <;> exact clGo_free r _ nd.2 h'
theorem clGo_some {env : Env} {x : Str} {a : Addr} : ∀ (names : List (Str × NameKind)) (acc : List (Str × Addr)), (clGo env names acc).lookup x = some a → acc.lookup x = some a ∨ ((x, NameKind.free) ∈ names ∧ a = (env.cells.lookup x).getD 0)
  | [], acc, h => .inl h
  | (n, k) :: r, acc, h => by
    unfold clGo at h
    split at h
    · rename_i q
      have e : k = .free := by simpa using q
      subst e
      rcases clGo_some r _ h with q | ⟨q1, q2⟩
      · rw [List.lookup_cons] at q
        cases hx : x == n with
        | true => rw [hx] at q; cases q; have := beq_iff_eq.mp hx; subst this; exact .inr ⟨.head _, rfl⟩
        | false => rw [hx] at q; exact .inl q
      · exact .inr ⟨.tail _ q1, q2⟩
    · rcases clGo_some r _ h with q | ⟨q1, q2⟩
      · exact .inl q
      · exact .inr ⟨.tail _ q1, q2⟩

def relK (env : Env) (x : Str) (k : NameKind) : NameKind := if (k == .free && env.scope.kind == .function && env.kindOf x == some .cell) then .cell else k
theorem lookup_relabel {env : Env} {x : Str} : ∀ (names : List (Str × NameKind)),
    (names.map fun (n, k) => if (k == NameKind.free && env.scope.kind == .function && env.kindOf n == some .cell) then (n, NameKind.cell) else (n, k)).lookup x = (names.lookup x).map (relK env x)
  | [] => rfl
  | (n, k) :: r => by
    have ih := lookup_relabel (env := env) (x := x) r
    show List.lookup x ((if (k == NameKind.free && env.scope.kind == .function && env.kindOf n == some .cell) = true then (n, NameKind.cell) else (n, k)) :: _) = _
    cases hx : x == n with
    | true =>
      have := beq_iff_eq.mp hx; subst this
      unfold relK
      by_cases hc : (k == NameKind.free && env.scope.kind == .function && env.kindOf x == some .cell) = true
      · rw [if_pos hc]; simp only [List.lookup_cons, beq_self_eq_true, Option.map_some, if_pos hc]
      · rw [if_neg hc]; simp only [List.lookup_cons, beq_self_eq_true, Option.map_some, if_neg hc]
    | false =>
      by_cases hc : (k == NameKind.free && env.scope.kind == .function && env.kindOf n == some .cell) = true
      · rw [if_pos hc]; simp only [List.lookup_cons, hx]; exact ih
      · rw [if_neg hc]; simp only [List.lookup_cons, hx]; exact ih

theorem lookup_of_nodup {x : Str} {k : NameKind} : ∀ {names : List (Str × NameKind)}, (names.map (·.1)).Nodup → (x, k) ∈ names → names.lookup x = some k
  | (n, k') :: r, nd, h => by
    simp only [List.map_cons, List.nodup_cons] at nd
    rw [List.lookup_cons]
    rcases List.mem_cons.mp h with e | h'
    · cases e; simp
    · have : (x == n) = false := by
        cases q : x == n with
        | false => rfl
        | true => exact absurd (by rw [← beq_iff_eq.mp q]; exact List.mem_map_of_mem (f := (·.1)) h') nd.1
      rw [this]; exact lookup_of_nodup nd.2 h'
theorem names_mem {c : Cfg} {i : Nat} {x : Str} (h : c.names[i]? = some x) : ∃ k, (c.sc.filter fun x => isVar x.2)[i]? = some (x, k) ∧ (x, k) ∈ c.sc ∧ isVar k = true := by
  unfold Cfg.names at h
  rw [List.getElem?_map] at h
  cases e : (c.sc.filter fun x => isVar x.2)[i]? with
  | none => rw [e] at h; cases h
  | some p =>
    rw [e] at h; cases h
    have := List.mem_of_getElem? e
    have := List.mem_filter.mp this
    exact ⟨p.2, rfl, this.1, this.2⟩
theorem getElem_inj {α : Type} {l : List α} (nd : l.Nodup) {i j : Nat} {x : α} (h1 : l[i]? = some x) (h2 : l[j]? = some x) : i = j := by
  obtain ⟨a, b⟩ := List.getElem?_eq_some_iff.mp h1
  obtain ⟨a', b'⟩ := List.getElem?_eq_some_iff.mp h2
  exact (List.getElem_inj nd).mp (b.trans b'.symm)
theorem nodup_names {c : Cfg} (nd : (c.sc.map (·.1)).Nodup) : c.names.Nodup := by
  unfold Cfg.names
  exact List.Nodup.sublist (List.Sublist.map _ List.filter_sublist) nd

def innerF (fm : List (Option Nat)) (F : Frm) : Frm := fm.map fun j => match j with | some j => (match F[j]? with | some v => v | none => none) | none => none

theorem inner_ok {c : Cfg} {env : Env} {own : Addr → Prop} {F : Frm} {h₀ : Heap} {σ : Hp} {h h' : Heap} {scope : Scope} {C : Addr} {cl : List (Str × Addr)} (hf : FrOk c env own F h₀ σ h) (ok : scOk c scope.names = true) (hk : scope.kind = .function)
    (hcl : cl = clGo env scope.names []) (k : ∀ b o, h.get? b = some o → h'.get? b = some o) (hC : h.get? C = none) (hn : h'.Ns C fun _ => none) (hσ : σ C = none) (h0 : h₀.get? C = none) :
    FrOk { sc := scope.names, fns := c.fns } (compEnvC scope cl C env) (fun a => a = C) (innerF (fmapOf c scope.names) F) h₀ σ h' := by
  simp only [scOk, Bool.and_eq_true, decide_eq_true_eq, List.all_eq_true] at ok
  obtain ⟨nd, ok⟩ := ok
  have t : Tups h h' := fun a o e _ => k a o e
  have kind : ∀ x, (compEnvC scope cl C env).kindOf x = (scope.names.lookup x).map (relK env x) := fun x => lookup_relabel scope.names
  have vark : ∀ (i : Nat) x, (Cfg.mk scope.names c.fns).names[i]? = some x → ∃ kk, (scope.names.filter fun x => isVar x.2)[i]? = some (x, kk) ∧ (x, kk) ∈ scope.names ∧ scope.names.lookup x = some kk ∧ (kk = .local ∨ kk = .free) := fun i x e => by
    obtain ⟨kk, e1, e2, e3⟩ := names_mem e
    refine ⟨kk, e1, e2, lookup_of_nodup nd e2, ?_⟩
    have := ok _ e2
    cases kk <;> simp_all [isVar]
  have freeOut : ∀ x, (x, NameKind.free) ∈ scope.names → c.names[c.names.idxOf x]? = some x ∧ (env.kindOf x = some .cell ∨ env.kindOf x = some .free) := fun x m => by
    have o := ok _ m
    simp at o
    have hx : x ∈ c.names := o.1.1
    have e : c.names[c.names.idxOf x]? = some x := by
      have hlt := List.idxOf_lt_length_iff.mpr hx
      rw [List.getElem?_eq_getElem hlt, List.getElem_idxOf hlt]
    refine ⟨e, ?_⟩
    rcases hf.vk _ _ e with ⟨q, _⟩ | ⟨_, q⟩ | ⟨_, q⟩
    · exact absurd q o.1.2
    · exact .inl q
    · exact q
  refine ⟨hk, hf.glob, hf.bi, fun x e => ?_, fun i x e => ?_, ⟨_, hn, fun i x v e1 e2 e3 => ?_⟩, fun i x e1 e2 => ?_, fun x y a e1 e2 => ?_, ⟨rfl, hσ, h0⟩, fun i j x e1 e2 => getElem_inj (nodup_names nd) e1 e2, fun a e => ?_⟩
  · rw [kind, show scope.names.lookup x = some NameKind.globalImplicit from e]; simp [relK]
  · obtain ⟨kk, _, m, l, q⟩ := vark i x e
    rcases q with rfl | rfl
    · exact .inl ⟨l, by rw [kind, l]; simp [relK]⟩
    · refine .inr (.inr ⟨l, ?_⟩)
      rw [kind, l]
      rcases (freeOut x m).2 with q | q
      · exact .inl (by simp [relK, hf.kind, q])
      · exact .inr (by simp [relK, q])
  · obtain ⟨kk, g, m, l, q⟩ := vark i x e1
    exfalso
    rcases q with rfl | rfl
    · unfold innerF fmapOf at e3
      rw [List.getElem?_map, List.getElem?_map, g] at e3
      simp at e3
    · rw [kind, l] at e2
      rcases (freeOut x m).2 with q | q
      · simp [relK, hf.kind, q] at e2
      · simp [relK, q] at e2
  · obtain ⟨kk, g, m, l, q⟩ := vark i x e1
    rcases q with rfl | rfl
    · exfalso; apply e2; rw [kind, l]; simp [relK]
    · obtain ⟨q1, q2⟩ := freeOut x m
      obtain ⟨a, cv, g1, g2, g3, g4, g5, g6⟩ := hf.cell _ _ q1 (by rcases q2 with q | q <;> rw [q] <;> simp)
      refine ⟨a, cv, ?_, g2.keeps k, g3, ?_, fun hh => ?_, fun v hv => ?_⟩
      · show cl.lookup x = some a
        rw [hcl, clGo_free _ _ nd m, g1]; rfl
      · rintro rfl; obtain ⟨o, ho, _⟩ := g2; rw [hC] at ho; cases ho
      · rw [show ({ sc := scope.names, fns := c.fns } : Cfg).sc.lookup x = some NameKind.free from l] at hh; cases hh
      · unfold innerF fmapOf at hv
        rw [List.getElem?_map, List.getElem?_map, g] at hv
        simp at hv
        obtain ⟨w, w1, w2⟩ := g6 v (by cases q : F[List.idxOf x c.names]? with | none => rw [q] at hv; cases hv | some z => rw [q] at hv; simp at hv; rw [hv])
        exact ⟨w, w1, w2.tups t⟩
  · have e1' : cl.lookup x = some a := e1
    have e2' : cl.lookup y = some a := e2
    rw [hcl] at e1' e2'
    rcases clGo_some _ _ e1' with q | ⟨m1, q1⟩
    · cases q
    rcases clGo_some _ _ e2' with q | ⟨m2, q2⟩
    · cases q
    obtain ⟨p1, p2⟩ := freeOut x m1
    obtain ⟨p1', p2'⟩ := freeOut y m2
    obtain ⟨a1, _, g1, _⟩ := hf.cell _ _ p1 (by rcases p2 with q | q <;> rw [q] <;> simp)
    obtain ⟨a2, _, g2, _⟩ := hf.cell _ _ p1' (by rcases p2' with q | q <;> rw [q] <;> simp)
    rw [g1] at q1; rw [g2] at q2
    simp at q1 q2
    exact hf.inj x y a1 g1 (by rw [g2, ← q2, q1])
  · have : a = C := e
    subst this
    obtain ⟨o, _, _, ho, _⟩ := hn
    exact ⟨o, ho⟩

/-! Fw10 -/
theorem BI.boot (f : BI) : bootBuiltins f.name = some f.val := by cases f <;> decide +kernel
theorem BI.notName (f : BI) : f.name ≠ ("__name__" : Str) ∧ (f.name == ("__debug__" : Str)) = false := by cases f <;> decide +kernel
theorem enum_boot : bootBuiltins ("enumerate" : Str) = some (.type "enumerate") := by decide +kernel

/-- a def of the text that keeps a contract -/
def FnOk (prog : Program) (w : World) (h₀ : Heap) (n : Nat) (fv : Value) (Φ : List V → (V → Hp → Prop) → Hp → Prop) : Prop :=
  ∃ fa o fd, fv = .ref fa ∧ h₀.get? fa = some o ∧ o.data = .func fd ∧ ∀ (A : Around) (s : Shared) (σ : Hp) (vargs : List Value) (args : List V) (Q : V → Hp → Prop), Room A n → W h₀ σ s.heap → Reps s.heap vargs args →
    Φ args Q σ → wpAny (model prog w) A (call (.ref fa) vargs) (PV h₀ σ s Q) E0 s
/-- what the ground must show of the names -/
structure NamesOk (prog : Program) (w : World) (h₀ : Heap) (mg : Str → Option Value) (n : Nat) (fns : List Str) (Φ : Fns) : Prop where
  bi : ∀ f : BI, mg f.name = none
  en : mg ("enumerate" : Str) = none
  fn : ∀ (i : Nat) x, fns[i]? = some x → ∃ fv, mg x = some fv ∧ FnOk prog w h₀ n fv (Φ i)

theorem PV.back {h₀ : Heap} {σ σ' : Hp} {s s₁ : Shared} {Q : V → Hp → Prop} {v : Value} {s' : Shared} (p : PV h₀ σ' s₁ Q v s') (st : Step h₀ σ s.heap σ' s₁.heap) (m : Sm s s₁) : PV h₀ σ s Q v s' := by
  obtain ⟨x, σ'', r, ⟨st', m'⟩, q⟩ := p; exact ⟨x, σ'', r, ⟨st.trans st', m.trans m'⟩, q⟩
theorem PB.back {h₀ : Heap} {σ σ' : Hp} {s s₁ : Shared} {Q : Bool → Hp → Prop} {v : Bool} {s' : Shared} (p : PB h₀ σ' s₁ Q v s') (st : Step h₀ σ s.heap σ' s₁.heap) (m : Sm s s₁) : PB h₀ σ s Q v s' := by
  obtain ⟨σ'', ⟨st', m'⟩, q⟩ := p; exact ⟨σ'', ⟨st.trans st', m.trans m'⟩, q⟩
def PVs (h₀ : Heap) (σ : Hp) (s : Shared) (Q : List V → Hp → Prop) (v : List Value) (s' : Shared) : Prop := ∃ x σ', Reps s'.heap v x ∧ (Step h₀ σ s.heap σ' s'.heap ∧ Sm s s') ∧ Q x σ'

theorem list_slots (m : Meth) : Slot "list" m.name m.id ∧ typeOf (.builtin m.id) = pure (.type "method_descriptor") := by
  cases m
  · exact ⟨PySem.F.slot_list_append, by kernel_rfl⟩
  · exact ⟨PySem.F.slot_list_extend, by kernel_rfl⟩
  · exact ⟨PySem.F.slot_list_pop, by kernel_rfl⟩
  · exact ⟨PySem.F.slot_list_index, by kernel_rfl⟩
  · exact ⟨PySem.F.slot_list_reverse, by kernel_rfl⟩

section
variable {prog : Program} {w : World} {h₀ : Heap} {mg mb : Str → Option Value} {Φ : Fns} {n : Nat} {fns : List Str}

theorem load_glob (G : Gnd prog h₀ mg mb) {A : Around} {s : Shared} {σ : Hp} {c : Cfg} {env : Env} {own : Addr → Prop} {F : Frm} (hw : W h₀ σ s.heap) (hf : FrOk c env own F h₀ σ s.heap) {x : Str} {p : Pos} {v : Value}
    (k : c.sc.lookup x = some .globalImplicit) (hd : (x == ("__debug__" : Str)) = false) (hv : mg x = some v ∨ (mg x = none ∧ mb x = some v)) {Q : Value → Shared → Prop} {E : Value → Shared → Prop} (q : Q v s) :
    wpAny (model prog w) A (eval (.Name x p) env) Q E s := by
  refine Calls.Name_function_global hf.kind (hf.gk x k) ?_ hd
  rcases hv with e | ⟨e1, e2⟩
  · exact Calls.loadGlobal_global (by rw [hf.glob]; exact G.g.keeps hw.stays) e q
  · exact Calls.loadGlobal_builtin (by rw [hf.glob]; exact G.g.keeps hw.stays) e1 (by rw [hf.bi]; exact G.b.keeps hw.stays) e2 q

theorem star_plain : ∀ {c : Cfg} {es : List Expr} {as : List PE} {env : Env} {pos : Pos}, CEs c es as → (backTo pos (starEach es env)).any (·.1) = false
  | _, _, _, env, pos, .nil => rfl
  | _, _, _, env, pos, .cons (es := es) _ h hs => by
    rw [hs env]
    show (false || (backTo pos (starEach es env)).any (·.1)) = false
    rw [star_plain h]; rfl

theorem evalArgs_ces {c : Cfg} {es : List Expr} {as : List PE} {env : Env} {pos : Pos} {M : Model} {A : Around} {s : Shared} {E : Value → Shared → Prop} {f : Value} {Q : Args → Shared → Prop} (h : CEs c es as)
    (q : wpAny M A (spliced (backTo pos (starEach es env))) (fun vs s' => Q ⟨vs, []⟩ s') E s) : wpAny M A (evalArgs f true (backTo pos (starEach es env)) []) Q E s := by
  cases h with
  | nil =>
    have q' : wpAny M A (spliced []) (fun vs s' => Q ⟨vs, []⟩ s') E s := q
    show wpAny M A (evalArgs f true [] []) Q E s
    unfold evalArgs
    show wpAny M A (spliced [] >>= _) Q E s
    refine wpAny_bind (wpAny_mono q' (fun vs s' h' => wpAny_bind (wpAny_pure ?_)) fun _ _ x => x)
    refine wpAny_holding ?_
    exact wpAny_bind (wpAny_pure (wpAny_bind (wpAny_pure (wpAny_pure h'))))
  | cons h1 h2 hs =>
    rw [hs env] at q ⊢
    exact Calls.evalArgs_plain q
end

/-! Fw11 -/
theorem StepX.drop {own : Addr → Prop} {h₀ : Heap} {σ σ' : Hp} {h h' : Heap} (x : StepX own h₀ σ h σ' h') (n : ∀ a, own a → h.get? a = none) : Step h₀ σ h σ' h' :=
  ⟨x.w, fun a o m _ e => x.keep a o m (fun q => by rw [n a q] at e; cases e) e, x.grow, x.tups, x.alive⟩
theorem Beside.of_grow {as : List Addr} {h₀ : Heap} {σ σ' : Hp} {hb h : Heap} (b : Beside as h₀ σ hb) (g : Grow σ h σ') (e : ∀ a ∈ as, ∃ o, h.get? a = some o) : Beside as h₀ σ' hb := fun a m => by
  obtain ⟨o, q⟩ := e a m
  exact ⟨(b a m).1, g.none q (b a m).2.1, (b a m).2.2⟩
theorem ItRep.there {h : Heap} {v : Value} {as : List Addr} {it : It} (r : ItRep h v as it) : ∀ a ∈ as, ∃ o, h.get? a = some o := by
  intro a m
  cases it with
  | lst b k => obtain ⟨I, _, rfl, o', e', _⟩ := r; simp at m; subst m; exact ⟨_, e'⟩
  | rng x n c => obtain ⟨I, _, rfl, e'⟩ := r; simp at m; subst m; exact ⟨_, e'⟩
  | vals vs => obtain ⟨I, t, k, ws, _, rfl, ⟨o', e', _⟩, _⟩ := r; simp at m; subst m; exact ⟨_, e'⟩
  | enm k b =>
    obtain ⟨e1, I, old, _, rfl, _, e', o', e2, _⟩ := r
    simp at m
    rcases m with rfl | rfl
    · exact ⟨_, e'⟩
    · exact ⟨_, e2⟩

def Sub0 (F F' : Frm) : Prop := ∀ (i : Nat) v, F[i]? = some (some v) → F'[i]? = some (some v)
theorem FrOk.weak {c : Cfg} {env : Env} {own : Addr → Prop} {F F' : Frm} {h₀ : Heap} {σ : Hp} {h : Heap} (f : FrOk c env own F' h₀ σ h) (s : Sub0 F F') : FrOk c env own F h₀ σ h :=
  ⟨f.kind, f.glob, f.bi, f.gk, f.vk, (by obtain ⟨m, a, b⟩ := f.ns; exact ⟨m, a, fun i x v e1 e2 e3 => b i x v e1 e2 (s i v e3)⟩),
   (fun i x e1 e2 => by obtain ⟨a, cv, g1, g2, g3, g4, g5, g6⟩ := f.cell i x e1 e2; exact ⟨a, cv, g1, g2, g3, g4, g5, fun v hv => g6 v (s i v hv)⟩), f.inj, f.loc, f.nd, f.ex⟩

/-- slots that hold nothing -/
def Tgt.free (t : Tgt) (F : Frm) : Prop := match t with | .name i => ∀ v, F[i]? ≠ some (some v) | .tup is => ∀ i ∈ is, ∀ v, F[i]? ≠ some (some v)
theorem sub_set {F : Frm} {i : Nat} {x : V} (h : ∀ v, F[i]? ≠ some (some v)) : Sub0 F (F.set i (some x)) := fun j v e => by
  by_cases q : i = j
  · subst q; exact absurd e (h v)
  · rw [List.getElem?_set_ne q]; exact e
theorem sub_setAll : ∀ (is : List Nat) (xs : List V) (F G : Frm), (∀ i ∈ is, ∀ v, F[i]? ≠ some (some v)) → Sub0 F G → Sub0 F (setAll is xs G)
  | [], _, F, G, _, h => by simpa [setAll] using h
  | i :: is, [], F, G, _, h => by simpa [setAll] using h
  | i :: is, x :: xs, F, G, hn, h => by
    unfold setAll
    refine sub_setAll is xs F _ (fun j m => hn j (.tail _ m)) fun j v e => ?_
    by_cases q : i = j
    · subst q; exact absurd e (hn _ (.head _) v)
    · rw [List.getElem?_set_ne q]; exact h j v e
theorem bind_sub {t : Tgt} {x : V} {P : Frm → Prop} {F : Frm} {σ : Hp} (h : bindT t x P F σ) (f : t.free F) : bindT t x (fun F1 => P F1 ∧ Sub0 F F1) F σ := by
  unfold bindT at h ⊢
  split at h
  · exact ⟨h, sub_set f⟩
  · exact ⟨h.1, h.2, sub_setAll _ _ _ _ f (fun _ _ e => e)⟩
  · exact h
theorem inner_free_at {c : Cfg} {scope : Scope} {F : Frm} (ok : scOk c scope.names = true) {i : Nat} {x : Str} (e : (Cfg.mk scope.names c.fns).names[i]? = some x) (nf : (Cfg.mk scope.names c.fns).sc.lookup x ≠ some .free) :
    ∀ v, (innerF (fmapOf c scope.names) F)[i]? ≠ some (some v) := by
  intro v h
  simp only [scOk, Bool.and_eq_true, decide_eq_true_eq, List.all_eq_true] at ok
  obtain ⟨kk, g, m, l⟩ := names_mem e
  have lk := lookup_of_nodup ok.1 m
  have hk : kk ≠ .free := by rintro rfl; exact nf lk
  unfold innerF fmapOf at h
  rw [List.getElem?_map, List.getElem?_map, g] at h
  simp [hk] at h
theorem inner_free {c : Cfg} {scope : Scope} {F : Frm} (ok : scOk c scope.names = true) {t : Expr} {tg : Tgt} (h : CG { sc := scope.names, fns := c.fns } t tg) : tg.free (innerF (fmapOf c scope.names) F) := by
  cases h with
  | name e nf => exact inner_free_at ok e nf
  | tup hg =>
    show ∀ i ∈ _, _
    exact go hg
where
  go : ∀ {es : List Expr} {is : List Nat}, CGs { sc := scope.names, fns := c.fns } es is → ∀ i ∈ is, ∀ v, (innerF (fmapOf c scope.names) F)[i]? ≠ some (some v)
  | _, _, .nil, i, m => by cases m
  | _, _, .cons e nf hr, i, m => by
    rcases List.mem_cons.mp m with rfl | m
    · exact inner_free_at ok e nf
    · exact go hr i m

section
variable {prog : Program} {w : World} {A : Around} {R : Result → Shared → Prop} {s : Shared}
theorem compLoop_gen {elt target iter : Expr} {ifs : List Expr} {scope : Scope} {pos : Pos} {it acc : Value} {env : Env} (I : Nat → Shared → Prop)
    (turn : ∀ n s, I n s → wpAny (model prog w) A (pyNext it) (fun r s₁ => match r with
      | none => R (.ok .next) s₁
      | some v => wpAny (model prog w) A (letOwnedTupleGo target it v) (fun _ s₁' => wpAny (model prog w) A (assign target env v) (fun _ s₂ =>
          wpAny (model prog w) A (forIn ifs true fun c r => if r = true then do let ok ← isTrue c env (eval c env); pure (ForInStep.yield ok) else pure (ForInStep.yield r)) (fun ok s₃ =>
            if ok = true then wpAny (model prog w) A (eval elt env) (fun x s₄ =>
              wpAny (model prog w) A (call (.builtin "list.append") [acc, x]) (fun _ s₅ => ∃ m, m < n ∧ I m s₅) E0 s₄) E0 s₃
            else ∃ m, m < n ∧ I m s₃) E0 s₂) E0 s₁') E0 s₁) E0 s)
    (n : Nat) (h : I n s) :
    codeAny (model prog w) A (.compLoop (.ListComp elt [⟨target, iter, ifs, 0⟩] scope pos) 0 it acc env) R s := by
  refine codeAny_loop rfl I (fun n s hI => ?_) n h
  show wpAny _ A ((compTurn (.ListComp elt [⟨target, iter, ifs, 0⟩] scope pos) 0 it acc env).onRaise (fun x => do noteFrame x env; theTreesLotGoes x)) _ _ s
  refine wpAny_noted ?_
  rw [compTurn_list]
  have e0 : ∀ (E : Value → Shared → Prop) e s, E0 e s → E e s := fun _ _ _ f => f.elim
  refine wpAny_bind (wpAny_standAt (wpAny_bind (wpAny_mono (turn n s hI) (fun r s₁ h₁ => ?_) (e0 _))))
  cases r with
  | none => exact wpAny_pure h₁
  | some v =>
    refine wpAny_bind (wpAny_mono h₁ (fun _ s₁' h₁' => ?_) (e0 _))
    refine wpAny_bind (wpAny_mono h₁' (fun _ s₂ h₂ => wpAny_bind (wpAny_mono h₂ (fun ok s₃ h₃ => ?_) (e0 _))) (e0 _))
    cases ok with
    | true =>
      simp only [if_true] at h₃ ⊢
      exact wpAny_bind (wpAny_bind (wpAny_mono h₃ (fun x s₄ h₄ => wpAny_bind (wpAny_mono h₄ (fun _ s₅ h₅ => wpAny_pure (wpAny_pure ⟨rfl, h₅⟩)) (e0 _))) (e0 _)))
    | false =>
      simp only [Bool.false_eq_true, if_false] at h₃ ⊢
      exact wpAny_pure ⟨rfl, h₃⟩
end

/-! Fw12 -/
theorem letGo_at {prog : Program} {w : World} {A : Around} {s : Shared} {t : Expr} {I : Addr} {o : Obj} {T : String} {vs : Array Value} {y : Value} {Q : Unit → Shared → Prop} {E : Value → Shared → Prop} (e : s.heap.get? I = some o) (hc : o.cls = .type T) (hd : o.data = .fields vs)
    (hT : ["enumerate", "zip", "dict_itemiterator", "dict_reverseitemiterator", "odict_iterator", "itertools.zip_longest", "itertools.pairwise"].contains T = false) (q : Q () s) : wpAny (model prog w) A (letOwnedTupleGo t (.ref I) y) Q E s := by
  have key : wpAny (model prog w) A (do
      let (.ref r, .ref a) := (Value.ref I, y) | return
      let o ← load r
      match o.cls, o.data with
      | .type n, .fields vs =>
        if ["enumerate", "zip", "dict_itemiterator", "dict_reverseitemiterator", "odict_iterator", "itertools.zip_longest", "itertools.pairwise"].contains n && vs[0]? == some (rawInt a) then
          rule "for.unpacks-the-owned-tuple"
          updateField r 0 .none
      | _, _ => pure ()) Q E s := by
    cases y with
    | ref a =>
      refine wpAny_bind (wpAny_load e ?_)
      rw [hc, hd]
      dsimp only
      rw [hT]
      exact wpAny_pure q
    | _ => exact wpAny_pure q
  unfold letOwnedTupleGo
  split
  · exact key
  · exact key
  · exact wpAny_pure q
theorem letGo_it {prog : Program} {w : World} {A : Around} {s : Shared} {t : Expr} {iv : Value} {as : List Addr} {it : It} {y : Value} {Q : Unit → Shared → Prop} {E : Value → Shared → Prop} (r : ItRep s.heap iv as it) (hk : (∀ k a, it = .enm k a → False)) (q : Q () s) :
    wpAny (model prog w) A (letOwnedTupleGo t iv y) Q E s := by
  cases it with
  | lst b k => obtain ⟨I, rfl, rfl, o', e', c', d'⟩ := r; exact letGo_at e' c' d' (by decide) q
  | rng x n c => obtain ⟨I, rfl, rfl, e'⟩ := r; exact letGo_at e' rfl rfl (by decide) q
  | vals vs => obtain ⟨I, t, k, ws, rfl, rfl, ⟨o', e', c', d'⟩, _⟩ := r; exact letGo_at e' c' d' (by decide) q
  | enm k b => exact (hk _ _ rfl).elim
theorem pyIter_self {prog : Program} {w : World} {A : Around} {s : Shared} {iv : Value} {as : List Addr} {it : It} {Q : Value → Shared → Prop} {E : Value → Shared → Prop} (hh : A.handled = none) (r : ItRep s.heap iv as it) (q : Q iv s) :
    wpAny (model prog w) A (pyIter iv) Q E s := by
  cases it with
  | lst b k => obtain ⟨I, rfl, rfl, hi⟩ := r; exact wpAny_pyIter_listiter hi q
  | rng x n c =>
    obtain ⟨I, rfl, rfl, hi⟩ := r
    exact (Walks.range hh I x c n).self 0 s Q E (by simpa using hi) q
  | vals vs =>
    obtain ⟨I, t, k, ws, rfl, rfl, hi, ht, _⟩ := r
    have hne : t ≠ I := by
      rintro rfl
      obtain ⟨o, e, c, _⟩ := hi
      obtain ⟨o', e', c', _⟩ := ht
      rw [e] at e'; cases e'; rw [c] at c'; simp at c'
    exact (Walks.tuple hh I t hne ws.toArray).self k s Q E ⟨hi, ht⟩ q
  | enm k b => obtain ⟨e1, I, old, rfl, rfl, hne, he, hi⟩ := r; exact wpAny_pyIter_enum he q
theorem next_kind {it it' : It} {σ : Hp} {x : V} (hn : itNext it σ = some (some (x, it'))) (hk : (∀ k a, it = .enm k a → False)) : (∀ k a, it' = .enm k a → False) := by
  intro k a e
  subst e
  cases it with
  | lst b j =>
    simp only [itNext] at hn
    split at hn
    · split at hn <;> simp at hn
    · cases hn
  | rng x n c => cases n <;> simp [itNext] at hn
  | vals vs => cases vs <;> simp [itNext] at hn
  | enm k b => exact hk _ _ rfl

/-- how a comprehension stands amid its turns -/
structure CSt (c : Cfg) (env : Env) (C D : Addr) (as : List Addr) (iv : Value) (F0 : Frm) (h₀ : Heap) (σb : Hp) (hb : Heap) (I : It) (acc : List V) (σ : Hp) (h : Heap) : Prop where
  it : ItRep h iv as I
  lst : ∃ vs k, h.get? D = some (LObj vs k) ∧ Reps h vs acc
  fr : FrOk c env (fun a => a = C) F0 h₀ σ h
  st : Step h₀ σb hb σ h
  bes : Beside (D :: C :: as) h₀ σ hb
  ne : D ≠ C ∧ D ∉ as ∧ C ∉ as
  cl : ∀ y a, env.cells.lookup y = some a → ∃ o, hb.get? a = some o

section
variable {prog : Program} {w : World} {A : Around} {s : Shared} {c : Cfg} {env : Env} {C D : Addr} {as : List Addr} {iv : Value} {F0 F1 : Frm} {h₀ : Heap} {σb σ σ' : Hp} {hb h h' : Heap} {I I' : It} {acc : List V}

theorem CSt.there (x : CSt c env C D as iv F0 h₀ σb hb I acc σ h) : ∀ a ∈ D :: C :: as, ∃ o, h.get? a = some o := by
  intro a m
  rcases List.mem_cons.mp m with rfl | m
  · obtain ⟨vs, k, e, _⟩ := x.lst; exact ⟨_, e⟩
  rcases List.mem_cons.mp m with rfl | m
  · exact x.fr.ex _ rfl
  · exact x.it.there a m
theorem CSt.step (x : CSt c env C D as iv F0 h₀ σb hb I acc σ h) (y : Step h₀ σ h σ' h') : CSt c env C D as iv F0 h₀ σb hb I acc σ' h' := by
  have kp : ∀ a ∈ D :: C :: as, ∀ o, h.get? a = some o → h'.get? a = some o := fun a m o e => y.keeps a o (none_mut (x.bes a m).2.1) e
  refine ⟨x.it.move (fun a m => kp a (.tail _ (.tail _ m))) y.tups, ?_, x.fr.step y, x.st.trans y, x.bes.of_grow y.grow x.there, x.ne, x.cl⟩
  obtain ⟨vs, k, e, r⟩ := x.lst
  exact ⟨vs, k, kp D (.head _) _ e, r.step y⟩
/-- the iterator has moved on -/
theorem CSt.moved (x : CSt c env C D as iv F0 h₀ σb hb I acc σ h) (k : ∀ b o, b ∉ as → h.get? b = some o → h'.get? b = some o) (it' : ItRep h' iv as I') : CSt c env C D as iv F0 h₀ σb hb I' acc σ h' := by
  have b : Beside as h₀ σ hb := fun a m => x.bes a (.tail _ (.tail _ m))
  have t := (x.st.w.slip (fun a m => (b a m).2) x.it.notImm k).2
  have st := StepX.slip x.st b x.it.notImm k
  refine ⟨it', ?_, ?_, st, x.bes, x.ne, x.cl⟩
  · obtain ⟨vs, j, e, r⟩ := x.lst
    exact ⟨vs, j, k D _ x.ne.2.1 e, r.tups t⟩
  · refine x.fr.move (fun o e => k _ o ?_ e) (fun y a e o e2 => k a o ?_ e2) t (fun a m => ?_)
    · have : env.locals = C := x.fr.loc.1
      rw [this]; exact x.ne.2.2
    · intro m
      obtain ⟨o, q⟩ := x.cl y a e
      rw [(b a m).1] at q; cases q
    · have : a = C := m
      subst this
      obtain ⟨o, e⟩ := x.fr.ex a rfl
      exact ⟨o, k a o x.ne.2.2 e⟩
/-- the target is bound -/
theorem CSt.bound (x : CSt c env C D as iv F0 h₀ σb hb I acc σ h) (y : StepX (fun a => a = C) h₀ σ h σ h') (f : FrOk c env (fun a => a = C) F1 h₀ σ h') : CSt c env C D as iv F1 h₀ σb hb I acc σ h' := by
  have kp : ∀ a ∈ D :: as, ∀ o, h.get? a = some o → h'.get? a = some o := fun a m o e => by
    have m' : a ∈ D :: C :: as := by
      rcases List.mem_cons.mp m with rfl | m
      · exact .head _
      · exact .tail _ (.tail _ m)
    refine y.keep a o (none_mut (x.bes a m').2.1) (fun q => ?_) e
    rcases List.mem_cons.mp m with rfl | m
    · exact x.ne.1 q
    · exact x.ne.2.2 (q ▸ m)
  refine ⟨x.it.move (fun a m => kp a (.tail _ m)) y.tups, ?_, f, ?_, x.bes, x.ne, x.cl⟩
  · obtain ⟨vs, k, e, r⟩ := x.lst
    exact ⟨vs, k, kp D (.head _) _ e, r.step y⟩
  · refine StepX.drop ((Step.any x.st).trans y) fun a q => ?_
    have : a = C := q
    subst this
    exact (x.bes _ (.tail _ (.head _))).1
/-- an item is laid down -/
theorem CSt.append (x : CSt c env C D as iv F1 h₀ σb hb I acc σ s.heap) (sub : Sub0 F0 F1) {y : V} {v : Value} (r : Rep s.heap v y) (hb' : acc.length < BIG) {Q : Value → Shared → Prop} {E : Value → Shared → Prop}
    (q : ∀ s', Sm s s' → CSt c env C D as iv F0 h₀ σb hb I (acc ++ [y]) σ s'.heap → Q .none s') : wpAny (model prog w) A (call (.builtin "list.append") [.ref D, v]) Q E s := by
  obtain ⟨vs, k, e, rr⟩ := x.lst
  have hlen := rr.length
  refine call_meets PySem.F.slot_list_append ⟨_, e, rfl⟩ PySem.F.entry_list_append (PySem.F.args_list_append_2 _ _) (AutoListH.list_append_list_val_0 _ vs.toArray k _ (by simp; exact big_line (by omega))) ⟨e, ?_⟩
  have kk : ∀ b o, b ∉ [D] → s.heap.get? b = some o → (s.heap.update D (Obj.mapSeq fun x => x.push v)).get? b = some o := fun b o n e => (Heap.SameBut.update ..).extBut b o (by simpa using n) e
  have ni : ∀ a ∈ [D], ∀ o, s.heap.get? a = some o → ¬ Imm o := fun a m o e' i => by
    simp at m; subst m; rw [e] at e'; cases e'
    rcases i with i | i | i <;> simp [LObj] at i
  have bD : Beside [D] h₀ σ hb := fun a m => by simp at m; subst m; exact x.bes _ (.head _)
  have t := (x.st.w.slip (fun a m => (bD a m).2) ni kk).2
  refine q _ ⟨Eq.refl _, Eq.refl _⟩ ⟨x.it.move (fun a m o e => kk a o (by simp; rintro rfl; exact x.ne.2.1 m) e) t, ?_, ?_, StepX.slip x.st bD ni kk, x.bes, x.ne, x.cl⟩
  · obtain ⟨m, g⟩ := LObj.update e (fun x => x.push v)
    refine ⟨_, m, g, ?_⟩
    have : ((fun x : Array Value => x.push v) vs.toArray).toList = vs ++ [v] := by simp
    rw [this]
    exact (rr.tups t).append (.cons (r.tups t) .nil)
  · refine (x.fr.weak sub).move (fun o e => kk _ o ?_ e) (fun y a e o e2 => kk a o ?_ e2) t (fun a m => ?_)
    · have : env.locals = C := x.fr.loc.1
      rw [this]; simp; exact fun h => x.ne.1 h.symm
    · simp
      rintro rfl
      obtain ⟨o, q⟩ := x.cl _ _ (by assumption)
      rw [(x.bes a (.head _)).1] at q; cases q
    · have : a = C := m
      subst this
      obtain ⟨o, e⟩ := x.fr.ex a rfl
      exact ⟨o, kk a o (by simp; exact fun h => x.ne.1 h.symm) e⟩
theorem CSt.weak (x : CSt c env C D as iv F1 h₀ σb hb I acc σ h) (sub : Sub0 F0 F1) : CSt c env C D as iv F0 h₀ σb hb I acc σ h := ⟨x.it, x.lst, x.fr.weak sub, x.st, x.bes, x.ne, x.cl⟩
end

section
variable {prog : Program} {w : World} {A : Around} {s : Shared} {c : Cfg} {env : Env} {own : Addr → Prop} {as : List Addr} {iv : Value} {F : Frm} {h₀ : Heap} {σ : Hp} {hb : Heap} {I : It}

def CompInv (Φ : Fns) (fm : List (Option Nat)) (elt : PE) (t : Tgt) (ifs : List PE) (Q : V → Hp → Prop) (F : Frm) (Inv : Nat → It → List V → Hp → Prop) : Prop :=
  ∀ n I acc σ, Inv n I acc σ →
        match itNext I σ with
        | none => False
        | some none => newL acc Q σ
        | some (some (x, I')) => bindT t x (fun F1 => vTs Φ ifs (fun b σ => if b then vE Φ elt (fun y σ => acc.length < BIG ∧ ∃ m, m < n ∧ Inv m I' (acc ++ [y]) σ) F1 σ else ∃ m, m < n ∧ Inv m I' acc σ) F1 σ)
            (innerF fm F) σ

/-- from the iterator on -/
theorem comp_tail {Φ : Fns} {elt t it : Expr} {ifs : List Expr} {scope : Scope} {pos : Pos} {pelt : PE} {tg : Tgt} {pifs : List PE} {Q : V → Hp → Prop} {Inv : Nat → It → List V → Hp → Prop}
    (hh : A.handled = none) (ok : scOk c scope.names = true) (hk : scope.kind = .function) (hg : CG { sc := scope.names, fns := c.fns } t tg)
    (hel : ∀ {s : Shared} {σ : Hp} {env : Env} {own : Addr → Prop} {F : Frm} {Q : V → Hp → Prop}, W h₀ σ s.heap → FrOk { sc := scope.names, fns := c.fns } env own F h₀ σ s.heap → vE Φ pelt Q F σ → wpAny (model prog w) A (eval elt env) (PV h₀ σ s Q) E0 s)
    (hif : ∀ {s : Shared} {σ : Hp} {env : Env} {own : Addr → Prop} {F : Frm} {Q : Bool → Hp → Prop}, W h₀ σ s.heap → FrOk { sc := scope.names, fns := c.fns } env own F h₀ σ s.heap → vTs Φ pifs Q F σ →
      wpAny (model prog w) A (forIn ifs true fun c r => if r = true then do let ok ← isTrue c env (eval c env); pure (ForInStep.yield ok) else pure (ForInStep.yield r)) (PB h₀ σ s Q) E0 s)
    (hen : ∀ k a, I = .enm k a → ∃ elts x1 p, t = .Tuple elts x1 p)
    (hwb : W h₀ σ hb) (hf : FrOk c env own F h₀ σ hb) (ko : ∀ b o, hb.get? b = some o → s.heap.get? b = some o) (hit : ItRep s.heap iv as I) (bes : Beside as h₀ σ hb)
    {n : Nat} (hi : Inv n I [] σ) (hinv : CompInv Φ (fmapOf c scope.names) pelt tg pifs Q F Inv) {RR : Value → Addr → Result → Shared → Prop}
    (hRR : ∀ D C s' σ' acc vs k m, Sm s s' → newL acc Q σ' → s'.heap.get? D = some (LObj vs k) → Reps s'.heap vs acc → s'.heap.Ns C m → Step h₀ σ hb σ' s'.heap → hb.get? D = none → hb.get? C = none → D ≠ C → σ' D = none → σ' C = none → RR (.ref D) C (.ok .next) s') :
    wpAny (model prog w) A (newList []) (fun acc s₃ => wpAny (model prog w) A (newFunctionEnv scope env.globals (clGo env scope.names []) [] env.qual none .none (some env)) (fun cenv s₄ =>
      codeAny (model prog w) A (.compStart (.ListComp elt [⟨t, it, ifs, 0⟩] scope pos) 0 iv acc { cenv with scope := relabel scope env }) (RR acc cenv.locals) s₄) E0 s₃) E0 s := by
  have okk := ok
  simp only [scOk, Bool.and_eq_true, decide_eq_true_eq, List.all_eq_true] at okk
  have hcell : ∀ y ∈ scope.names, y.2 ≠ .cell := fun y m => by have := (okk.2 y m).2; simpa using this
  refine wpAny_newObj_type (wpAny_newFunctionEnv hcell (by intro y hy; simp at hy) (fun h₁ hns₁ hsb₁ => ?_) hk)
  dsimp only at hns₁ hsb₁ ⊢
  generalize hH2 : s.heap.push { cls := .type "list", dict := none, data := .seq ([] : List Value).toArray } = H2 at hns₁ hsb₁ ⊢
  have hC : H2.objs.size = s.heap.objs.size + 1 := by rw [← hH2, Heap.size_push]
  have hDC : s.heap.objs.size ≠ H2.objs.size := by rw [hC]; exact Nat.ne_of_lt (Nat.lt_succ_self _)
  have below : ∀ b o, s.heap.get? b = some o → b ≠ H2.objs.size ∧ b ≠ s.heap.objs.size := fun b o e => ⟨by rw [hC]; exact Nat.ne_of_lt (Nat.lt_succ_of_lt (Heap.lt_size e)), Nat.ne_of_lt (Heap.lt_size e)⟩
  have old : ∀ b o, s.heap.get? b = some o → h₁.get? b = some o := fun b o e => hsb₁.extBut b o (below b o e).1 (Heap.get?_push_of_some _ (hH2 ▸ Heap.get?_push_of_some _ e))
  have hacc : h₁.get? s.heap.objs.size = some (LObj [] 0) := hsb₁.extBut _ _ hDC (Heap.get?_push_of_some _ (hH2 ▸ Heap.get?_push_size _ rfl))
  have sD : s.heap.get? s.heap.objs.size = none := get_push_none _
  have sC : s.heap.get? H2.objs.size = none := by
    cases e : s.heap.get? H2.objs.size with
    | none => rfl
    | some o => exact absurd rfl (below _ _ e).1
  have back : ∀ a, s.heap.get? a = none → hb.get? a = none := fun a e => by
    cases q : hb.get? a with
    | none => rfl
    | some o => rw [ko a o q] at e; cases e
  have st0 : Step h₀ σ hb σ h₁ := hwb.extend fun b o e => old b o (ko b o e)
  have bD := beside_one hwb (back _ sD)
  have bC := beside_one hwb (back _ sC)
  have fr1 : FrOk { sc := scope.names, fns := c.fns } (compEnvC scope (clGo env scope.names []) H2.objs.size env) (fun a => a = H2.objs.size) (innerF (fmapOf c scope.names) F) h₀ σ h₁ :=
    inner_ok hf ok hk rfl (fun b o e => old b o (ko b o e)) (back _ sC) (by simpa using hns₁) bC.2.1 bC.2.2
  have x0 : CSt { sc := scope.names, fns := c.fns } (compEnvC scope (clGo env scope.names []) H2.objs.size env) H2.objs.size s.heap.objs.size as iv (innerF (fmapOf c scope.names) F) h₀ σ hb I [] σ h₁ := by
    refine ⟨hit.move (fun a m o e => old a o e) (fun a o e _ => old a o e), ⟨[], 0, hacc, .nil⟩, fr1, st0, fun a m => ?_, ⟨hDC, fun m => ?_, fun m => ?_⟩, fun y a e => ?_⟩
    · rcases List.mem_cons.mp m with rfl | m
      · exact bD
      rcases List.mem_cons.mp m with rfl | m
      · exact bC
      · exact bes a m
    · obtain ⟨o, e⟩ := hit.there _ m; rw [sD] at e; cases e
    · obtain ⟨o, e⟩ := hit.there _ m; rw [sC] at e; cases e
    · rcases clGo_some _ _ e with q | ⟨m, q⟩
      · cases q
      · have o := okk.2 _ m
        simp at o
        have hx : y ∈ c.names := o.1.1
        have e' : c.names[c.names.idxOf y]? = some y := by
          have hlt := List.idxOf_lt_length_iff.mpr hx
          rw [List.getElem?_eq_getElem hlt, List.getElem_idxOf hlt]
        have nl : env.kindOf y ≠ some .local := by
          rcases hf.vk _ _ e' with ⟨q, _⟩ | ⟨_, q⟩ | ⟨_, q | q⟩
          · exact absurd q o.1.2
          all_goals rw [q]; simp
        obtain ⟨a', cv, g1, ⟨ob, g2, _⟩, _⟩ := hf.cell _ _ e' nl
        rw [g1] at q; simp at q; subst q
        exact ⟨ob, g2⟩
  have fre := inner_free (F := F) ok hg
  have loop : ∀ s₃ : Shared, s₃.heap = h₁ → Sm s s₃ →
      codeAny (model prog w) A (.compLoop (.ListComp elt [⟨t, it, ifs, 0⟩] scope pos) 0 iv (.ref s.heap.objs.size) (compEnvC scope (clGo env scope.names []) H2.objs.size env)) (RR (.ref s.heap.objs.size) H2.objs.size) s₃ := by
    intro s₃ e₃ m₃
    refine compLoop_gen (fun n s' => ∃ I acc σ', Sm s s' ∧ Inv n I acc σ' ∧ (∀ k a, I = .enm k a → ∃ elts x1 p, t = .Tuple elts x1 p) ∧
      CSt { sc := scope.names, fns := c.fns } (compEnvC scope (clGo env scope.names []) H2.objs.size env) H2.objs.size s.heap.objs.size as iv (innerF (fmapOf c scope.names) F) h₀ σ hb I acc σ' s'.heap) (fun n s' hI => ?_) n ⟨I, [], σ, m₃, hi, hen, by rw [e₃]; exact x0⟩
    obtain ⟨I, acc, σ', mI, hi, hen, x⟩ := hI
    have q := hinv n I acc σ' hi
    split at q
    · exact q.elim
    · rename_i hn
      refine next_end hh x.st.w x.it hn fun s'' mE kk => ?_
      have b : Beside as h₀ σ' hb := fun a m => x.bes a (.tail _ (.tail _ m))
      have t2 := (x.st.w.slip (fun a m => (b a m).2) x.it.notImm kk).2
      have st := StepX.slip x.st b x.it.notImm kk
      obtain ⟨vs, j, e, r⟩ := x.lst
      obtain ⟨mm, nn, _⟩ := x.fr.ns
      obtain ⟨o, es, ep, ho, qq⟩ := nn
      exact hRR _ _ s'' σ' acc vs j mm (mI.trans mE) q (kk _ _ x.ne.2.1 e) (r.tups t2) ⟨o, es, ep, kk _ _ x.ne.2.2 ho, qq⟩ st (x.bes _ (.head _)).1 (x.bes _ (.tail _ (.head _))).1 hDC (x.bes _ (.head _)).2.1 (x.bes _ (.tail _ (.head _))).2.1
    · rename_i xx I' hn
      have q2 := bind_sub q fre
      have rest : ∀ y s₂, Sm s s₂ → Rep s₂.heap y xx → CSt { sc := scope.names, fns := c.fns } (compEnvC scope (clGo env scope.names []) H2.objs.size env) H2.objs.size s.heap.objs.size as iv (innerF (fmapOf c scope.names) F) h₀ σ hb I' acc σ' s₂.heap →
          (∀ k a, I' = .enm k a → ∃ elts x1 p, t = .Tuple elts x1 p) →
          wpAny (model prog w) A (assign t (compEnvC scope (clGo env scope.names []) H2.objs.size env) y) (fun _ s₂ =>
          wpAny (model prog w) A (forIn ifs true fun c r => if r = true then do let ok ← isTrue c (compEnvC scope (clGo env scope.names []) H2.objs.size env) (eval c (compEnvC scope (clGo env scope.names []) H2.objs.size env)); pure (ForInStep.yield ok) else pure (ForInStep.yield r)) (fun ok s₃ =>
            if ok = true then wpAny (model prog w) A (eval elt (compEnvC scope (clGo env scope.names []) H2.objs.size env)) (fun x s₄ =>
              wpAny (model prog w) A (call (.builtin "list.append") [.ref s.heap.objs.size, x]) (fun _ s₅ => ∃ m, m < n ∧ ∃ I acc σ', Sm s s₅ ∧ Inv m I acc σ' ∧ (∀ k a, I = .enm k a → ∃ elts x1 p, t = .Tuple elts x1 p) ∧
      CSt { sc := scope.names, fns := c.fns } (compEnvC scope (clGo env scope.names []) H2.objs.size env) H2.objs.size s.heap.objs.size as iv (innerF (fmapOf c scope.names) F) h₀ σ hb I acc σ' s₅.heap) E0 s₄) E0 s₃
            else ∃ m, m < n ∧ ∃ I acc σ', Sm s s₃ ∧ Inv m I acc σ' ∧ (∀ k a, I = .enm k a → ∃ elts x1 p, t = .Tuple elts x1 p) ∧
      CSt { sc := scope.names, fns := c.fns } (compEnvC scope (clGo env scope.names []) H2.objs.size env) H2.objs.size s.heap.objs.size as iv (innerF (fmapOf c scope.names) F) h₀ σ hb I acc σ' s₃.heap) E0 s₂) E0 s₂ := by
        intro y s₂ m2 ry x2 hen'
        refine assign_ok hg hh x2.st.w x2.fr ry q2 fun s₃ F1 ⟨qF, sub⟩ m3 stx f1 => ?_
        have x3 := x2.bound stx f1
        refine wpAny_mono (hif x3.st.w x3.fr qF) (fun ok s₄ ⟨σ4, ⟨st4, m4⟩, q4⟩ => ?_) fun _ _ f => f
        have x4 := x3.step st4
        cases ok with
        | true =>
          simp only [if_true] at q4 ⊢
          refine wpAny_mono (hel x4.st.w x4.fr q4) (fun v s₅ ⟨y5, σ5, r5, ⟨st5, m5⟩, hl, m, hm, q5⟩ => ?_) fun _ _ f => f
          exact (x4.step st5).append sub r5 hl fun s₆ m6 x6 => ⟨m, hm, I', _, σ5, ((((m2.trans m3).trans m4).trans m5).trans m6), q5, hen', x6⟩
        | false =>
          simp only [Bool.false_eq_true, if_false] at q4 ⊢
          obtain ⟨m, hm, q5⟩ := q4
          exact ⟨m, hm, I', acc, σ4, (m2.trans m3).trans m4, q5, hen', x4.weak sub⟩
      have bb : ∀ a ∈ as, σ' a = none ∧ h₀.get? a = none := fun a m => (x.bes a (.tail _ (.tail _ m))).2
      cases I with
      | enm k0 a0 =>
        obtain ⟨elts, x1, p, rfl⟩ := hen _ _ rfl
        obtain ⟨e1, I1, old', rfl, rfl, hne, he, hi'⟩ := x.it
        refine next_enum x.st.w hne he hi' bb hn (elts := elts) (x1 := x1) (pos := p) fun y s₂ hy => ?_
        refine wpAny_mono hy (fun _ s₃ ⟨mm, ry, it', kk⟩ => rest y s₃ (mI.trans mm) ry (x.moved kk it') (fun _ _ _ => ⟨_, _, _, rfl⟩)) fun _ _ f => f
      | lst a0 i0 =>
        have hk' : ∀ k a, It.lst a0 i0 = It.enm k a → False := by intro k a e; cases e
        refine next_item hh x.st.w x.it bb hn hk' fun y s₂ mm ry it' kk => ?_
        exact letGo_it it' (next_kind hn hk') (rest y s₂ (mI.trans mm) ry (x.moved kk it') (fun k a e => (next_kind hn hk' k a e).elim))
      | rng a0 n0 c0 =>
        have hk' : ∀ k a, It.rng a0 n0 c0 = It.enm k a → False := by intro k a e; cases e
        refine next_item hh x.st.w x.it bb hn hk' fun y s₂ mm ry it' kk => ?_
        exact letGo_it it' (next_kind hn hk') (rest y s₂ (mI.trans mm) ry (x.moved kk it') (fun k a e => (next_kind hn hk' k a e).elim))
      | vals vs0 =>
        have hk' : ∀ k a, It.vals vs0 = It.enm k a → False := by intro k a e; cases e
        refine next_item hh x.st.w x.it bb hn hk' fun y s₂ mm ry it' kk => ?_
        exact letGo_it it' (next_kind hn hk') (rest y s₂ (mI.trans mm) ry (x.moved kk it') (fun k a e => (next_kind hn hk' k a e).elim))
  exact codeAny_compStart_list (loop _ rfl ⟨Eq.refl _, Eq.refl _⟩) (pyIter_self hh x0.it (loop _ rfl ⟨Eq.refl _, Eq.refl _⟩))
end

/-! Fw13 -/
set_option linter.unusedSimpArgs false

section
variable {prog : Program} {w : World} {h₀ : Heap} {mg mb : Str → Option Value} {Φ : Fns} {n : Nat} {fns : List Str}

theorem callee_bi {c : Cfg} {es : List Expr} {as : List PE} {env : Env} {pos : Pos} {M : Model} {A : Around} {s : Shared} {E : Value → Shared → Prop} (f : BI) {Q : Value → Shared → Prop} (h : CEs c es as)
    (q : wpAny M A (spliced (backTo pos (starEach es env))) (fun vs s' => wpAny M A (call f.val vs) Q E s') E s) : wpAny M A (callWith pos f.val [] (backTo pos (starEach es env)) []) Q E s := by
  cases f with
  | range => exact PyProof.Rows.callWith_type (star_plain h) (evalArgs_ces h q)
  | list => exact PyProof.Rows.callWith_type (star_plain h) (evalArgs_ces h q)
  | _ => exact Calls.callWith_builtin (star_plain h) (evalArgs_ces h q)

theorem few_ok {c : Cfg} {es : List Expr} {as : List PE} {env : Env} {pos : Pos} (h : CEs c es as) (hl : es.length < 15) :
    ((backTo pos (starEach es env)).all (fun x => !x.1) && (backToKw pos (keywordEach [] env)).all (fun x => x.1.isSome) && decide (es.length + ([] : List Keyword).length + (if ([] : List Keyword).isEmpty then 0 else 1) < 30)) = true := by
  have h1 := star_plain (env := env) (pos := pos) h
  rw [List.any_eq_false] at h1
  have h2 : (backTo pos (starEach es env)).all (fun x => !x.1) = true := by
    rw [List.all_eq_true]; intro x hx; have := h1 x hx; simpa using this
  rw [h2]
  show (true && true && decide (es.length + 0 + 0 < 30)) = true
  simp; omega

theorem isPart_of {h : Heap} {v : Value} {x : V} {P : Option Int → Prop} (r : Rep h v x) (q : partV x P) : ∃ k, IsPart v k ∧ P k := by
  unfold partV at q
  split at q
  · cases r; exact ⟨none, .none, q⟩
  · cases r; exact ⟨some _, .int _ _, q⟩
  · exact q.elim

theorem opSlice_ok {A : Around} {s : Shared} {σ : Hp} {Q : V → Hp → Prop} {vo vl vh vs : Value} {o lo hi st : V} {value slice : Expr} (ro : Rep s.heap vo o) (rl : Rep s.heap vl lo) (rh : Rep s.heap vh hi) (rs : Rep s.heap vs st) (hw : W h₀ σ s.heap) (q : opSlice o lo hi st Q σ)
    (hs : ∀ o i, ∃ ops, subscripted slice false o i = operate ops (getItem o i)) :
    wpAny (model prog w) A (subscriptTail value slice vo (.ref s.heap.objs.size)) (PV h₀ σ s Q) E0 { s with heap := s.heap.push { cls := .type "slice", data := .fields #[vl, vh, vs] } } := by
  unfold opSlice at q
  split at q
  · obtain ⟨xs, e, q⟩ := q
    cases ro
    obtain ⟨l, pl, q⟩ := isPart_of rl q
    obtain ⟨h, ph, q⟩ := isPart_of rh q
    obtain ⟨st', ps, h0, q⟩ := isPart_of rs q
    obtain ⟨ws, hl, r⟩ := hw.list e
    have hb := hw.len e
    have hlen := r.length
    obtain ⟨ops, hs⟩ := hs (.ref _) (.ref s.heap.objs.size)
    have k1 : ∀ b o, s.heap.get? b = some o → (s.heap.push { cls := .type "slice", data := .fields #[vl, vh, vs] }).get? b = some o := fun b o e => Heap.get?_push_of_some _ e
    have hl' := hl.push { cls := .type "slice", data := .fields #[vl, vh, vs] }
    refine tail_any (T := "list") hl'.typeIs slot_list_getitem.lookup (wpAny_getItem_list_slice hl' (Heap.IsSliceOf.new _ _ _ _) pl ph ps h0 ?_ (by simp; exact big_line (by omega))) hs
    have st1 : Step h₀ σ s.heap σ _ := hw.extend k1
    refine PV.back (s' := _) (s₁ := { s with heap := s.heap.push { cls := .type "slice", data := .fields #[vl, vh, vs] } }) (PV.push (s := { s with heap := s.heap.push { cls := .type "slice", data := .fields #[vl, vh, vs] } }) (n := 0) (vs := (slicePick ws.toArray l h st').toList) (tk := s.toks) st1.w ?_ q) st1 ⟨Eq.refl _, Eq.refl _⟩
    unfold slicePick pickL
    simp only [List.size_toArray, hlen, List.getElem?_toArray]
    exact (r.tups fun a o e _ => k1 a o e).filterMap _
  · exact q.elim

theorem scOk_names {c : Cfg} {scope : Scope} (ok : scOk c scope.names = true) : ∀ x ∈ scope.names, x.2 = NameKind.local → scope.names.lookup x.1 = some NameKind.local := fun x m e => by
  simp only [scOk, Bool.and_eq_true, decide_eq_true_eq, List.all_eq_true] at ok
  exact lookup_of_nodup ok.1 (by rw [← e]; exact m)
theorem clos_ok {c : Cfg} {scope : Scope} {env : Env} {own : Addr → Prop} {F : Frm} {σ : Hp} {h : Heap} (ok : scOk c scope.names = true) (hf : FrOk c env own F h₀ σ h) : closureFor scope env = pure (clGo env scope.names []) :=
  closureFor_eq (fun x m => by
    simp only [scOk, Bool.and_eq_true, decide_eq_true_eq, List.all_eq_true] at ok
    have o := ok.2 _ m
    simp at o
    have e' : c.names[c.names.idxOf x]? = some x := by
      have hlt := List.idxOf_lt_length_iff.mpr o.1.1
      exact (List.getElem?_eq_getElem hlt).trans (congrArg some (List.getElem_idxOf hlt))
    have nl : env.kindOf x ≠ some .local := by
      rcases hf.vk _ _ e' with ⟨q, _⟩ | ⟨_, q⟩ | ⟨_, q | q⟩
      · exact absurd q o.1.2
      all_goals rw [q]; simp
    obtain ⟨a', cv, g1, _⟩ := hf.cell _ _ e' nl
    rw [g1]; rfl)

def PVh (h₀ : Heap) (σ : Hp) (h : Heap) (Q : V → Hp → Prop) (v : Value) (s' : Shared) : Prop := ∃ x σ', Rep s'.heap v x ∧ Step h₀ σ h σ' s'.heap ∧ Q x σ'
theorem PVh.lift {σ σ' : Hp} {s : Shared} {h : Heap} {Q : V → Hp → Prop} {v : Value} {s' : Shared} (p : PVh h₀ σ' h Q v s') (st : Step h₀ σ s.heap σ' h) (m : Sm s s') : PV h₀ σ s Q v s' := by
  obtain ⟨x, σ'', r, st', q⟩ := p; exact ⟨x, σ'', r, ⟨st.trans st', m⟩, q⟩
/-- the list of a comprehension comes under σ -/
theorem comp_adopt {σ σ' : Hp} {hb : Heap} {s' : Shared} {D C : Addr} {acc : List V} {vs : List Value} {k : Nat} {m : Str → Option Value} {Q : V → Hp → Prop} {h'' : Heap} {tk : Nat} (hwb : W h₀ σ hb) (hq : newL acc Q σ') (gD : s'.heap.get? D = some (LObj vs k)) (rv : Reps s'.heap vs acc)
    (nC : s'.heap.Ns C m) (st : Step h₀ σ hb σ' s'.heap) (nD : hb.get? D = none) (nC' : hb.get? C = none) (hDC : D ≠ C) (sD : σ' D = none) (sC : σ' C = none) (sb : Heap.SameBut C s'.heap h'') :
    PVh h₀ σ hb Q (.ref D) { s' with heap := h'' } := by
  have kk : ∀ b o, b ∉ [C] → s'.heap.get? b = some o → h''.get? b = some o := fun b o n e => sb.extBut b o (by simpa using n) e
  have h0C : h₀.get? C = none := (beside_one hwb nC').2.2
  have ni : ∀ a ∈ [C], ∀ o, s'.heap.get? a = some o → ¬ Imm o := fun a m' o e => by simp at m'; subst m'; exact ns_not_imm nC o e
  have bC : Beside [C] h₀ σ' hb := fun a m' => by simp at m'; subst m'; exact ⟨nC', sC, h0C⟩
  have t2 := (st.w.slip (fun a m' => (bC a m').2) ni kk).2
  have st' := StepX.slip st bC ni kk
  have hD : Holds h'' D (.list acc) := ⟨vs, k, kk D _ (by simpa using hDC) gD, rv.tups t2⟩
  have wD := st'.w.adopt (beside_one hwb nD).2.2 hD hq.1
  refine ⟨_, _, .ref D, ⟨wD, st'.keep, fun a => ?_, st'.tups, st'.alive⟩, hq.2 D sD⟩
  by_cases qa : a = D
  · subst qa; exact ⟨fun _ => .inr nD, fun _ => .inr nD⟩
  · have := st'.grow a
    unfold Mut at this ⊢
    rw [upd_ne _ _ qa]; exact this

theorem comp_none {A : Around} {s : Shared} {c : Cfg} {env : Env} {own : Addr → Prop} {as : List Addr} {iv : Value} {F : Frm} {σ : Hp} {hb : Heap} {I : It}
    {elt t it : Expr} {ifs : List Expr} {scope : Scope} {pos : Pos} {pelt : PE} {tg : Tgt} {pifs : List PE} {Q : V → Hp → Prop} {Inv : Nat → It → List V → Hp → Prop}
    (hh : A.handled = none) (ok : scOk c scope.names = true) (hk : scope.kind = .function) (hg : CG { sc := scope.names, fns := c.fns } t tg)
    (hel : ∀ {s : Shared} {σ : Hp} {env : Env} {own : Addr → Prop} {F : Frm} {Q : V → Hp → Prop}, W h₀ σ s.heap → FrOk { sc := scope.names, fns := c.fns } env own F h₀ σ s.heap → vE Φ pelt Q F σ → wpAny (model prog w) A (eval elt env) (PV h₀ σ s Q) E0 s)
    (hif : ∀ {s : Shared} {σ : Hp} {env : Env} {own : Addr → Prop} {F : Frm} {Q : Bool → Hp → Prop}, W h₀ σ s.heap → FrOk { sc := scope.names, fns := c.fns } env own F h₀ σ s.heap → vTs Φ pifs Q F σ →
      wpAny (model prog w) A (forIn ifs true fun c r => if r = true then do let ok ← isTrue c env (eval c env); pure (ForInStep.yield ok) else pure (ForInStep.yield r)) (PB h₀ σ s Q) E0 s)
    (hen : ∀ k a, I = .enm k a → ∃ elts x1 p, t = .Tuple elts x1 p)
    (hwb : W h₀ σ hb) (hf : FrOk c env own F h₀ σ hb) (ko : ∀ b o, hb.get? b = some o → s.heap.get? b = some o) (hit : ItRep s.heap iv as I) (bes : Beside as h₀ σ hb)
    {n : Nat} (hi : Inv n I [] σ) (hinv : CompInv Φ (fmapOf c scope.names) pelt tg pifs Q F Inv) {QQ : Value → Shared → Prop} (hQQ : ∀ v s', PVh h₀ σ hb Q v s' → Sm s s' → QQ v s') :
    wpAny (model prog w) A (newList []) (fun acc s₃ => wpAny (model prog w) A (newFunctionEnv scope env.globals (clGo env scope.names []) [] env.qual none .none (some env)) (fun cenv s₄ =>
      codeAny (model prog w) A (.compStart (.ListComp elt [⟨t, it, ifs, 0⟩] scope pos) 0 iv acc { cenv with scope := relabel scope env }) (compPost (model prog w) A E0 none QQ acc cenv.locals) s₄) E0 s₃) E0 s := by
  refine comp_tail (Inv := Inv) hh ok hk hg hel hif hen hwb hf ko hit bes hi hinv (RR := fun acc C => compPost (model prog w) A E0 none QQ acc C) ?_
  intro D C s' σ' acc vs k m mm hq gD rv nC st nD nC' hDC sD sC
  exact ⟨m, nC, fun h'' sb => hQQ _ _ (comp_adopt (tk := 0) hwb hq gD rv nC st nD nC' hDC sD sC sb) (mm.trans ⟨Eq.refl _, Eq.refl _⟩)⟩

theorem sE1 {e : Expr} {A : Around} {s : Shared} {σ : Hp} {env : Env} {Q : V → Hp → Prop} {pos : Pos} (h : wpAny (model prog w) A (eval e env) (PV h₀ σ s Q) E0 s) (hst : starEach [e] env = [(false, eval e env)]) :
    wpAny (model prog w) A (spliced (backTo pos (starEach [e] env))) (PVs h₀ σ s fun xs σ => ∃ x, xs = [x] ∧ Q x σ) E0 s := by
  rw [hst]
  exact Calls.spliced_cons (wpAny_mono h (fun v s₁ ⟨x, σ₁, r, st, q⟩ => Calls.spliced_nil ⟨_, σ₁, .cons r .nil, st, x, rfl, q⟩) fun _ _ f => f)
theorem sEnum {c : Cfg} {e : Expr} {a : PE} {A : Around} {s : Shared} {σ : Hp} {env : Env} {own : Addr → Prop} {F : Frm} {p q : Pos} (G : Gnd prog h₀ mg mb) (NM : NamesOk prog w h₀ mg n fns Φ) (hw : W h₀ σ s.heap) (hf : FrOk c env own F h₀ σ s.heap)
    (hkk : c.sc.lookup ("enumerate" : Str) = some .globalImplicit) (hce : CE c e a) (hst : ∀ env, starEach [e] env = [(false, eval e env)]) {P : It → Hp → Prop}
    (v : wpAny (model prog w) A (spliced (backTo q (starEach [e] env))) (PVs h₀ σ s fun xs σ => ∃ x, xs = [x] ∧ itStart .enum x P σ) E0 s) {QQ : Value → Shared → Prop}
    (k : ∀ (it : Value) (s₁ : Shared) (σ₁ : Hp) (s₂ : Shared), Step h₀ σ s.heap σ₁ s₁.heap → Sm s s₁ → Started true h₀ σ₁ s₁ P it s₂ → (∀ Q E, Q it s₂ → wpAny (model prog w) A (pyIter it) Q E s₂) → QQ it s₂) :
    wpAny (model prog w) A (eval (.Call (.Name ("enumerate" : Str) p) [e] [] q) env) QQ E0 s := by
  have hces : CEs c [e] [a] := .cons hce .nil hst
  refine Call_Name rfl (load_glob G hw hf hkk (by decide) (.inr ⟨NM.en, (G.boot _ (by decide)).trans enum_boot⟩) ?_)
  refine PyProof.Rows.callWith_type (star_plain hces) (evalArgs_ces hces (wpAny_mono v (fun vs s₁ ⟨xs, σ₁, rs, ⟨st, m₁⟩, x, ex, qx⟩ => ?_) fun _ _ f => f))
  subst ex
  cases rs with
  | cons r1 r2 => ?_
  cases r2
  have : ∃ b, x = .ref b := by
    unfold itStart at qx
    split at qx <;> first | exact ⟨_, rfl⟩ | (exfalso; simp_all; done) | exact qx.elim | simp_all
  obtain ⟨b, rfl⟩ := this
  cases r1
  exact wpAny_mono (start_enum st.w qx) (fun it s₂ ⟨self, sd⟩ => k it s₁ σ₁ s₂ st m₁ sd self) fun _ _ f => f

mutual
theorem sE (G : Gnd prog h₀ mg mb) (NM : NamesOk prog w h₀ mg n fns Φ) : ∀ {c : Cfg} {e : Expr} {p : PE}, CE c e p → c.fns = fns → ∀ {A : Around} {s : Shared} {σ : Hp} {env : Env} {own : Addr → Prop} {F : Frm} {Q : V → Hp → Prop},
    Room A n → W h₀ σ s.heap → FrOk c env own F h₀ σ s.heap → vE Φ p Q F σ → wpAny (model prog w) A (eval e env) (PV h₀ σ s Q) E0 s
  | _, _, _, .int, hc, A, s, σ, env, own, F, Q, R, hw, hf, v => by
    simp only [e_int, e_bool, e_none, e_str, r_var, e_bin, r_neg, e_not, e_cmp, e_and, e_or, e_ite, e_sub, e_slice, e_list, e_tuple, e_call, e_ucall, e_meth, r_comp] at v; exact wpAny_Constant_int (PV.same hw (.int _ _) v _)
  | _, _, _, .bool, hc, A, s, σ, env, own, F, Q, R, hw, hf, v => by
    simp only [e_int, e_bool, e_none, e_str, r_var, e_bin, r_neg, e_not, e_cmp, e_and, e_or, e_ite, e_sub, e_slice, e_list, e_tuple, e_call, e_ucall, e_meth, r_comp] at v; exact Constant_bool (PV.same' hw (.bool _) v)
  | _, _, _, .none, hc, A, s, σ, env, own, F, Q, R, hw, hf, v => by
    simp only [e_int, e_bool, e_none, e_str, r_var, e_bin, r_neg, e_not, e_cmp, e_and, e_or, e_ite, e_sub, e_slice, e_list, e_tuple, e_call, e_ucall, e_meth, r_comp] at v; exact Constant_none (PV.same' hw .none v)
  | _, _, _, .str, hc, A, s, σ, env, own, F, Q, R, hw, hf, v => by
    simp only [e_int, e_bool, e_none, e_str, r_var, e_bin, r_neg, e_not, e_cmp, e_and, e_or, e_ite, e_sub, e_slice, e_list, e_tuple, e_call, e_ucall, e_meth, r_comp] at v; exact Calls.Constant_str (PV.same hw (.str _ _) v _)
  | _, _, _, .var e hd hcd, hc, A, s, σ, env, own, F, Q, R, hw, hf, v => by
    simp only [e_int, e_bool, e_none, e_str, r_var, e_bin, r_neg, e_not, e_cmp, e_and, e_or, e_ite, e_sub, e_slice, e_list, e_tuple, e_call, e_ucall, e_meth, r_comp] at v
    split at v
    · rename_i u hu
      exact wpAny_Name (hf.load e hu hcd fun w r => PV.same' hw r v) hd
    · exact v.elim
  | _, _, _, .bin hl hr, hc, A, s, σ, env, own, F, Q, R, hw, hf, v => by
    simp only [e_int, e_bool, e_none, e_str, r_var, e_bin, r_neg, e_not, e_cmp, e_and, e_or, e_ite, e_sub, e_slice, e_list, e_tuple, e_call, e_ucall, e_meth, r_comp] at v
    refine wpAny_BinOp (wpAny_mono (sE G NM hl hc R hw hf v) (fun a s₁ ⟨x, σ₁, rx, ⟨st, m₁⟩, q⟩ => wpAny_mono (sE G NM hr hc R st.w (hf.step st) q) (fun b s₂ ⟨y, σ₂, ry, ⟨st₂, m₂⟩, q₂⟩ => ?_) fun _ _ f => f) fun _ _ f => f)
    exact wpAny_mono (opBin_ok G R st₂.w (rx.step st₂) ry q₂) (fun _ _ pv => pv.back (st.trans st₂) (m₁.trans m₂)) fun _ _ f => f
  | _, _, _, .neg he, hc, A, s, σ, env, own, F, Q, R, hw, hf, v => by
    simp only [e_int, e_bool, e_none, e_str, r_var, e_bin, r_neg, e_not, e_cmp, e_and, e_or, e_ite, e_sub, e_slice, e_list, e_tuple, e_call, e_ucall, e_meth, r_comp] at v
    refine UnaryOp_ (wpAny_mono (sE G NM he hc R hw hf v) (fun a s₁ ⟨x, σ₁, rx, ⟨st, m₁⟩, q⟩ => ?_) fun _ _ f => f)
    dsimp only at q
    split at q
    · cases rx; exact neg_int ⟨_, σ₁, .int _ _, ⟨st, m₁⟩, q⟩
    · exact q.elim
  | _, _, _, .cmp hl hr hm, hc, A, s, σ, env, own, F, Q, R, hw, hf, v => by
    simp only [e_int, e_bool, e_none, e_str, r_var, e_bin, r_neg, e_not, e_cmp, e_and, e_or, e_ite, e_sub, e_slice, e_list, e_tuple, e_call, e_ucall, e_meth, r_comp] at v
    refine wpAny_Compare1 (wpAny_mono (sE G NM hl hc R hw hf v) (fun a s₁ ⟨x, σ₁, rx, ⟨st, m₁⟩, q⟩ => wpAny_mono (sE G NM hr hc R st.w (hf.step st) q) (fun b s₂ ⟨y, σ₂, ry, ⟨st₂, m₂⟩, q₂⟩ => ?_) fun _ _ f => f) fun _ _ f => f) hm
    exact wpAny_mono (opCmp_ok R (rx.step st₂) ry st₂.w q₂) (fun _ _ pv => pv.back (st.trans st₂) (m₁.trans m₂)) fun _ _ f => f
  | _, _, _, .ite ht hl hr, hc, A, s, σ, env, own, F, Q, R, hw, hf, v => by
    simp only [e_int, e_bool, e_none, e_str, r_var, e_bin, r_neg, e_not, e_cmp, e_and, e_or, e_ite, e_sub, e_slice, e_list, e_tuple, e_call, e_ucall, e_meth, r_comp] at v
    refine IfExp_ (wpAny_mono (sT G NM ht hc R hw hf v) (fun b s₁ ⟨σ₁, ⟨st, m₁⟩, q⟩ => ?_) fun _ _ f => f)
    cases b with
    | true => exact wpAny_mono (sE G NM hl hc R st.w (hf.step st) q) (fun _ _ pv => pv.back st m₁) fun _ _ f => f
    | false => exact wpAny_mono (sE G NM hr hc R st.w (hf.step st) q) (fun _ _ pv => pv.back st m₁) fun _ _ f => f
  | _, _, _, .sub ho hi hs, hc, A, s, σ, env, own, F, Q, R, hw, hf, v => by
    simp only [e_int, e_bool, e_none, e_str, r_var, e_bin, r_neg, e_not, e_cmp, e_and, e_or, e_ite, e_sub, e_slice, e_list, e_tuple, e_call, e_ucall, e_meth, r_comp] at v
    refine Subscript_ (wpAny_mono (sE G NM ho hc R hw hf v) (fun a s₁ ⟨x, σ₁, rx, ⟨st, m₁⟩, q⟩ => wpAny_mono (sE G NM hi hc R st.w (hf.step st) q) (fun b s₂ ⟨y, σ₂, ry, ⟨st₂, m₂⟩, q₂⟩ => ?_) fun _ _ f => f) fun _ _ f => f)
    exact wpAny_mono (opSub_ok (rx.step st₂) ry st₂.w q₂ hs) (fun _ _ pv => pv.back (st.trans st₂) (m₁.trans m₂)) fun _ _ f => f
  | _, _, _, .slice (st := ste) ho hlo hhi hst, hc, A, s, σ, env, own, F, Q, R, hw, hf, v => by
    simp only [e_int, e_bool, e_none, e_str, r_var, e_bin, r_neg, e_not, e_cmp, e_and, e_or, e_ite, e_sub, e_slice, e_list, e_tuple, e_call, e_ucall, e_meth, r_comp] at v
    refine Subscript_ (wpAny_mono (sE G NM ho hc R hw hf v) (fun a s₁ ⟨x, σ₁, rx, ⟨st, m₁⟩, q⟩ => ?_) fun _ _ f => f)
    have f1 := hf.step st
    refine wpAny_Slice (wpAny_mono (sO G NM hlo hc R st.w f1 q) (fun l s₂ ⟨lx, σ₂, lr, ⟨st₂, m₂⟩, q₂⟩ => wpAny_mono (sO G NM hhi hc R st₂.w (f1.step st₂) q₂) (fun h s₃ ⟨hx, σ₃, hr, ⟨st₃, m₃⟩, q₃⟩ =>
      wpAny_mono (sO G NM hst hc R st₃.w ((f1.step st₂).step st₃) q₃) (fun sv s₄ ⟨sx, σ₄, sr, ⟨st₄, m₄⟩, q₄⟩ => ?_) fun _ _ f => f) fun _ _ f => f) fun _ _ f => f)
    have all := ((st.trans st₂).trans st₃).trans st₄
    have rx' := ((rx.step st₂).step st₃).step st₄
    have lr' := (lr.step st₃).step st₄
    have hr' := hr.step st₄
    exact wpAny_mono (opSlice_ok rx' lr' hr' sr st₄.w q₄ (fun o i => by cases ste with | none => exact ⟨_, rfl⟩ | some e => exact ⟨_, rfl⟩)) (fun _ _ pv => pv.back all (((m₁.trans m₂).trans m₃).trans m₄)) fun _ _ f => f
  | _, _, _, .list hs, hc, A, s, σ, env, own, F, Q, R, hw, hf, v => by
    simp only [e_int, e_bool, e_none, e_str, r_var, e_bin, r_neg, e_not, e_cmp, e_and, e_or, e_ite, e_sub, e_slice, e_list, e_tuple, e_call, e_ucall, e_meth, r_comp] at v
    refine wpAny_List_spliced (wpAny_mono (sEs G NM hs hc R hw hf v) (fun vs s₁ ⟨xs, σ₁, rs, ⟨st, m₁⟩, q⟩ => ?_) fun _ _ f => f)
    have hl := rs.length
    exact ⟨big_line (by rw [hl]; exact q.1), PV.back (PV.push (n := 0) st.w rs q _) st m₁⟩
  | _, _, _, .tuple hs, hc, A, s, σ, env, own, F, Q, R, hw, hf, v => by
    simp only [e_int, e_bool, e_none, e_str, r_var, e_bin, r_neg, e_not, e_cmp, e_and, e_or, e_ite, e_sub, e_slice, e_list, e_tuple, e_call, e_ucall, e_meth, r_comp] at v
    refine wpAny_Tuple_spliced (wpAny_mono (sEs G NM hs hc R hw hf v) (fun vs s₁ ⟨xs, σ₁, rs, ⟨st, m₁⟩, hb, q⟩ => ?_) fun _ _ f => f)
    have hl := rs.length
    have k : ∀ b o, s₁.heap.get? b = some o → (s₁.heap.push { cls := .type "tuple", data := .seq vs.toArray }).get? b = some o := fun b o e => Heap.get?_push_of_some _ e
    exact ⟨big_line (by rw [hl]; exact hb), _, σ₁, .tup (vs := vs) ⟨_, Heap.get?_push_size _ rfl, rfl, 0, rfl⟩ (rs.tups fun a o e _ => k a o e), ⟨st.trans (st.w.extend k), m₁.trans ⟨Eq.refl _, Eq.refl _⟩⟩, q⟩
  | _, _, _, .call (f := f) hn hk hs, hc, A, s, σ, env, own, F, Q, R, hw, hf, v => by
    subst hn
    simp only [e_int, e_bool, e_none, e_str, r_var, e_bin, r_neg, e_not, e_cmp, e_and, e_or, e_ite, e_sub, e_slice, e_list, e_tuple, e_call, e_ucall, e_meth, r_comp] at v
    refine Call_Name rfl (load_glob G hw hf hk f.notName.2 (.inr ⟨NM.bi f, (G.boot _ f.notName.1).trans f.boot⟩) ?_)
    refine callee_bi f hs (wpAny_mono (sEs G NM hs hc R hw hf v) (fun vs s₁ ⟨xs, σ₁, rs, ⟨st, m₁⟩, q⟩ => ?_) fun _ _ f => f)
    exact wpAny_mono (opCall_ok G R rs st.w q) (fun _ _ pv => pv.back st m₁) fun _ _ f => f
  | _, _, _, .ucall (i := i) hn hd hk hlen hs, hc, A, s, σ, env, own, F, Q, R, hw, hf, v => by
    simp only [e_int, e_bool, e_none, e_str, r_var, e_bin, r_neg, e_not, e_cmp, e_and, e_or, e_ite, e_sub, e_slice, e_list, e_tuple, e_call, e_ucall, e_meth, r_comp] at v
    rw [hc] at hn
    obtain ⟨fv, e1, fa, o, fd, rfl, e2, e3, call⟩ := NM.fn i _ hn
    refine Call_Name rfl (load_glob G hw hf hk hd (.inl e1) ?_)
    refine callWith_function_kw (o := o) (fd := fd) (evalArgs_ces hs (wpAny_mono (sEs G NM hs hc R hw hf v) (fun vs s₁ ⟨xs, σ₁, rs, ⟨st, m₁⟩, q⟩ => ?_) fun _ _ f => f))
    exact ⟨⟨st.w.stays _ _ e2, e3⟩, wpAny_mono (call A s₁ σ₁ vs xs Q R st.w rs q) (fun _ _ pv => pv.back st m₁) fun _ _ f => f⟩
  | _, _, _, .meth (m := m) hn hl hlen ha ho hs, hc, A, s, σ, env, own, F, Q, R, hw, hf, v => by
    subst hn
    simp only [e_int, e_bool, e_none, e_str, r_var, e_bin, r_neg, e_not, e_cmp, e_and, e_or, e_ite, e_sub, e_slice, e_list, e_tuple, e_call, e_ucall, e_meth, r_comp] at v
    refine wpAny_Call_method (T := "list") (id := m.id) (ha env) ?_ hl PySem.F.plainAttrs_list (list_slots m).1 (list_slots m).2 (wpAny_mono (sE G NM ho hc R hw hf v) (fun ov s₁ ⟨x, σ₁, rx, ⟨st, m₁⟩, ⟨b, xs, eb, eσ⟩, q⟩ => ?_) fun _ _ f => f)
    · exact few_ok hs hlen
    · subst eb
      cases rx
      obtain ⟨vs, k, g, r⟩ := st.w.mlist eσ
      refine ⟨⟨_, g, rfl⟩, fun a e => ⟨_, by cases e; exact g, rfl⟩, ?_⟩
      refine Calls.callWith_builtin (star_plain hs) (evalArgs_ces hs (wpAny_mono (sEs G NM hs hc R st.w (hf.step st) q) (fun vs s₂ ⟨ys, σ₂, rs, ⟨st₂, m₂⟩, q₂⟩ => ?_) fun _ _ f => f))
      exact wpAny_mono (opMeth_ok (.ref _) rs st₂.w q₂) (fun _ _ pv => pv.back (st.trans st₂) (m₁.trans m₂)) fun _ _ f => f
  | _, _, _, .comp ok hk hfm hci hen hg hel hif, hc, A, s, σ, env, own, F, Q, R, hw, hf, v => by
    subst hfm
    simp only [e_int, e_bool, e_none, e_str, r_var, e_bin, r_neg, e_not, e_cmp, e_and, e_or, e_ite, e_sub, e_slice, e_list, e_tuple, e_call, e_ucall, e_meth, r_comp] at v
    rw [eval_ListComp]
    cases hci with
    | plain hce hfs =>
      refine wpAny_comprehension_free (use := none) rfl (hfs env) (clos_ok ok hf) hk (scOk_names ok) (wpAny_mono (sE G NM hce hc R hw hf v) (fun x s₁ ⟨xv, σ₁, rx, ⟨st, m₁⟩, q⟩ => ?_) fun _ _ f => f)
      refine wpAny_mono (start_plain st.w rx q) (fun it s₂ ⟨m₂, I, as, ne, hit, bes, ko, Inv, ⟨n0, hi⟩, hinv⟩ => ?_) fun _ _ f => f
      exact comp_none (Inv := Inv) R.handled ok hk hg (fun hw hf v => sE G NM hel hc R hw hf v) (fun hw hf v => sTs G NM hif hc R hw hf v) (fun k a e => absurd (ne k a e) (by simp)) st.w (hf.step st) ko hit bes hi hinv (fun _ s' pv m₃ => PVh.lift pv st (m₁.trans (m₂.trans m₃)))
    | enum hn hkk hce hst =>
      subst hn
      obtain ⟨is, rfl⟩ := hen rfl
      refine wpAny_comprehension_free (use := none) rfl (fun _ => rfl) (clos_ok ok hf) hk (scOk_names ok) ?_
      refine sEnum G NM hw hf hkk hce hst (q := _) (wpAny_mono (sE1 (sE G NM hce hc R hw hf v) (hst env)) (fun vs s₁ ⟨xs, σ₁, rs, st, x, ex, qx⟩ => ⟨xs, σ₁, rs, st, x, ex, qx⟩) fun _ _ f => f) fun it s₁ σ₁ s₂ st m₁ sd self => ?_
      refine self _ _ ?_
      obtain ⟨m₂, I, as, ne, hit, bes, ko, Inv, ⟨n0, hi⟩, hinv⟩ := sd
      exact comp_none (Inv := Inv) R.handled ok hk hg (fun hw hf v => sE G NM hel hc R hw hf v) (fun hw hf v => sTs G NM hif hc R hw hf v) (fun k a e => by cases hg; exact ⟨_, _, _, rfl⟩) st.w (hf.step st) ko hit bes hi hinv (fun _ s' pv m₃ => PVh.lift pv st (m₁.trans (m₂.trans m₃)))
theorem sEs (G : Gnd prog h₀ mg mb) (NM : NamesOk prog w h₀ mg n fns Φ) : ∀ {c : Cfg} {es : List Expr} {ps : List PE}, CEs c es ps → c.fns = fns → ∀ {A : Around} {s : Shared} {σ : Hp} {env : Env} {own : Addr → Prop} {F : Frm} {pos : Pos} {Q : List V → Hp → Prop},
    Room A n → W h₀ σ s.heap → FrOk c env own F h₀ σ s.heap → vEs Φ ps Q F σ → wpAny (model prog w) A (spliced (backTo pos (starEach es env))) (PVs h₀ σ s Q) E0 s
  | _, _, _, .nil, hc, A, s, σ, env, own, F, pos, Q, R, hw, hf, v => by
    simp only [es_nil, es_cons] at v
    exact Calls.spliced_nil ⟨_, σ, .nil, ⟨.refl hw, .rfl⟩, v⟩
  | _, _, _, .cons he hs hst, hc, A, s, σ, env, own, F, pos, Q, R, hw, hf, v => by
    simp only [es_nil, es_cons] at v
    rw [hst env]
    refine Calls.spliced_cons (wpAny_mono (sE G NM he hc R hw hf v) (fun a s₁ ⟨x, σ₁, rx, ⟨st, m₁⟩, q⟩ => wpAny_mono (sEs G NM hs hc R st.w (hf.step st) q) (fun vs s₂ ⟨xs, σ₂, rs, ⟨st₂, m₂⟩, q₂⟩ => ?_) fun _ _ f => f) fun _ _ f => f)
    exact ⟨_, σ₂, .cons (rx.step st₂) rs, ⟨st.trans st₂, m₁.trans m₂⟩, q₂⟩
theorem sO (G : Gnd prog h₀ mg mb) (NM : NamesOk prog w h₀ mg n fns Φ) : ∀ {c : Cfg} {e : Option Expr} {p : Option PE}, CO c e p → c.fns = fns → ∀ {A : Around} {s : Shared} {σ : Hp} {env : Env} {own : Addr → Prop} {F : Frm} {Q : V → Hp → Prop},
    Room A n → W h₀ σ s.heap → FrOk c env own F h₀ σ s.heap → vO Φ p Q F σ → wpAny (model prog w) A (evalPart e env) (PV h₀ σ s Q) E0 s
  | _, _, _, .none, hc, A, s, σ, env, own, F, Q, R, hw, hf, v => by
    simp only [o_none, o_some] at v; exact wpAny_pure (PV.same' hw .none v)
  | _, _, _, .some h, hc, A, s, σ, env, own, F, Q, R, hw, hf, v => by
    simp only [o_none, o_some] at v; exact sE G NM h hc R hw hf v
theorem sT (G : Gnd prog h₀ mg mb) (NM : NamesOk prog w h₀ mg n fns Φ) : ∀ {c : Cfg} {e : Expr} {p : PE}, CT c e p → c.fns = fns → ∀ {A : Around} {s : Shared} {σ : Hp} {env : Env} {own : Addr → Prop} {F : Frm} {Q : Bool → Hp → Prop},
    Room A n → W h₀ σ s.heap → FrOk c env own F h₀ σ s.heap → vT Φ p Q F σ → wpAny (model prog w) A (isTrue e env (eval e env)) (PB h₀ σ s Q) E0 s
  | _, _, _, .not h, hc, A, s, σ, env, own, F, Q, R, hw, hf, v => by
    simp only [t_not, t_and, t_or, t_cmp, r_tvar, t_call, t_ucall] at v
    exact isTrue_not (wpAny_mono (sT G NM h hc R hw hf v) (fun b s₁ q => q) fun _ _ f => f)
  | _, _, _, .and hl hr, hc, A, s, σ, env, own, F, Q, R, hw, hf, v => by
    simp only [t_not, t_and, t_or, t_cmp, r_tvar, t_call, t_ucall] at v
    refine isTrue_and (wpAny_mono (sT G NM hl hc R hw hf v) (fun b s₁ ⟨σ₁, ⟨st, m₁⟩, q⟩ => ?_) fun _ _ f => f)
    cases b with
    | true =>
      refine isTrue_and (wpAny_mono (sT G NM hr hc R st.w (hf.step st) q) (fun b s₂ q₂ => ?_) fun _ _ f => f)
      have := q₂.back st m₁
      cases b with
      | true => exact isTrue_and_nil this
      | false => exact this
    | false => exact ⟨σ₁, ⟨st, m₁⟩, q⟩
  | _, _, _, .or hl hr, hc, A, s, σ, env, own, F, Q, R, hw, hf, v => by
    simp only [t_not, t_and, t_or, t_cmp, r_tvar, t_call, t_ucall] at v
    refine isTrue_or (wpAny_mono (sT G NM hl hc R hw hf v) (fun b s₁ ⟨σ₁, ⟨st, m₁⟩, q⟩ => ?_) fun _ _ f => f)
    cases b with
    | false =>
      refine isTrue_or (wpAny_mono (sT G NM hr hc R st.w (hf.step st) q) (fun b s₂ q₂ => ?_) fun _ _ f => f)
      have := q₂.back st m₁
      cases b with
      | false => exact isTrue_or_nil this
      | true => exact this
    | true => exact ⟨σ₁, ⟨st, m₁⟩, q⟩
  | _, _, _, .cmp hl hr hm, hc, A, s, σ, env, own, F, Q, R, hw, hf, v => by
    simp only [t_not, t_and, t_or, t_cmp, r_tvar, t_call, t_ucall] at v
    refine wpAny_isTrue_Compare1 (wpAny_mono (sE G NM hl hc R hw hf v) (fun a s₁ ⟨x, σ₁, rx, ⟨st, m₁⟩, q⟩ => wpAny_mono (sE G NM hr hc R st.w (hf.step st) q) (fun b s₂ ⟨y, σ₂, ry, ⟨st₂, m₂⟩, q₂⟩ => ?_) fun _ _ f => f) fun _ _ f => f) hm
    exact wpAny_mono (opCmp_ok R (rx.step st₂) ry st₂.w q₂) (fun v s₃ ⟨z, σ₃, rz, ⟨st₃, m₃⟩, q₃⟩ => wpAny_mono (truth_ok rz st₃.w q₃) (fun _ _ pb => pb.back ((st.trans st₂).trans st₃) ((m₁.trans m₂).trans m₃)) fun _ _ f => f) fun _ _ f => f
  | _, _, _, .var (.var e hd hcd), hc, A, s, σ, env, own, F, Q, R, hw, hf, v => by
    simp only [t_not, t_and, t_or, t_cmp, r_tvar, t_call, t_ucall] at v
    split at v
    · rename_i u hu
      exact isTrue_plain (wpAny_Name (hf.load e hu hcd fun w r => truth_ok r hw v) hd)
    · exact v.elim
  | _, _, _, .call (f := f) (.call hn hk hs), hc, A, s, σ, env, own, F, Q, R, hw, hf, v => by
    subst hn
    simp only [t_not, t_and, t_or, t_cmp, r_tvar, t_call, t_ucall] at v
    refine isTrue_plain (Call_Name rfl (load_glob G hw hf hk f.notName.2 (.inr ⟨NM.bi f, (G.boot _ f.notName.1).trans f.boot⟩) ?_))
    refine callee_bi f hs (wpAny_mono (sEs G NM hs hc R hw hf v) (fun vs s₁ ⟨xs, σ₁, rs, ⟨st, m₁⟩, q⟩ => ?_) fun _ _ f => f)
    exact wpAny_mono (opCall_ok G R rs st.w q) (fun v s₃ ⟨z, σ₃, rz, ⟨st₃, m₃⟩, q₃⟩ => wpAny_mono (truth_ok rz st₃.w q₃) (fun _ _ pb => pb.back (st.trans st₃) (m₁.trans m₃)) fun _ _ f => f) fun _ _ f => f
  | _, _, _, .ucall (i := i) (.ucall hn hd hk hlen hs), hc, A, s, σ, env, own, F, Q, R, hw, hf, v => by
    simp only [t_not, t_and, t_or, t_cmp, r_tvar, t_call, t_ucall] at v
    rw [hc] at hn
    obtain ⟨fv, e1, fa, o, fd, rfl, e2, e3, call⟩ := NM.fn i _ hn
    refine isTrue_plain (Call_Name rfl (load_glob G hw hf hk hd (.inl e1) ?_))
    refine callWith_function_kw (o := o) (fd := fd) (evalArgs_ces hs (wpAny_mono (sEs G NM hs hc R hw hf v) (fun vs s₁ ⟨xs, σ₁, rs, ⟨st, m₁⟩, q⟩ => ?_) fun _ _ f => f))
    exact ⟨⟨st.w.stays _ _ e2, e3⟩, wpAny_mono (call A s₁ σ₁ vs xs _ R st.w rs q) (fun v s₃ ⟨z, σ₃, rz, ⟨st₃, m₃⟩, q₃⟩ => wpAny_mono (truth_ok rz st₃.w q₃) (fun _ _ pb => pb.back (st.trans st₃) (m₁.trans m₃)) fun _ _ f => f) fun _ _ f => f⟩
theorem sTs (G : Gnd prog h₀ mg mb) (NM : NamesOk prog w h₀ mg n fns Φ) : ∀ {c : Cfg} {es : List Expr} {ps : List PE}, CTs c es ps → c.fns = fns → ∀ {A : Around} {s : Shared} {σ : Hp} {env : Env} {own : Addr → Prop} {F : Frm} {Q : Bool → Hp → Prop},
    Room A n → W h₀ σ s.heap → FrOk c env own F h₀ σ s.heap → vTs Φ ps Q F σ →
    wpAny (model prog w) A (forIn es true fun c r => if r = true then do let ok ← isTrue c env (eval c env); pure (ForInStep.yield ok) else pure (ForInStep.yield r)) (PB h₀ σ s Q) E0 s
  | _, _, _, .nil, hc, A, s, σ, env, own, F, Q, R, hw, hf, v => by
    simp only [ts_nil, ts_cons] at v
    exact wpAny_pure ⟨σ, ⟨.refl hw, .rfl⟩, v⟩
  | _, _, _, .cons (es := es) h hs, hc, A, s, σ, env, own, F, Q, R, hw, hf, v => by
    simp only [ts_nil, ts_cons] at v
    rw [List.forIn_cons]
    simp only [if_true]
    refine wpAny_bind (wpAny_bind (wpAny_mono (sT G NM h hc R hw hf v) (fun b s₁ ⟨σ₁, ⟨st, m₁⟩, q⟩ => wpAny_pure ?_) fun _ _ f => f))
    cases b with
    | true => exact wpAny_mono (sTs G NM hs hc R st.w (hf.step st) q) (fun _ _ pb => pb.back st m₁) fun _ _ f => f
    | false =>
      have : ∀ es : List Expr, (forIn es false fun c r => if r = true then do let ok ← isTrue c env (eval c env); pure (ForInStep.yield ok) else pure (ForInStep.yield r)) = (pure false : Sem Bool) := fun es => by
        induction es with
        | nil => rfl
        | cons e es ih => rw [List.forIn_cons]; exact ih
      dsimp only
      rw [this]
      exact wpAny_pure ⟨σ₁, ⟨st, m₁⟩, q⟩
end
end

/-! Fw14 -/
mutual
inductive CS : Cfg → Stmt → PS → Prop
  | expr {c : Cfg} {e : Expr} {p : Pos} {a : PE} : CE c e a → (∀ env, swapsWith e none p.line env = pure false) → CS c (.Expr e p) (.expr a)
  | assign {c : Cfg} {x : Str} {q : Pos} {i : Nat} {e : Expr} {p : Pos} {a : PE} : c.names[i]? = some x → c.sc.lookup x ≠ some .free → CE c e a → (∀ env, swapsWith e (some (.Name x q)) p.line env = pure false) → CS c (.Assign [.Name x q] e p) (.assign (.name i) a)
  | assignC {c : Cfg} {x : Str} {q : Pos} {i : Nat} {elt : Expr} {gens : List Comprehension} {scope : Scope} {cp p : Pos} {a : PE} : c.names[i]? = some x → c.sc.lookup x ≠ some .free → CE c (.ListComp elt gens scope cp) a →
      CS c (.Assign [.Name x q] (.ListComp elt gens scope cp) p) (.assign (.name i) a)
  | assignT {c : Cfg} {es : List Expr} {k : Nat} {q : Pos} {is : List Nat} {e : Expr} {p : Pos} {a : PE} : CGs c es is → CE c e a → (∀ env, swapsWithSole [.Tuple es k q] e p.line env = pure false) → (∀ env, swappedStores [.Tuple es k q] e env = pure none) →
      CS c (.Assign [.Tuple es k q] e p) (.assign (.tup is) a)
  | setitem {c : Cfg} {o i e : Expr} {q p : Pos} {a b d : PE} : CE c o a → CE c i b → CE c e d → (∀ env, swapsWith e (some (.Subscript o i q)) p.line env = pure false) → CS c (.Assign [.Subscript o i q] e p) (.setitem a b d)
  | aug {c : Cfg} {x : Str} {q : Pos} {i : Nat} {op : Operator} {e : Expr} {p : Pos} {a : PE} : c.names[i]? = some x → c.sc.lookup x ≠ some .free → (x == ("__classdict__" : Str)) = false → (op = .Add ∨ op = .Mult) → CE c e a → CS c (.AugAssign (.Name x q) op e p) (.aug i op a)
  | ifs {c : Cfg} {t : Expr} {l r : List Stmt} {p : Pos} {a : PE} {b d : List PS} : CT c t a → CSs c l b → CSs c r d → CS c (.If t l r p) (.ifs a b d)
  | whil {c : Cfg} {t : Expr} {l : List Stmt} {p : Pos} {a : PE} {b : List PS} : CT c t a → CSs c l b → CS c (.While t l [] p) (.whil a b)
  | for {c : Cfg} {t it : Expr} {l : List Stmt} {p : Pos} {tg : Tgt} {k : IK} {a : PE} {b : List PS} : CG c t tg → CI c it k a → (k = .enum → ∃ is, tg = .tup is) → CSs c l b → CS c (.For t it l [] p) (.for tg k a b)
  | ret {c : Cfg} {e : Expr} {p : Pos} {a : PE} : CE c e a → CS c (.Return (some e) p) (.ret a)
  | brk {c : Cfg} {p : Pos} : CS c (.Break p) .brk
  | cont {c : Cfg} {p : Pos} : CS c (.Continue p) .cont
inductive CSs : Cfg → List Stmt → List PS → Prop
  | nil {c : Cfg} : CSs c [] []
  | cons {c : Cfg} {s : Stmt} {a : PS} {ss : List Stmt} {as : List PS} : CS c s a → CSs c ss as → CSs c (s :: ss) (a :: as)
end

def FlRep (h : Heap) : Flow → Fl → Prop
  | .next, .next => True
  | .brk, .brk => True
  | .cont, .cont => True
  | .ret v, .ret x => Rep h v x
  | _, _ => False
def PSt (c : Cfg) (env : Env) (own : Addr → Prop) (h₀ : Heap) (σ : Hp) (s : Shared) (Q : Fl → Frm → Hp → Prop) (f : Flow) (s' : Shared) : Prop :=
  ∃ fl F' σ', FlRep s'.heap f fl ∧ (StepX own h₀ σ s.heap σ' s'.heap ∧ Sm s s') ∧ FrOk c env own F' h₀ σ' s'.heap ∧ Q fl F' σ'
theorem PSt.back {c : Cfg} {env : Env} {own : Addr → Prop} {h₀ : Heap} {σ σ' : Hp} {s s₁ : Shared} {Q : Fl → Frm → Hp → Prop} {f : Flow} {s' : Shared} (x : PSt c env own h₀ σ' s₁ Q f s') (st : StepX own h₀ σ s.heap σ' s₁.heap) (m : Sm s s₁) : PSt c env own h₀ σ s Q f s' := by
  obtain ⟨fl, F', σ'', a, ⟨b, m'⟩, d, e⟩ := x; exact ⟨fl, F', σ'', a, ⟨st.trans b, m.trans m'⟩, d, e⟩
theorem PSt.next {c : Cfg} {env : Env} {own : Addr → Prop} {h₀ : Heap} {σ σ' : Hp} {s : Shared} {F : Frm} {Q : Fl → Frm → Hp → Prop} {s' : Shared} (st : StepX own h₀ σ s.heap σ' s'.heap) (m : Sm s s') (f : FrOk c env own F h₀ σ' s'.heap) (q : Q .next F σ') : PSt c env own h₀ σ s Q .next s' :=
  ⟨.next, F, σ', trivial, ⟨st, m⟩, f, q⟩

/-- how a for stands amid its turns -/
structure FSt (c : Cfg) (env : Env) (own : Addr → Prop) (as : List Addr) (iv : Value) (h₀ : Heap) (σb : Hp) (hb : Heap) (I : It) (F : Frm) (σ : Hp) (h : Heap) : Prop where
  it : ItRep h iv as I
  fr : FrOk c env own F h₀ σ h
  st : StepX own h₀ σb hb σ h
  bes : Beside as h₀ σ hb
  no : ∀ a ∈ as, ¬ own a
  cl : ∀ (i : Nat) y a, c.names[i]? = some y → env.kindOf y ≠ some .local → env.cells.lookup y = some a → ∃ o, hb.get? a = some o
  lc : ∃ o, hb.get? env.locals = some o

section
variable {prog : Program} {w : World} {A : Around} {s : Shared} {c : Cfg} {env : Env} {own : Addr → Prop} {as : List Addr} {iv : Value} {F F1 : Frm} {h₀ : Heap} {σb σ σ' : Hp} {hb h h' : Heap} {I I' : It}

/-- a frame where only the cells that it names count -/
theorem FrOk.move' (f : FrOk c env own F h₀ σ h) (kl : ∀ o, h.get? env.locals = some o → h'.get? env.locals = some o) (kc : ∀ (i : Nat) x a, c.names[i]? = some x → env.kindOf x ≠ some .local → env.cells.lookup x = some a → ∀ o, h.get? a = some o → h'.get? a = some o)
    (t : Tups h h') (al : ∀ a, own a → ∃ o, h'.get? a = some o) : FrOk c env own F h₀ σ h' := by
  refine ⟨f.kind, f.glob, f.bi, f.gk, f.vk, ?_, fun i x e n => ?_, f.inj, f.loc, f.nd, al⟩
  · obtain ⟨m, n, r⟩ := f.ns
    obtain ⟨o, es, ep, ho, q⟩ := n
    exact ⟨m, ⟨o, es, ep, kl _ ho, q⟩, fun i x v e1 e2 e3 => by
      obtain ⟨w, e4, e5⟩ := r i x v e1 e2 e3
      exact ⟨w, e4, e5.tups t⟩⟩
  · obtain ⟨a, cv, e1, ⟨o, e2, e2'⟩, e3, e4, e5, e6⟩ := f.cell i x e n
    refine ⟨a, cv, e1, ⟨o, kc _ _ _ e n e1 _ e2, e2'⟩, e3, e4, e5, fun v hv => ?_⟩
    obtain ⟨w, q1, q2⟩ := e6 v hv
    exact ⟨w, q1, q2.tups t⟩
theorem FSt.stepX (x : FSt c env own as iv h₀ σb hb I F σ h) (y : StepX own h₀ σ h σ' h') (f : FrOk c env own F1 h₀ σ' h') : FSt c env own as iv h₀ σb hb I F1 σ' h' := by
  have kp : ∀ a ∈ as, ∀ o, h.get? a = some o → h'.get? a = some o := fun a m o e => y.keep a o (none_mut (x.bes a m).2.1) (x.no a m) e
  exact ⟨x.it.move kp y.tups, f, x.st.trans y, x.bes.of_grow y.grow x.it.there, x.no, x.cl, x.lc⟩
theorem FSt.moved (x : FSt c env own as iv h₀ σb hb I F σ h) (k : ∀ b o, b ∉ as → h.get? b = some o → h'.get? b = some o) (it' : ItRep h' iv as I') : FSt c env own as iv h₀ σb hb I' F σ h' := by
  have t := (x.st.w.slip (fun a m => (x.bes a m).2) x.it.notImm k).2
  have nh : ∀ a, (∃ o, hb.get? a = some o) → a ∉ as := fun a ⟨o, e⟩ m => by rw [(x.bes a m).1] at e; cases e
  refine ⟨it', ?_, StepX.slip x.st x.bes x.it.notImm k, x.bes, x.no, x.cl, x.lc⟩
  refine x.fr.move' (fun o e => k _ o (nh _ x.lc) e) (fun i y a e1 e2 e3 o e => k a o (nh a (x.cl i y a e1 e2 e3)) e) t (fun a m => ?_)
  obtain ⟨o, e⟩ := x.fr.ex a m
  exact ⟨o, k a o (fun m' => x.no a m' m) e⟩
theorem FSt.over (x : FSt c env own as iv h₀ σb hb I F σ h) (k : ∀ b o, b ∉ as → h.get? b = some o → h'.get? b = some o) : StepX own h₀ σb hb σ h' ∧ FrOk c env own F h₀ σ h' := by
  have t := (x.st.w.slip (fun a m => (x.bes a m).2) x.it.notImm k).2
  have nh : ∀ a, (∃ o, hb.get? a = some o) → a ∉ as := fun a ⟨o, e⟩ m => by rw [(x.bes a m).1] at e; cases e
  refine ⟨StepX.slip x.st x.bes x.it.notImm k, ?_⟩
  refine x.fr.move' (fun o e => k _ o (nh _ x.lc) e) (fun i y a e1 e2 e3 o e => k a o (nh a (x.cl i y a e1 e2 e3)) e) t (fun a m => ?_)
  obtain ⟨o, e⟩ := x.fr.ex a m
  exact ⟨o, k a o (fun m' => x.no a m' m) e⟩
theorem FSt.start (hw : W h₀ σ hb) (hf : FrOk c env own F h₀ σ hb) (it : ItRep h iv as I) (bes : Beside as h₀ σ hb) (ko : ∀ b o, hb.get? b = some o → h.get? b = some o) : FSt c env own as iv h₀ σ hb I F σ h := by
  have st := hw.extend ko
  refine ⟨it, hf.step st, Step.any st, bes, fun a m q => ?_, fun i y a e1 e2 e3 => ?_, ?_⟩
  · obtain ⟨o, e⟩ := hf.ex a q; rw [(bes a m).1] at e; cases e
  · obtain ⟨a', cv, g1, ⟨o, g2, _⟩, _⟩ := hf.cell i y e1 e2
    rw [e3] at g1; cases g1; exact ⟨o, g2⟩
  · obtain ⟨m, ⟨o, _, _, ho, _⟩, _⟩ := hf.ns; exact ⟨o, ho⟩
end

section
variable {prog : Program} {w : World} {h₀ : Heap} {mg mb : Str → Option Value} {Φ : Fns} {n : Nat} {fns : List Str}

def ForInv (Φ : Fns) (t : Tgt) (b : List PS) (Q : Fl → Frm → Hp → Prop) (Inv : Nat → It → Frm → Hp → Prop) : Prop := ∀ n I F σ, Inv n I F σ →
        match itNext I σ with
        | none => False
        | some none => Q .next F σ
        | some (some (x, I')) => bindT t x (fun F1 => vSs Φ b (fun fl F σ => match fl with
          | .next => ∃ m, m < n ∧ Inv m I' F σ
          | .cont => ∃ m, m < n ∧ Inv m I' F σ
          | .brk => Q .next F σ
          | .ret v => Q (.ret v) F σ) F1 σ) F σ

theorem for_loop {A : Around} {s : Shared} {c : Cfg} {env : Env} {own : Addr → Prop} {as : List Addr} {iv : Value} {F : Frm} {σ : Hp} {sb : Shared} {I : It} {t : Expr} {tg : Tgt} {l : List Stmt} {b : List PS} {Q : Fl → Frm → Hp → Prop} {Inv : Nat → It → Frm → Hp → Prop}
    (hh : A.handled = none) (hg : CG c t tg)
    (hbd : ∀ {s : Shared} {σ : Hp} {F : Frm} {Q : Fl → Frm → Hp → Prop}, W h₀ σ s.heap → FrOk c env own F h₀ σ s.heap → vSs Φ b Q F σ → wpAny (model prog w) A (execs l env) (PSt c env own h₀ σ s Q) E0 s)
    (hen : ∀ k a, I = .enm k a → ∃ elts x1 p, t = .Tuple elts x1 p) (x0 : FSt c env own as iv h₀ σ sb.heap I F σ s.heap) (mb : Sm sb s) {n : Nat} (hi : Inv n I F σ) (hinv : ForInv Φ tg b Q Inv) {R : Result → Shared → Prop}
    (hR : ∀ f s', PSt c env own h₀ σ sb Q f s' → R (.ok f) s') : codeAny (model prog w) A (.forLoop t iv l [] env) R s := by
  have e0 : ∀ (E : Value → Shared → Prop) e s, E0 e s → E e s := fun _ _ _ f => f.elim
  refine codeAny_forLoop_any (fun n s' => ∃ I F σ', Sm sb s' ∧ Inv n I F σ' ∧ (∀ k a, I = .enm k a → ∃ elts x1 p, t = .Tuple elts x1 p) ∧ FSt c env own as iv h₀ σ sb.heap I F σ' s'.heap) (fun n s' hI => ?_) n ⟨I, F, σ, mb, hi, hen, x0⟩
  obtain ⟨I, F, σ', mI, hi, hen, x⟩ := hI
  have q := hinv n I F σ' hi
  split at q
  · exact q.elim
  · rename_i hn
    refine next_end hh x.st.w x.it hn fun s'' mE kk => wpAny_execs_nil ?_
    obtain ⟨st, fr⟩ := x.over kk
    exact hR _ _ ⟨.next, F, σ', trivial, ⟨st, mI.trans mE⟩, fr, q⟩
  · rename_i xx I' hn
    have rest : ∀ y s₂, Sm sb s₂ → Rep s₂.heap y xx → FSt c env own as iv h₀ σ sb.heap I' F σ' s₂.heap → (∀ k a, I' = .enm k a → ∃ elts x1 p, t = .Tuple elts x1 p) →
        wpAny (model prog w) A (assign t env y) (fun _ s₂ => wpAny (model prog w) A (execs l env) (fun f s₃ => match f with
            | .next | .cont => ∃ m, m < n ∧ ∃ I F σ', Sm sb s₃ ∧ Inv m I F σ' ∧ (∀ k a, I = .enm k a → ∃ elts x1 p, t = .Tuple elts x1 p) ∧ FSt c env own as iv h₀ σ sb.heap I F σ' s₃.heap
            | .brk => R (.ok .next) s₃
            | .ret v => R (.ok (.ret v)) s₃) (notedBy (model prog w) A env fun e s' => R (.error e) s') s₂) (notedBy (model prog w) A env fun e s' => R (.error e) s') s₂ := by
      intro y s₂ m2 ry x2 hen'
      refine assign_ok hg hh x2.st.w x2.fr ry q fun s₃ F1 qF m3 stx f1 => ?_
      have x3 := x2.stepX stx f1
      refine wpAny_mono (hbd x3.st.w x3.fr qF) (fun f s₄ ⟨fl, F4, σ4, rf, ⟨st4, m4⟩, fr4, q4⟩ => ?_) (e0 _)
      have x4 := x3.stepX st4 fr4
      have mm := (m2.trans m3).trans m4
      cases f with
      | next => cases fl <;> first | exact rf.elim | (obtain ⟨m, hm, q5⟩ := q4; exact ⟨m, hm, I', F4, σ4, mm, q5, hen', x4⟩)
      | cont => cases fl <;> first | exact rf.elim | (obtain ⟨m, hm, q5⟩ := q4; exact ⟨m, hm, I', F4, σ4, mm, q5, hen', x4⟩)
      | brk => cases fl <;> first | exact rf.elim | exact hR _ _ ⟨.next, F4, σ4, trivial, ⟨x4.st, mm⟩, x4.fr, q4⟩
      | ret v => cases fl <;> first | exact rf.elim | exact hR _ _ ⟨.ret _, F4, σ4, rf, ⟨x4.st, mm⟩, x4.fr, q4⟩
    have bb : ∀ a ∈ as, σ' a = none ∧ h₀.get? a = none := fun a m => (x.bes a m).2
    cases I with
    | enm k0 a0 =>
      obtain ⟨elts, x1, p, rfl⟩ := hen _ _ rfl
      obtain ⟨e1, I1, old', rfl, rfl, hne, he, hi'⟩ := x.it
      refine next_enum x.st.w hne he hi' bb hn (elts := elts) (x1 := x1) (pos := p) fun y s₂ hy => ?_
      refine wpAny_mono hy (fun _ s₃ ⟨mm, ry, it', kk⟩ => rest y s₃ (mI.trans mm) ry (x.moved kk it') (fun _ _ _ => ⟨_, _, _, rfl⟩)) (e0 _)
    | lst a0 i0 =>
      have hk' : ∀ k a, It.lst a0 i0 = It.enm k a → False := by intro k a e; cases e
      refine next_item hh x.st.w x.it bb hn hk' fun y s₂ mm ry it' kk => ?_
      exact letGo_it it' (next_kind hn hk') (rest y s₂ (mI.trans mm) ry (x.moved kk it') (fun k a e => (next_kind hn hk' k a e).elim))
    | rng a0 n0 c0 =>
      have hk' : ∀ k a, It.rng a0 n0 c0 = It.enm k a → False := by intro k a e; cases e
      refine next_item hh x.st.w x.it bb hn hk' fun y s₂ mm ry it' kk => ?_
      exact letGo_it it' (next_kind hn hk') (rest y s₂ (mI.trans mm) ry (x.moved kk it') (fun k a e => (next_kind hn hk' k a e).elim))
    | vals vs0 =>
      have hk' : ∀ k a, It.vals vs0 = It.enm k a → False := by intro k a e; cases e
      refine next_item hh x.st.w x.it bb hn hk' fun y s₂ mm ry it' kk => ?_
      exact letGo_it it' (next_kind hn hk') (rest y s₂ (mI.trans mm) ry (x.moved kk it') (fun k a e => (next_kind hn hk' k a e).elim))
end

/-! Fw15 -/
section
variable {prog : Program} {w : World} {h₀ : Heap} {mg mb : Str → Option Value} {Φ : Fns} {n : Nat} {fns : List Str}

theorem comp_some {A : Around} {s : Shared} {c : Cfg} {env : Env} {own : Addr → Prop} {as : List Addr} {iv : Value} {F : Frm} {σ : Hp} {sb : Shared} {I : It}
    {elt t it : Expr} {ifs : List Expr} {scope : Scope} {pos : Pos} {pelt : PE} {tg : Tgt} {pifs : List PE} {Q : Fl → Frm → Hp → Prop} {Inv : Nat → It → List V → Hp → Prop} {x : Str} {xp : Pos} {i : Nat} (hx : c.names[i]? = some x) (nf : c.sc.lookup x ≠ some .free)
    (hh : A.handled = none) (ok : scOk c scope.names = true) (hk : scope.kind = .function) (hg : CG { sc := scope.names, fns := c.fns } t tg)
    (hel : ∀ {s : Shared} {σ : Hp} {env : Env} {own : Addr → Prop} {F : Frm} {Q : V → Hp → Prop}, W h₀ σ s.heap → FrOk { sc := scope.names, fns := c.fns } env own F h₀ σ s.heap → vE Φ pelt Q F σ → wpAny (model prog w) A (eval elt env) (PV h₀ σ s Q) E0 s)
    (hif : ∀ {s : Shared} {σ : Hp} {env : Env} {own : Addr → Prop} {F : Frm} {Q : Bool → Hp → Prop}, W h₀ σ s.heap → FrOk { sc := scope.names, fns := c.fns } env own F h₀ σ s.heap → vTs Φ pifs Q F σ →
      wpAny (model prog w) A (forIn ifs true fun c r => if r = true then do let ok ← isTrue c env (eval c env); pure (ForInStep.yield ok) else pure (ForInStep.yield r)) (PB h₀ σ s Q) E0 s)
    (hen : ∀ k a, I = .enm k a → ∃ elts x1 p, t = .Tuple elts x1 p)
    (msb : Sm sb s) (hwb : W h₀ σ sb.heap) (hf : FrOk c env own F h₀ σ sb.heap) (ko : ∀ b o, sb.heap.get? b = some o → s.heap.get? b = some o) (hit : ItRep s.heap iv as I) (bes : Beside as h₀ σ sb.heap)
    {n : Nat} (hi : Inv n I [] σ) (hinv : CompInv Φ (fmapOf c scope.names) pelt tg pifs (fun v σ => bindT (.name i) v (fun F' => Q .next F' σ) F σ) F Inv) {QQ : Value → Shared → Prop} (hQQ : ∀ v s', PSt c env own h₀ σ sb Q .next s' → QQ v s') :
    wpAny (model prog w) A (newList []) (fun acc s₃ => wpAny (model prog w) A (newFunctionEnv scope env.globals (clGo env scope.names []) [] env.qual none .none (some env)) (fun cenv s₄ =>
      codeAny (model prog w) A (.compStart (.ListComp elt [⟨t, it, ifs, 0⟩] scope pos) 0 iv acc { cenv with scope := relabel scope env }) (compPost (model prog w) A E0 (some (assign (.Name x xp) env)) QQ acc cenv.locals) s₄) E0 s₃) E0 s := by
  refine comp_tail (Inv := Inv) hh ok hk hg hel hif hen hwb hf ko hit bes hi hinv (RR := fun acc C => compPost (model prog w) A E0 (some (assign (.Name x xp) env)) QQ acc C) ?_
  intro D C s' σ' acc vs k m mm hq gD rv nC st nD nC' hDC sD sC
  have hD : Holds s'.heap D (.list acc) := ⟨vs, k, gD, rv⟩
  have wD := st.w.adopt (beside_one hwb nD).2.2 hD hq.1
  have st2 : Step h₀ σ sb.heap (upd σ' D (.list acc)) s'.heap := by
    refine ⟨wD, st.keep, fun a => ?_, st.tups, st.alive⟩
    by_cases qa : a = D
    · subst qa; exact ⟨fun _ => .inr nD, fun _ => .inr nD⟩
    · have := st.grow a
      unfold Mut at this ⊢
      rw [upd_ne _ _ qa]; exact this
  have fr := hf.step st2
  have q := hq.2 D sD
  show wpAny _ A (assign (.Name x xp) env (.ref D)) _ _ s'
  refine assign_ok (CG.name hx nf) hh wD fr (.ref D) q fun s'' F1 q1 m2 stx f1 => ?_
  have sC2 : upd σ' D (.list acc) C = none := by rw [upd_ne _ _ (Ne.symm hDC)]; exact sC
  have noC : ¬ own C := fun h => by obtain ⟨o, e⟩ := hf.ex C h; rw [nC'] at e; cases e
  have nC2 : s''.heap.Ns C m := by obtain ⟨o, es, ep, ho, r⟩ := nC; exact ⟨o, es, ep, stx.keep C o (none_mut sC2) noC ho, r⟩
  refine ⟨m, nC2, fun h'' sbt => hQQ _ _ ?_⟩
  have kk : ∀ b o, b ∉ [C] → s''.heap.get? b = some o → h''.get? b = some o := fun b o n e => sbt.extBut b o (by simpa using n) e
  have h0C : h₀.get? C = none := (beside_one hwb nC').2.2
  have ni : ∀ a ∈ [C], ∀ o, s''.heap.get? a = some o → ¬ Imm o := fun a m' o e => by simp at m'; subst m'; exact ns_not_imm nC2 o e
  have bC : Beside [C] h₀ (upd σ' D (.list acc)) sb.heap := fun a m' => by simp at m'; subst m'; exact ⟨nC', sC2, h0C⟩
  have all := (Step.any (own := own) st2).trans stx
  have t2 := (all.w.slip (fun a m' => (bC a m').2) ni kk).2
  have all' := StepX.slip all bC ni kk
  have nh : ∀ a, (∃ o, sb.heap.get? a = some o) → a ∉ [C] := fun a ⟨o, e⟩ m => by simp at m; subst m; rw [nC'] at e; cases e
  refine ⟨.next, F1, _, trivial, ⟨all', (msb.trans mm).trans (m2.trans ⟨Eq.refl _, Eq.refl _⟩)⟩, ?_, q1⟩
  refine f1.move' (fun o e => kk _ o (nh _ ?_) e) (fun j y a e1 e2 e3 o e => kk a o (nh a ?_) e) t2 (fun a m' => ?_)
  · obtain ⟨m, ⟨o, _, _, ho, _⟩, _⟩ := hf.ns; exact ⟨o, ho⟩
  · obtain ⟨a', cv, g1, ⟨o, g2, _⟩, _⟩ := hf.cell j y e1 e2
    rw [e3] at g1; cases g1; exact ⟨o, g2⟩
  · obtain ⟨o, e⟩ := f1.ex a m'
    exact ⟨o, kk a o (nh a (hf.ex a m')) e⟩

theorem assignComp (G : Gnd prog h₀ mg mb) (NM : NamesOk prog w h₀ mg n fns Φ) {c : Cfg} {elt : Expr} {gens : List Comprehension} {scope : Scope} {cp sp xp : Pos} {p : PE} {x : Str} {i : Nat} (h : CE c (.ListComp elt gens scope cp) p) (hc : c.fns = fns) (hx : c.names[i]? = some x) (nf : c.sc.lookup x ≠ some .free)
    {A : Around} {s : Shared} {σ : Hp} {env : Env} {own : Addr → Prop} {F : Frm} {Q : Fl → Frm → Hp → Prop} (R : Room A n) (hw : W h₀ σ s.heap) (hf : FrOk c env own F h₀ σ s.heap)
    (v : vE Φ p (fun v σ => bindT (.name i) v (fun F' => Q .next F' σ) F σ) F σ) : wpAny (model prog w) A (exec (.Assign [.Name x xp] (.ListComp elt gens scope cp) sp) env) (PSt c env own h₀ σ s Q) E0 s := by
  obtain ⟨b, hb⟩ : ∃ b, swapsWith (.ListComp elt gens scope cp) (some (.Name x xp)) sp.line env = pure b := ⟨_, rfl⟩
  cases b with
  | false =>
    refine wpAny_Assign_Name (wpAny_mono (sE G NM h hc R hw hf v) (fun y s₁ ⟨z, σ₁, rz, ⟨st, m₁⟩, q⟩ => ?_) fun _ _ f => f) hb
    exact (hf.step st).store st.w hx nf rz fun s' m' st' hf' => .next ((Step.any st).trans st') (m₁.trans m') hf' q
  | true =>
    rw [exec_Assign_Name_used _ _ _ _ hb]
    refine wpAny_bind (wpAny_standAt (wpAny_bind ?_))
    cases h with
    | comp ok hk hfm hci hen hg hel hif =>
    subst hfm
    simp only [e_int, e_bool, e_none, e_str, r_var, e_bin, r_neg, e_not, e_cmp, e_and, e_or, e_ite, e_sub, e_slice, e_list, e_tuple, e_call, e_ucall, e_meth, r_comp] at v
    rename_i t it k ifs a bb tg as
    show wpAny _ A (do let _ ← comprehension (.ListComp elt [⟨t, it, ifs, 0⟩] scope cp) scope env _ (newList []) false (eval it env) (some (assign (.Name x xp) env))) _ _ s
    have key : wpAny (model prog w) A (comprehension (.ListComp elt [⟨t, it, ifs, 0⟩] scope cp) scope env (firstIterPos [⟨t, it, ifs, 0⟩] cp) (newList []) false (eval it env) (some (assign (.Name x xp) env))) (fun _ s' => PSt c env own h₀ σ s Q .next s') E0 s := by
      cases hci with
      | plain hce hfs =>
        refine wpAny_comprehension_free (use := some (assign (.Name x xp) env)) rfl (hfs env) (clos_ok ok hf) hk (scOk_names ok) (wpAny_mono (sE G NM hce hc R hw hf v) (fun x s₁ ⟨xv, σ₁, rx, ⟨st, m₁⟩, q⟩ => ?_) fun _ _ f => f)
        refine wpAny_mono (start_plain st.w rx q) (fun it s₂ ⟨m₂, I, as, ne, hit, bes, ko, Inv, ⟨n0, hi⟩, hinv⟩ => ?_) fun _ _ f => f
        exact comp_some (Inv := Inv) (Q := Q) hx nf R.handled ok hk hg (fun hw hf v => sE G NM hel hc R hw hf v) (fun hw hf v => sTs G NM hif hc R hw hf v) (fun k a e => absurd (ne k a e) (by simp)) m₂ st.w (hf.step st) ko hit bes hi hinv (fun _ _ pv => pv.back (Step.any st) m₁)
      | enum hn hkk hce hst =>
        subst hn
        obtain ⟨is, rfl⟩ := hen rfl
        refine wpAny_comprehension_free (use := some (assign (.Name x xp) env)) rfl (fun _ => rfl) (clos_ok ok hf) hk (scOk_names ok) ?_
        refine sEnum G NM hw hf hkk hce hst (q := _) (wpAny_mono (sE1 (sE G NM hce hc R hw hf v) (hst env)) (fun vs s₁ ⟨xs, σ₁, rs, st, x, ex, qx⟩ => ⟨xs, σ₁, rs, st, x, ex, qx⟩) fun _ _ f => f) fun it s₁ σ₁ s₂ st m₁ sd self => ?_
        refine self _ _ ?_
        obtain ⟨m₂, I, as, ne, hit, bes, ko, Inv, ⟨n0, hi⟩, hinv⟩ := sd
        exact comp_some (Inv := Inv) (Q := Q) hx nf R.handled ok hk hg (fun hw hf v => sE G NM hel hc R hw hf v) (fun hw hf v => sTs G NM hif hc R hw hf v) (fun k a e => by cases hg; exact ⟨_, _, _, rfl⟩) m₂ st.w (hf.step st) ko hit bes hi hinv (fun _ _ pv => pv.back (Step.any st) m₁)
    exact wpAny_bind (wpAny_mono key (fun _ s' hq => wpAny_pure (wpAny_pure hq)) fun _ _ e => e)

mutual
theorem sS (G : Gnd prog h₀ mg mb) (NM : NamesOk prog w h₀ mg n fns Φ) : ∀ {c : Cfg} {e : Stmt} {p : PS}, CS c e p → c.fns = fns → ∀ {A : Around} {s : Shared} {σ : Hp} {env : Env} {own : Addr → Prop} {F : Frm} {Q : Fl → Frm → Hp → Prop},
    Room A n → W h₀ σ s.heap → FrOk c env own F h₀ σ s.heap → vS Φ p Q F σ → wpAny (model prog w) A (exec e env) (PSt c env own h₀ σ s Q) E0 s
  | _, _, _, .expr he hs, hc, A, s, σ, env, own, F, Q, R, hw, hf, v => by
    simp only [s_expr, s_assign, s_setitem, r_aug, s_ifs, r_while, r_for, s_ret, s_brk, s_cont] at v
    refine wpAny_Expr_any (wpAny_mono (sE G NM he hc R hw hf v) (fun y s₁ ⟨z, σ₁, rz, ⟨st, m₁⟩, q⟩ => .next (Step.any st) m₁ (hf.step st) q) fun _ _ f => f) ?_ (hs env)
    unfold interactive; rw [hf.kind]; rfl
  | _, _, _, .assign hx nf he hs, hc, A, s, σ, env, own, F, Q, R, hw, hf, v => by
    simp only [s_expr, s_assign, s_setitem, r_aug, s_ifs, r_while, r_for, s_ret, s_brk, s_cont] at v
    refine wpAny_Assign_Name (wpAny_mono (sE G NM he hc R hw hf v) (fun y s₁ ⟨z, σ₁, rz, ⟨st, m₁⟩, q⟩ => ?_) fun _ _ f => f) (hs env)
    exact (hf.step st).store st.w hx nf rz fun s' m' st' hf' => .next ((Step.any st).trans st') (m₁.trans m') hf' q
  | _, _, _, .assignC hx nf he, hc, A, s, σ, env, own, F, Q, R, hw, hf, v => by
    simp only [s_expr, s_assign, s_setitem, r_aug, s_ifs, r_while, r_for, s_ret, s_brk, s_cont] at v
    exact assignComp G NM he hc hx nf R hw hf v
  | _, _, _, .assignT hg he hs hs2, hc, A, s, σ, env, own, F, Q, R, hw, hf, v => by
    simp only [s_expr, s_assign, s_setitem, r_aug, s_ifs, r_while, r_for, s_ret, s_brk, s_cont] at v
    refine PyProof.Rows.Assign_Tuple (wpAny_mono (sE G NM he hc R hw hf v) (fun y s₁ ⟨z, σ₁, rz, ⟨st, m₁⟩, q⟩ => ?_) fun _ _ f => f) (hs env) (hs2 env)
    exact assign_ok (CG.tup hg) R.handled st.w (hf.step st) rz q fun s' F1 q1 m' st' hf' => .next ((Step.any st).trans st') (m₁.trans m') hf' q1
  | _, _, _, .setitem ho hi he hs, hc, A, s, σ, env, own, F, Q, R, hw, hf, v => by
    simp only [s_expr, s_assign, s_setitem, r_aug, s_ifs, r_while, r_for, s_ret, s_brk, s_cont] at v
    refine wpAny_Assign_Subscript (wpAny_mono (sE G NM he hc R hw hf v) (fun y s₁ ⟨z, σ₁, rz, ⟨st, m₁⟩, q⟩ => wpAny_mono (sE G NM ho hc R st.w (hf.step st) q) (fun ov s₂ ⟨oz, σ₂, roz, ⟨st₂, m₂⟩, q₂⟩ =>
      wpAny_mono (sE G NM hi hc R st₂.w ((hf.step st).step st₂) q₂) (fun iv s₃ ⟨iz, σ₃, riz, ⟨st₃, m₃⟩, q₃⟩ => ?_) fun _ _ f => f) fun _ _ f => f) fun _ _ f => f) (hs env)
    refine wpAny_mono (opSet_ok (roz.step st₃) riz ((rz.step st₂).step st₃) st₃.w q₃) (fun _ s₄ ⟨σ₄, ⟨st₄, m₄⟩, q₄⟩ => ?_) fun _ _ f => f
    exact .next (Step.any (((st.trans st₂).trans st₃).trans st₄)) (((m₁.trans m₂).trans m₃).trans m₄) ((((hf.step st).step st₂).step st₃).step st₄) q₄
  | _, _, _, .aug hx nf hcd hop he, hc, A, s, σ, env, own, F, Q, R, hw, hf, v => by
    simp only [s_expr, s_assign, s_setitem, r_aug, s_ifs, r_while, r_for, s_ret, s_brk, s_cont] at v
    split at v
    · rename_i x hu
      refine wpAny_AugAssign_Name (hf.load hx hu hcd fun old r => wpAny_mono (sE G NM he hc R hw hf v) (fun y s₁ ⟨z, σ₁, rz, ⟨st, m₁⟩, q⟩ => ?_) fun _ _ f => f)
      dsimp only at q
      split at q
      · cases r; cases rz
        rcases hop with rfl | rfl
        · refine iadd_int ?_
          exact (hf.step st).store (s := { s₁ with toks := s₁.toks + 1 }) st.w hx nf (.int _ _) fun s' m' st' hf' => .next ((Step.any st).trans st') (m₁.trans (Sm.trans ⟨Eq.refl _, Eq.refl _⟩ m')) hf' q
        · refine imul_int ?_ q.1
          exact (hf.step st).store (s := { s₁ with toks := s₁.toks + 1 }) st.w hx nf (.int _ _) fun s' m' st' hf' => .next ((Step.any st).trans st') (m₁.trans (Sm.trans ⟨Eq.refl _, Eq.refl _⟩ m')) hf' q.2
      · exact q.elim
    · exact v.elim
  | _, _, _, .ifs ht hl hr, hc, A, s, σ, env, own, F, Q, R, hw, hf, v => by
    simp only [s_expr, s_assign, s_setitem, r_aug, s_ifs, r_while, r_for, s_ret, s_brk, s_cont] at v
    refine wpAny_If (wpAny_mono (sT G NM ht hc R hw hf v) (fun b s₁ ⟨σ₁, ⟨st, m₁⟩, q⟩ => ?_) fun _ _ f => f)
    cases b with
    | true => exact wpAny_mono (sSs G NM hl hc R st.w (hf.step st) q) (fun _ _ pv => pv.back (Step.any st) m₁) fun _ _ f => f
    | false => exact wpAny_mono (sSs G NM hr hc R st.w (hf.step st) q) (fun _ _ pv => pv.back (Step.any st) m₁) fun _ _ f => f
  | _, _, _, .whil ht hl, hc, A, s, σ, env, own, F, Q, R, hw, hf, v => by
    simp only [s_expr, s_assign, s_setitem, r_aug, s_ifs, r_while, r_for, s_ret, s_brk, s_cont] at v
    obtain ⟨Inv, ⟨n0, hi⟩, hinv⟩ := v
    have e0 : ∀ (E : Value → Shared → Prop) e s, E0 e s → E e s := fun _ _ _ f => f.elim
    refine wpAny_While (codeAny_whileLoop (fun n s' => ∃ F σ', Inv n F σ' ∧ FrOk _ env own F h₀ σ' s'.heap ∧ StepX own h₀ σ s.heap σ' s'.heap ∧ Sm s s') (fun n s' hI => ?_) n0 ⟨F, σ, hi, hf, .refl hw, .rfl⟩)
    obtain ⟨F, σ', hi, hf', st', mI⟩ := hI
    refine wpAny_mono (sT G NM ht hc R st'.w hf' (hinv n F σ' hi)) (fun b s₂ ⟨σ₂, ⟨st₂, m₂⟩, q⟩ => ?_) (e0 _)
    have all := st'.trans (Step.any st₂)
    cases b with
    | false => exact wpAny_execs_nil (PSt.next all (mI.trans m₂) (hf'.step st₂) q)
    | true =>
      simp only [if_true] at q ⊢
      refine wpAny_mono (sSs G NM hl hc R st₂.w (hf'.step st₂) q) (fun f s₃ ⟨fl, F₃, σ₃, rf, ⟨st₃, m₃⟩, fr₃, q₃⟩ => ?_) (e0 _)
      have all3 := all.trans st₃
      have mm := (mI.trans m₂).trans m₃
      cases f with
      | next => cases fl <;> first | exact rf.elim | (obtain ⟨m, hm, q5⟩ := q₃; exact ⟨m, hm, F₃, σ₃, q5, fr₃, all3, mm⟩)
      | cont => cases fl <;> first | exact rf.elim | (obtain ⟨m, hm, q5⟩ := q₃; exact ⟨m, hm, F₃, σ₃, q5, fr₃, all3, mm⟩)
      | brk => cases fl <;> first | exact rf.elim | exact ⟨.next, F₃, σ₃, trivial, ⟨all3, mm⟩, fr₃, q₃⟩
      | ret v => cases fl <;> first | exact rf.elim | exact ⟨.ret _, F₃, σ₃, rf, ⟨all3, mm⟩, fr₃, q₃⟩
  | _, _, _, .for hg hci hen hl, hc, A, s, σ, env, own, F, Q, R, hw, hf, v => by
    simp only [s_expr, s_assign, s_setitem, r_aug, s_ifs, r_while, r_for, s_ret, s_brk, s_cont] at v
    cases hci with
    | plain hce hfs =>
      refine wpAny_For (wpAny_mono (sE G NM hce hc R hw hf v) (fun x s₁ ⟨xv, σ₁, rx, ⟨st, m₁⟩, q⟩ => ?_) fun _ _ f => f) (hfs env)
      refine wpAny_mono (start_plain st.w rx q) (fun it s₂ ⟨m₂, I, as, ne, hit, bes, ko, Inv, ⟨n0, hi⟩, hinv⟩ => ?_) fun _ _ f => f
      exact for_loop (Inv := Inv) R.handled hg (fun hw hf v => sSs G NM hl hc R hw hf v) (fun k a e => absurd (ne k a e) (by simp)) (.start st.w (hf.step st) hit bes ko) m₂ hi hinv (fun f s' pv => pv.back (Step.any st) m₁)
    | enum hn hkk hce hst =>
      subst hn
      obtain ⟨is, rfl⟩ := hen rfl
      refine wpAny_For (sEnum G NM hw hf hkk hce hst (q := _) (wpAny_mono (sE1 (sE G NM hce hc R hw hf v) (hst env)) (fun vs s₁ ⟨xs, σ₁, rs, st, x, ex, qx⟩ => ⟨xs, σ₁, rs, st, x, ex, qx⟩) fun _ _ f => f) fun it s₁ σ₁ s₂ st m₁ sd self => self _ _ ?_) (fun _ => rfl)
      obtain ⟨m₂, I, as, ne, hit, bes, ko, Inv, ⟨n0, hi⟩, hinv⟩ := sd
      exact for_loop (Inv := Inv) R.handled hg (fun hw hf v => sSs G NM hl hc R hw hf v) (fun k a e => by cases hg; exact ⟨_, _, _, rfl⟩) (.start st.w (hf.step st) hit bes ko) m₂ hi hinv (fun f s' pv => pv.back (Step.any st) m₁)
  | _, _, _, .ret he, hc, A, s, σ, env, own, F, Q, R, hw, hf, v => by
    simp only [s_expr, s_assign, s_setitem, r_aug, s_ifs, r_while, r_for, s_ret, s_brk, s_cont] at v
    exact wpAny_Return_some (wpAny_mono (sE G NM he hc R hw hf v) (fun y s₁ ⟨z, σ₁, rz, ⟨st, m₁⟩, q⟩ => ⟨.ret z, F, σ₁, rz, ⟨Step.any st, m₁⟩, hf.step st, q⟩) fun _ _ f => f)
  | _, _, _, .brk, hc, A, s, σ, env, own, F, Q, R, hw, hf, v => by
    simp only [s_expr, s_assign, s_setitem, r_aug, s_ifs, r_while, r_for, s_ret, s_brk, s_cont] at v
    exact wpAny_Break ⟨.brk, F, σ, trivial, ⟨.refl hw, .rfl⟩, hf, v⟩
  | _, _, _, .cont, hc, A, s, σ, env, own, F, Q, R, hw, hf, v => by
    simp only [s_expr, s_assign, s_setitem, r_aug, s_ifs, r_while, r_for, s_ret, s_brk, s_cont] at v
    exact wpAny_Continue ⟨.cont, F, σ, trivial, ⟨.refl hw, .rfl⟩, hf, v⟩
theorem sSs (G : Gnd prog h₀ mg mb) (NM : NamesOk prog w h₀ mg n fns Φ) : ∀ {c : Cfg} {es : List Stmt} {ps : List PS}, CSs c es ps → c.fns = fns → ∀ {A : Around} {s : Shared} {σ : Hp} {env : Env} {own : Addr → Prop} {F : Frm} {Q : Fl → Frm → Hp → Prop},
    Room A n → W h₀ σ s.heap → FrOk c env own F h₀ σ s.heap → vSs Φ ps Q F σ → wpAny (model prog w) A (execs es env) (PSt c env own h₀ σ s Q) E0 s
  | _, _, _, .nil, hc, A, s, σ, env, own, F, Q, R, hw, hf, v => by
    simp only [r_cons, ss_nil] at v
    exact wpAny_execs_nil (.next (.refl hw) .rfl hf v)
  | _, _, _, .cons h hs, hc, A, s, σ, env, own, F, Q, R, hw, hf, v => by
    simp only [r_cons, ss_nil] at v
    refine wpAny_execs_cons (wpAny_mono (sS G NM h hc R hw hf v) (fun f s₁ ⟨fl, F₁, σ₁, rf, ⟨st, m₁⟩, fr, q⟩ => ?_) fun _ _ f => f)
    cases f with
    | next => cases fl <;> first | exact rf.elim | exact wpAny_mono (sSs G NM hs hc R st.w fr q) (fun _ _ pv => pv.back st m₁) fun _ _ f => f
    | cont => cases fl <;> first | exact rf.elim | exact ⟨.cont, F₁, σ₁, rf, ⟨st, m₁⟩, fr, q⟩
    | brk => cases fl <;> first | exact rf.elim | exact ⟨.brk, F₁, σ₁, rf, ⟨st, m₁⟩, fr, q⟩
    | ret v => cases fl <;> first | exact rf.elim | exact ⟨.ret _, F₁, σ₁, rf, ⟨st, m₁⟩, fr, q⟩
end
end

/-! Fw16 -/
theorem bindL_eq {kindOf : Str → Option NameKind} {x : Str} (hk : kindOf x = some .local) : ∀ (ps : List Str) (vs : List Value) (m : Str → Option Value), ps.Nodup → bindL kindOf (ps.zip vs) m x = ((ps.zip vs).lookup x).or (m x)
  | [], _, m, _ => rfl
  | p :: ps, [], m, _ => rfl
  | p :: ps, v :: vs, m, nd => by
    simp only [List.nodup_cons] at nd
    show bindL kindOf (ps.zip vs) (if kindOf p = some .local then fun y => if y = p then some v else m y else m) x = _
    rw [bindL_eq hk ps vs _ nd.2, List.zip_cons_cons, List.lookup_cons]
    by_cases e : x = p
    · subst e
      have : (ps.zip vs).lookup x = none := by
        rw [List.lookup_eq_none_iff]
        intro q hq
        have := List.of_mem_zip hq
        simp; rintro rfl; exact nd.1 this.1
      rw [this]; simp [hk]
    · have : (x == p) = false := by simpa using e
      rw [this]
      by_cases hp : kindOf p = some .local
      · simp [hp, e]
      · simp [hp]
theorem bindC_eq {kindOf : Str → Option NameKind} {x : Str} (hk : kindOf x ≠ some .local) : ∀ (ps : List Str) (vs : List Value) (m : Str → Option Value), ps.Nodup → bindC kindOf (ps.zip vs) m x = ((ps.zip vs).lookup x).or (m x)
  | [], _, m, _ => rfl
  | p :: ps, [], m, _ => rfl
  | p :: ps, v :: vs, m, nd => by
    simp only [List.nodup_cons] at nd
    show bindC kindOf (ps.zip vs) (if kindOf p = some .local then m else fun y => if y = p then some v else m y) x = _
    rw [bindC_eq hk ps vs _ nd.2, List.zip_cons_cons, List.lookup_cons]
    by_cases e : x = p
    · subst e
      have : (ps.zip vs).lookup x = none := by
        rw [List.lookup_eq_none_iff]
        intro q hq
        have := List.of_mem_zip hq
        simp; rintro rfl; exact nd.1 this.1
      rw [this]; simp [hk]
    · have : (x == p) = false := by simpa using e
      rw [this]
      by_cases hp : kindOf p = some .local
      · simp [hp]
      · simp [hp, e]
theorem zip_rep {h : Heap} {x : Str} {u : V} : ∀ {ps : List Str} {vs : List Value} {xs : List V}, Reps h vs xs → (ps.zip xs).lookup x = some u → ∃ w, (ps.zip vs).lookup x = some w ∧ Rep h w u
  | [], _, _, _, e => by simp at e
  | p :: ps, _, _, .nil, e => by simp at e
  | p :: ps, _, _, .cons r rs, e => by
    simp only [List.zip_cons_cons, List.lookup_cons] at e ⊢
    split at e
    · cases e; exact ⟨_, rfl, r⟩
    · exact zip_rep rs e

def initF (c : Cfg) (params : List Str) (args : List V) : Frm := c.names.map fun x => (params.zip args).lookup x
/-- the answer of a def -/
def retV (Q : V → Hp → Prop) (fl : Fl) (F : Frm) (σ : Hp) : Prop := match fl with | .ret v => Q v σ | .next => Q .none σ | _ => False
def bodyV (Φ : Fns) (c : Cfg) (params : List Str) (ps : List PS) (args : List V) (Q : V → Hp → Prop) (σ : Hp) : Prop :=
  args.length = params.length ∧ vSs Φ ps (retV Q) (initF c params args) σ

/-- what a def of the text must be -/
structure DefOk (fd : FuncData) (fns : List Str) (params : List Str) (body : List Stmt) (ps : List PS) : Prop where
  bdy : fd.body = .stmts body
  bind : ∀ vals : List Value, vals.length = params.length → bindArgs fd ⟨vals, []⟩ = pure (params.zip vals)
  clo : fd.closure = []
  glob : fd.globals = mainGlobals
  bi : fd.builtins = builtinsNs
  co : fd.scope.isCoroutine = false
  gen : fd.scope.isGenerator = false
  kind : fd.scope.kind = .function
  nd : (fd.scope.names.map (·.1)).Nodup
  noFree : ∀ x ∈ fd.scope.names, x.2 ≠ .free
  pk : ∀ x ∈ params, fd.scope.names.lookup x = some .local ∨ fd.scope.names.lookup x = some .cell
  pnd : params.Nodup
  cs : CSs { sc := fd.scope.names, fns := fns } body ps

theorem cellsFrom_look {x : Str} : ∀ (names : List (Str × NameKind)) (n : Nat) (acc : List (Str × Addr)), names.lookup x = some .cell ∨ (acc.lookup x).isSome = true → ((cellsFrom n names acc).lookup x).isSome = true := fun names n acc h => cellsFrom_some names n acc h
theorem cellsFrom_mem {x : Str} {a : Addr} : ∀ (names : List (Str × NameKind)) (n : Nat) (acc : List (Str × Addr)), (x, a) ∈ cellsFrom n names acc → (x, a) ∈ acc ∨ (x, NameKind.cell) ∈ names
  | [], n, acc, h => .inl h
  | (y, k) :: r, n, acc, h => by
    unfold cellsFrom at h
    split at h
    · rename_i hk
      have e : k = .cell := by simpa using hk
      subst e
      rcases cellsFrom_mem r _ _ h with q | q
      · rcases List.mem_cons.mp q with q | q
        · cases q; exact .inr (.head _)
        · exact .inl q
      · exact .inr (.tail _ q)
    · rcases cellsFrom_mem r _ _ h with q | q
      · exact .inl q
      · exact .inr (.tail _ q)

section
variable {prog : Program} {w : World} {h₀ : Heap} {mg mb : Str → Option Value} {Φ : Fns} {n : Nat} {fns : List Str}

/-- the frame of a call -/
theorem call_frame {fd : FuncData} {params : List Str} {body : List Stmt} {ps : List PS} (D : DefOk fd fns params body ps) {fa : Addr} {s s₁ : Shared} {σ : Hp} (hw : W h₀ σ s.heap) {vargs : List Value} {args : List V} (ra : Reps s.heap vargs args) (hl : args.length = params.length)
    (x : InCallC s (callEnvC fd s.heap.objs.size fa).locals (bindL (callEnvC fd s.heap.objs.size fa).kindOf (params.zip vargs) fun _ => none) (callEnvC fd s.heap.objs.size fa).cells (bindC (callEnvC fd s.heap.objs.size fa).kindOf (params.zip vargs) fun _ => none) s₁) :
    FrOk { sc := fd.scope.names, fns := fns } (callEnvC fd s.heap.objs.size fa) (fun a => s.heap.get? a = none ∧ ∃ o, s₁.heap.get? a = some o) (initF { sc := fd.scope.names, fns := fns } params args) h₀ σ s₁.heap := by
  have ko : ∀ b o, s.heap.get? b = some o → s₁.heap.get? b = some o := x.toInCall.keep
  have t : Tups s.heap s₁.heap := fun a o e _ => ko a o e
  have kindOf : ∀ y, (callEnvC fd s.heap.objs.size fa).kindOf y = fd.scope.names.lookup y := fun _ => rfl
  have hL : s.heap.get? s.heap.objs.size = none := get_push_none _
  have vark : ∀ (i : Nat) y, (Cfg.mk fd.scope.names fns).names[i]? = some y → ∃ kk, fd.scope.names.lookup y = some kk ∧ (kk = .local ∨ kk = .cell) := fun i y e => by
    obtain ⟨kk, e1, e2, e3⟩ := names_mem e
    refine ⟨kk, lookup_of_nodup D.nd e2, ?_⟩
    have := D.noFree _ e2
    cases kk <;> simp_all [isVar]
  have initAt : ∀ (i : Nat) y (v : V), (Cfg.mk fd.scope.names fns).names[i]? = some y → (initF { sc := fd.scope.names, fns := fns } params args)[i]? = some (some v) → ∃ w, (params.zip vargs).lookup y = some w ∧ Rep s₁.heap w v := fun i y v e1 e2 => by
    unfold initF at e2
    rw [List.getElem?_map, e1] at e2
    simp at e2
    obtain ⟨w, q1, q2⟩ := zip_rep ra e2
    exact ⟨w, q1, q2.tups t⟩
  refine ⟨D.kind, D.glob, D.bi, fun y e => e, fun i y e => ?_, ⟨_, x.toInCall.ns, fun i y v e1 e2 e3 => ?_⟩, fun i y e1 e2 => ?_, fun y z a e1 e2 => ?_, ⟨⟨hL, ?_⟩, hw.fresh hL, (beside_one hw hL).2.2⟩, fun i j y e1 e2 => getElem_inj (nodup_names D.nd) e1 e2, fun a e => e.2⟩
  · obtain ⟨kk, l, q⟩ := vark i y e
    rcases q with rfl | rfl
    · exact .inl ⟨l, l⟩
    · exact .inr (.inl ⟨l, l⟩)
  · obtain ⟨w, q1, q2⟩ := initAt i y v e1 e3
    refine ⟨w, ?_, q2⟩
    rw [bindL_eq e2 _ _ _ D.pnd, q1]; rfl
  · obtain ⟨kk, l, q⟩ := vark i y e1
    rcases q with rfl | rfl
    · exact absurd l e2
    · have hs := cellsFrom_look (x := y) fd.scope.names (s.heap.objs.size + 1) [] (.inl l)
      obtain ⟨a, ha⟩ := Option.isSome_iff_exists.mp hs
      have ic := x.cell y a ha
      have above := x.above y a (mem_of_lookup ha)
      have na : s.heap.get? a = none := by
        cases q : s.heap.get? a with
        | none => rfl
        | some o =>
          have h1 := Heap.lt_size q
          have h2 : s.heap.objs.size < a := above
          exact absurd (Nat.lt_trans h1 h2) (Nat.lt_irrefl _)
      refine ⟨a, _, ha, ic, hw.fresh na, fun e => absurd (e ▸ above) (Nat.lt_irrefl _), fun _ => ⟨⟨na, ?_⟩, (beside_one hw na).2.2⟩, fun v hv => ?_⟩
      · obtain ⟨o, ho, _⟩ := ic; exact ⟨o, ho⟩
      · obtain ⟨w, q1, q2⟩ := initAt i y v e1 hv
        refine ⟨w, ?_, q2⟩
        rw [bindC_eq e2 _ _ _ D.pnd, q1]; rfl
  · exact name_of_addr x.apart (mem_of_lookup e1) (mem_of_lookup e2)
  · obtain ⟨o, _, _, ho, _⟩ := x.toInCall.ns; exact ⟨o, ho⟩

theorem fn_ok (G : Gnd prog h₀ mg mb) (NM : NamesOk prog w h₀ mg n fns Φ) {fd : FuncData} {params : List Str} {body : List Stmt} {ps : List PS} (D : DefOk fd fns params body ps) {fa : Addr} {o : Obj} (ho : h₀.get? fa = some o) (hd : o.data = .func fd)
    (hcd : h₀.CodeRec fd.code fd.qualname) : FnOk prog w h₀ (n + 1) (.ref fa) (bodyV Φ { sc := fd.scope.names, fns := fns } params ps) := by
  refine ⟨fa, o, fd, rfl, ho, hd, fun A s σ vargs args Q R hw ra ⟨hl, v⟩ => ?_⟩
  have hlv : vargs.length = params.length := by rw [ra.length, hl]
  refine wpAny_call (codeAny_call_cells (by have := R.depth; show A.depth < 1000; omega) (hw.stays _ _ ho) hd (G.nolimit.keeps hw.stays) (hcd.keeps hw.stays) D.bdy (D.bind vargs hlv) D.clo (fun x hx => ?_) (fun s₁ ic => ?_) D.co D.gen D.kind)
  · have hm := (List.of_mem_zip hx).1
    rcases D.pk _ hm with q | q
    · exact .inl q
    · exact .inr ⟨q, cellsFrom_look _ _ _ (.inl q)⟩
  · have ko : ∀ b o, s.heap.get? b = some o → s₁.heap.get? b = some o := ic.toInCall.keep
    have fr := call_frame D (fa := fa) hw ra hl ic
    have st0 := hw.extend ko
    have m₁ : Sm s s₁ := by obtain ⟨h1, tk, e⟩ := ic.toInCall.same; rw [e]; exact ⟨rfl, rfl⟩
    have R' : Room (A.deeper (callEnvC fd s.heap.objs.size fa)) n := by
      obtain ⟨env, l, e, _⟩ := R.env
      refine ⟨R.handled, by have := R.depth; show A.depth + 1 + n ≤ 800; omega, by have := R.units; show A.units + 3 + 4 * n ≤ 9000; omega, ⟨callEnvC fd s.heap.objs.size fa, env :: l, ?_, D.gen, D.co, D.bi, D.glob⟩⟩
      show A.frames.map _ = _
      rw [e]; rfl
    refine wpAny_mono (sSs G NM D.cs rfl R' st0.w fr v) (fun f s' ⟨fl, F', σ', rf, ⟨st, m₂⟩, fr', q⟩ => ?_) fun _ _ f => f.elim
    have all : Step h₀ σ s.heap σ' s'.heap := StepX.drop ((Step.any st0).trans st) fun a q => q.1
    cases f with
    | next =>
      cases fl with
      | next => exact ⟨.none, σ', .none, ⟨all, m₁.trans m₂⟩, q⟩
      | _ => exact rf.elim
    | brk =>
      cases fl with
      | brk => exact q.elim
      | _ => exact rf.elim
    | cont =>
      cases fl with
      | cont => exact q.elim
      | _ => exact rf.elim
    | ret v =>
      cases fl with
      | ret x => exact ⟨x, σ', rf, ⟨all, m₁.trans m₂⟩, q⟩
      | _ => exact rf.elim

/-- a contract that says enough -/
theorem FnOk.mono {fv : Value} {Φ₁ Φ₂ : List V → (V → Hp → Prop) → Hp → Prop} {n m : Nat} (h : FnOk prog w h₀ n fv Φ₁) (hm : n ≤ m) (i : ∀ args Q σ, Φ₂ args Q σ → Φ₁ args Q σ) : FnOk prog w h₀ m fv Φ₂ := by
  obtain ⟨fa, o, fd, e, a, b, call⟩ := h
  exact ⟨fa, o, fd, e, a, b, fun A s σ vargs args Q R hw ra v => call A s σ vargs args Q (R.le hm) hw ra (i _ _ _ v)⟩
end

/-! Fw17 -/
section
variable {prog : Program} {w : World} {h₀ : Heap} {mg mb : Str → Option Value} {Φ : Fns} {n : Nat} {fns : List Str}

/-- the law's own call -/
theorem law_code (G : Gnd prog h₀ mg mb) (NM : NamesOk prog w h₀ mg n fns Φ) (hn : n ≤ 400) {fd : FuncData} {params : List Str} {body : List Stmt} {ps : List PS} (D : DefOk fd fns params body ps) {fa : Addr} {o : Obj} (ho : h₀.get? fa = some o) (hd : o.data = .func fd)
    (hcd : h₀.CodeRec fd.code fd.qualname) {s : Shared} {σ : Hp} {vargs : List Value} {args : List V} {Q : V → Hp → Prop} (hw : W h₀ σ s.heap) (ra : Reps s.heap vargs args) (v : bodyV Φ { sc := fd.scope.names, fns := fns } params ps args Q σ)
    {R : Result → Shared → Prop} (hR : ∀ x s', PV h₀ σ s Q x s' → R (.ok (.ret x)) s') : codeAny (model prog w) callerA (.call (.ref fa) ⟨vargs, []⟩) R s := by
  obtain ⟨hl, v⟩ := v
  have hlv : vargs.length = params.length := by rw [ra.length, hl]
  refine codeAny_call_cells (by decide) (hw.stays _ _ ho) hd (G.nolimit.keeps hw.stays) (hcd.keeps hw.stays) D.bdy (D.bind vargs hlv) D.clo (fun x hx => ?_) (fun s₁ ic => ?_) D.co D.gen D.kind
  · have hm := (List.of_mem_zip hx).1
    rcases D.pk _ hm with q | q
    · exact .inl q
    · exact .inr ⟨q, cellsFrom_look _ _ _ (.inl q)⟩
  · have ko : ∀ b o, s.heap.get? b = some o → s₁.heap.get? b = some o := ic.toInCall.keep
    have fr := call_frame D (fa := fa) hw ra hl ic
    have st0 := hw.extend ko
    have m₁ : Sm s s₁ := by obtain ⟨h1, tk, e⟩ := ic.toInCall.same; rw [e]; exact ⟨rfl, rfl⟩
    have R' : Room (callerA.deeper (callEnvC fd s.heap.objs.size fa)) n := by
      refine ⟨rfl, ?_, ?_, ⟨callEnvC fd s.heap.objs.size fa, [], rfl, D.gen, D.co, D.bi, D.glob⟩⟩
      · show 1 + 300 + 1 + n ≤ 800; omega
      · show 4 + 3 + 4 * n ≤ 9000; omega
    refine wpAny_mono (sSs G NM D.cs rfl R' st0.w fr v) (fun f s' ⟨fl, F', σ', rf, ⟨st, m₂⟩, fr', q⟩ => ?_) fun _ _ f => f.elim
    have all : Step h₀ σ s.heap σ' s'.heap := StepX.drop ((Step.any st0).trans st) fun a q => q.1
    cases f with
    | next =>
      cases fl with
      | next => exact hR _ _ ⟨.none, σ', .none, ⟨all, m₁.trans m₂⟩, q⟩
      | _ => exact rf.elim
    | brk =>
      cases fl with
      | brk => exact q.elim
      | _ => exact rf.elim
    | cont =>
      cases fl with
      | cont => exact q.elim
      | _ => exact rf.elim
    | ret v =>
      cases fl with
      | ret x => exact hR _ _ ⟨x, σ', rf, ⟨all, m₁.trans m₂⟩, q⟩
      | _ => exact rf.elim

/-- the script lies in the ground -/
def scriptHp (l : Addr) (ns : List Int) : Hp := fun a => if a = l then some (.flist (ns.map .int)) else none
theorem script_w {l : Addr} {vs : List Value} {ns : List Int} (hl : h₀.IsList l vs.toArray) (hi : IntsAre vs ns) (hb : ns.length ≤ 63) : W h₀ (scriptHp l ns) h₀ := by
  refine ⟨fun _ _ e => e, fun a o e => ?_, fun a ⟨o, e, m⟩ => ?_, fun a o e => ?_⟩
  · unfold scriptHp at e; split at e
    · rename_i q; subst q; cases e
      refine ⟨vs, hl, ?_⟩
      clear hl hb
      induction hi with
      | nil => exact .nil
      | cons n t _ ih => exact .cons (.int _ _) ih
    · cases e
  · unfold scriptHp at e; split at e
    · cases e; cases m
    · cases e
  · unfold scriptHp at e; split at e
    · cases e; show (ns.map V.int).length ≤ BIG; simp; unfold BIG; omega
    · cases e

/-- names that the text does not bind -/
theorem free_name {p : Program} {loose : List Str} {mean : ExcName → Option Value} {h : Heap} (T : Top p loose mean mg mb h) {x : Str} (h1 : x ∉ startupNames) (h2 : x ∉ loose) (h3 : x ∉ (recsOf p).map (·.name)) (h4 : x ∉ (litsOf p).map (·.1)) (h5 : x ∉ (clssOf p loose).map (·.name)) : mg x = none :=
  T.free x h1 h2 h3 h4 h5
theorem ground_of {p : Program} {loose : List Str} {mean : ExcName → Option Value} {h : Heap} (T : Top p loose mean mg mb h) (hi : importsNone p = true) (ht : prog.given.tree = none) : Gnd prog h mg mb :=
  ⟨T.g, T.b, T.nolimit, T.seer hi, ht, T.builtins⟩
end

/-! Lb1 -/
section
variable (x y : Int) (Q : V → Hp → Prop) (P : Bool → Hp → Prop) (σ : Hp) (b : Bool)
theorem c_lt : opCmp .Lt (.int x) (.int y) Q σ = Q (.bool (decide (x < y))) σ := rfl
theorem c_le : opCmp .LtE (.int x) (.int y) Q σ = Q (.bool (decide (x ≤ y))) σ := rfl
theorem c_gt : opCmp .Gt (.int x) (.int y) Q σ = Q (.bool (decide (y < x))) σ := rfl
theorem c_ge : opCmp .GtE (.int x) (.int y) Q σ = Q (.bool (decide (y ≤ x))) σ := rfl
theorem c_eq : opCmp .Eq (.int x) (.int y) Q σ = Q (.bool (x == y)) σ := rfl
theorem c_ne : opCmp .NotEq (.int x) (.int y) Q σ = Q (.bool (x != y)) σ := rfl
theorem b_add : opBin .Add (.int x) (.int y) Q σ = Q (.int (x + y)) σ := rfl
theorem b_sub : opBin .Sub (.int x) (.int y) Q σ = Q (.int (x - y)) σ := rfl
theorem b_mul : opBin .Mult (.int x) (.int y) Q σ = (IntMulOk x y ∧ Q (.int (x * y)) σ) := rfl
theorem b_div : opBin .FloorDiv (.int x) (.int y) Q σ = (y ≠ 0 ∧ Q (.int (x.fdiv y)) σ) := rfl
theorem b_mod : opBin .Mod (.int x) (.int y) Q σ = (y ≠ 0 ∧ Q (.int (x.fmod y)) σ) := rfl
theorem b_shr : opBin .RShift (.int x) (.int 1) Q σ = (0 ≤ x ∧ (1 : Int) = 1 ∧ Q (.int (x / 2)) σ) := rfl
theorem t_bool : truth (.bool b) P σ = P b σ := rfl
end
/-! the two sifts, as plain functions -/
section
variable {α : Type}
def upF (lt : α → α → Bool) (s : Nat) (x : α) (ns : List α) (p : Nat) : List α :=
  if h : s < p then
    if lt (ns.getD ((p - 1) / 2) x) x then upF lt s x (ns.set p (ns.getD ((p - 1) / 2) x)) ((p - 1) / 2) else ns.set p x
  else ns.set p x
termination_by p
decreasing_by omega
def kid (lt : α → α → Bool) (x : α) (ns : List α) (p : Nat) : Nat :=
  if 2 * p + 2 < ns.length ∧ lt (ns.getD (2 * p + 2) x) (ns.getD (2 * p + 1) x) = false then 2 * p + 2 else 2 * p + 1
theorem kid_gt (lt : α → α → Bool) (x : α) (ns : List α) (p : Nat) : p < kid lt x ns p := by unfold kid; split <;> omega
theorem kid_lt (lt : α → α → Bool) (x : α) (ns : List α) (p : Nat) (h : 2 * p + 1 < ns.length) : kid lt x ns p < ns.length := by unfold kid; split <;> omega
def downF (lt : α → α → Bool) (x : α) (ns : List α) (p : Nat) : List α × Nat :=
  if h : 2 * p + 1 < ns.length then downF lt x (ns.set p (ns.getD (kid lt x ns p) x)) (kid lt x ns p) else (ns, p)
termination_by ns.length - p
decreasing_by
  have := kid_gt lt x ns p
  simp only [List.length_set]; omega
def siftF (lt : α → α → Bool) (ns : List α) (p : Nat) (x : α) : List α :=
  upF lt p x ((downF lt x ns p).1.set (downF lt x ns p).2 x) (downF lt x ns p).2

theorem upF_length (lt : α → α → Bool) (s : Nat) (x : α) : ∀ (p : Nat) (ns : List α), (upF lt s x ns p).length = ns.length := by
  intro p
  induction p using Nat.strongRecOn with
  | ind p ih =>
    intro ns
    rw [upF]; split
    · split
      · rw [ih _ (by omega)]; simp
      · simp
    · simp
theorem downF_length (lt : α → α → Bool) (x : α) : ∀ (k : Nat) (ns : List α) (p : Nat), ns.length - p ≤ k → (downF lt x ns p).1.length = ns.length ∧ (p < ns.length → (downF lt x ns p).2 < ns.length) ∧ p ≤ (downF lt x ns p).2 := by
  intro k
  induction k with
  | zero =>
    intro ns p h
    rw [downF]; split
    · omega
    · exact ⟨rfl, fun h => h, Nat.le_refl _⟩
  | succ k ih =>
    intro ns p h
    have g := kid_gt lt x ns p
    rw [downF]; split
    · rename_i hc
      have l := kid_lt lt x ns p hc
      have := ih (ns.set p (ns.getD (kid lt x ns p) x)) (kid lt x ns p) (by simp only [List.length_set]; omega)
      simp only [List.length_set] at this
      exact ⟨this.1, fun _ => this.2.1 l, by omega⟩
    · exact ⟨rfl, fun h => h, Nat.le_refl _⟩
theorem getD_mem {ns : List α} {k : Nat} {x : α} (h : k < ns.length) : ns.getD k x ∈ ns := by
  rw [List.getD_eq_getElem?_getD, List.getElem?_eq_getElem h]; exact List.getElem_mem h
theorem mem_set {ns : List α} {k : Nat} {x y : α} (h : y ∈ ns.set k x) : y ∈ ns ∨ y = x := List.mem_or_eq_of_mem_set h

/-- what the code asks of the order -/
def LtOn (σ : Hp) (a : Addr) (f : α → V) (lt : α → α → Bool) (P : α → Prop) : Prop :=
  ∀ x y, P x → P y → ∀ (ys : List V) (Q : V → Hp → Prop), Q (.bool (lt x y)) (upd σ a (.list ys)) → opCmp .Lt (f x) (f y) Q (upd σ a (.list ys))
theorem LtOn.upd {σ : Hp} {a : Addr} {f : α → V} {lt : α → α → Bool} {P : α → Prop} (h : LtOn σ a f lt P) (xs : List V) : LtOn (upd σ a (.list xs)) a f lt P := fun x y hx hy ys Q q => by
  rw [upd_upd] at q ⊢; exact h x y hx hy ys Q q
theorem LtOn.int (σ : Hp) (a : Addr) : LtOn σ a V.int (fun x y => decide (x < y)) (fun _ => True) := fun x y _ _ ys Q q => q
end

def siftdownC (args : List V) (Q : V → Hp → Prop) (σ : Hp) : Prop :=
  ∃ (α : Type) (f : α → V) (lt : α → α → Bool) (P : α → Prop) (a : Addr) (ns : List α) (s p : Nat) (x : α), args = [.ref a, .int s, .int p] ∧ σ a = some (.list (ns.map f)) ∧ ns[p]? = some x ∧ (∀ y ∈ ns, P y) ∧ LtOn σ a f lt P ∧
    Q .none (upd σ a (.list ((upF lt s x ns p).map f)))
def siftupC (args : List V) (Q : V → Hp → Prop) (σ : Hp) : Prop :=
  ∃ (α : Type) (f : α → V) (lt : α → α → Bool) (P : α → Prop) (a : Addr) (ns : List α) (p : Nat) (x : α), args = [.ref a, .int p] ∧ σ a = some (.list (ns.map f)) ∧ ns[p]? = some x ∧ (∀ y ∈ ns, P y) ∧ LtOn σ a f lt P ∧ ns.length ≤ BIG ∧
    Q .none (upd σ a (.list ((siftF lt ns p x).map f)))

def ps_siftdown : List PS := [.assign (.name 3) (.sub (.var 0) (.var 2)),
  .whil (.cmp .Gt (.var 2) (.var 1)) [.assign (.name 4) (.bin .RShift (.bin .Sub (.var 2) (.int 1)) (.int 1)), .assign (.name 5) (.sub (.var 0) (.var 4)), .ifs (.cmp .Lt (.var 5) (.var 3)) [.setitem (.var 0) (.var 2) (.var 5), .assign (.name 2) (.var 4), .cont] [], .brk],
  .setitem (.var 0) (.var 2) (.var 3)]
def ps_siftup (i : Nat) : List PS := [.assign (.name 2) (.call .len [(.var 0)]),
  .assign (.name 3) (.var 1),
  .assign (.name 4) (.sub (.var 0) (.var 1)),
  .assign (.name 5) (.bin .Add (.bin .Mult (.int 2) (.var 1)) (.int 1)),
  .whil (.cmp .Lt (.var 5) (.var 2)) [.assign (.name 6) (.bin .Add (.var 5) (.int 1)), .ifs (.and (.cmp .Lt (.var 6) (.var 2)) (.not (.cmp .Lt (.sub (.var 0) (.var 6)) (.sub (.var 0) (.var 5))))) [.assign (.name 5) (.var 6)] [], .setitem (.var 0) (.var 1) (.sub (.var 0) (.var 5)), .assign (.name 1) (.var 5), .assign (.name 5) (.bin .Add (.bin .Mult (.int 2) (.var 1)) (.int 1))],
  .setitem (.var 0) (.var 1) (.var 4),
  .expr (.ucall i [(.var 0), (.var 3), (.var 1)])]

theorem nth_nat {xs : List V} {k : Nat} : nth xs (k : Int) = xs[k]? := by unfold nth; simp
theorem opSub_list {σ : Hp} {a : Addr} {xs : List V} {k : Nat} {x : V} {Q : V → Hp → Prop} (h : σ a = some (.list xs)) (e : xs[k]? = some x) (q : Q x σ) : opSub (.ref a) (.int k) Q σ :=
  ⟨xs, x, listAt_list h, by rw [nth_nat]; exact e, q⟩
theorem opSet_list {σ : Hp} {a : Addr} {xs : List V} {k : Nat} {v : V} {Q : Hp → Prop} (h : σ a = some (.list xs)) (e : k < xs.length) (q : Q (upd σ a (.list (xs.set k v)))) : opSet (.ref a) (.int k) v Q σ :=
  ⟨xs, h, by omega, by omega, by simpa using q⟩

/-! Lb2 -/
/-! the sift is a sink where all below is a heap -/
inductive Desc : Nat → Nat → Prop
  | refl (p : Nat) : Desc p p
  | left {p q : Nat} : Desc p q → Desc p (2 * q + 1)
  | right {p q : Nat} : Desc p q → Desc p (2 * q + 2)
theorem Desc.le {p q : Nat} (h : Desc p q) : p ≤ q := by induction h <;> omega
theorem Desc.trans {p q r : Nat} (h : Desc p q) (g : Desc q r) : Desc p r := by
  induction g with
  | refl => exact h
  | left _ ih => exact .left ih
  | right _ ih => exact .right ih
theorem Desc.zero (q : Nat) : Desc 0 q := by
  induction q using Nat.strongRecOn with
  | ind q ih =>
    rcases Nat.eq_zero_or_pos q with h | h
    · subst h; exact .refl 0
    · rcases Nat.mod_two_eq_zero_or_one q with e | e
      · have : q = 2 * ((q - 2) / 2) + 2 := by omega
        rw [this]; exact .right (ih _ (by omega))
      · have : q = 2 * ((q - 1) / 2) + 1 := by omega
        rw [this]; exact .left (ih _ (by omega))

section
variable {α : Type} (lt : α → α → Bool)
/-- no item strictly below p is less than one below it -/
def HB (ns : List α) (p : Nat) : Prop := ∀ q c a b, Desc p q → q ≠ p → (c = 2 * q + 1 ∨ c = 2 * q + 2) → ns[q]? = some a → ns[c]? = some b → lt a b = false
def sinkF (v : α) (ns : List α) (p : Nat) : List α :=
  if h : 2 * p + 1 < ns.length then
    if lt (ns.getD (kid lt v ns p) v) v then ns.set p v else sinkF v (ns.set p (ns.getD (kid lt v ns p) v)) (kid lt v ns p)
  else ns.set p v
termination_by ns.length - p
decreasing_by
  have := kid_gt lt v ns p
  simp only [List.length_set]; omega

variable {lt}
theorem kid_cases (v : α) (ns : List α) (p : Nat) : kid lt v ns p = 2 * p + 1 ∨ kid lt v ns p = 2 * p + 2 := by unfold kid; split <;> simp
theorem kid_par (v : α) (ns : List α) (p : Nat) : (kid lt v ns p - 1) / 2 = p := by rcases kid_cases (lt := lt) v ns p with h | h <;> rw [h] <;> omega
theorem kid_desc (v : α) (ns : List α) (p : Nat) : Desc p (kid lt v ns p) := by
  rcases kid_cases (lt := lt) v ns p with h | h <;> rw [h]
  · exact .left (.refl p)
  · exact .right (.refl p)
theorem upF_set (s : Nat) (v w : α) (ns : List α) (p : Nat) : upF lt s v (ns.set p w) p = upF lt s v ns p := by
  rw [upF.eq_def lt s v (ns.set p w), upF.eq_def lt s v ns]
  split
  · rename_i h
    have e : (ns.set p w).getD ((p - 1) / 2) v = ns.getD ((p - 1) / 2) v := by
      simp only [List.getD_eq_getElem?_getD]; rw [List.getElem?_set_ne (by omega)]
    rw [e, List.set_set, List.set_set]
  · rw [List.set_set]
theorem getD_some {ns : List α} {k : Nat} {v : α} (h : k < ns.length) : ns[k]? = some (ns.getD k v) := by
  simp [List.getElem?_eq_getElem h]
theorem HB.sub {ns : List α} {p c : Nat} {w : α} (h : HB lt ns p) (hc : Desc p c) (hp : p < c) : HB lt (ns.set p w) c := fun q d a b hq hn hd ea eb => by
  have := hq.le
  rw [List.getElem?_set_ne (by omega)] at ea
  rw [List.getElem?_set_ne (by rcases hd with rfl | rfl <;> omega)] at eb
  exact h q d a b (hc.trans hq) (by omega) hd ea eb

theorem up_back (htr : ∀ a b c, lt a b = false → lt a c = true → lt b c = true) (v : α) (s : Nat) : ∀ (k : Nat) (ns : List α) (p : Nat), ns.length - p ≤ k → s ≤ p → p < ns.length → HB lt ns p → 
    (2 * p + 1 < ns.length → lt (ns.getD (kid lt v ns p) v) v = true) →
    upF lt s v ((downF lt v ns p).1.set (downF lt v ns p).2 v) (downF lt v ns p).2 = upF lt s v (ns.set p v) p := by
  intro k
  induction k with
  | zero => intro ns p h hs hp; omega
  | succ k ih =>
    intro ns p h hs hp hb hl
    by_cases hc : 2 * p + 1 < ns.length
    · have g := kid_gt lt v ns p
      have l := kid_lt lt v ns p hc
      have hv := hl hc
      have kp := kid_par (lt := lt) v ns p
      have kd := kid_desc (lt := lt) v ns p
      rw [downF.eq_def lt v ns p, dif_pos hc]
      generalize hcc : kid lt v ns p = c at *
      have hnc : (ns.set p (ns.getD c v)).getD c v = ns.getD c v := by
        simp only [List.getD_eq_getElem?_getD]; rw [List.getElem?_set_ne (by omega)]
      rw [ih (ns.set p (ns.getD c v)) c (by simp only [List.length_set]; omega) (by omega) (by simpa using l) (hb.sub kd (by omega)) ?_]
      · rw [upF, dif_pos (by omega), kp]
        have e1 : ((ns.set p (ns.getD c v)).set c v).getD p v = ns.getD c v := by
          simp only [List.getD_eq_getElem?_getD]
          rw [List.getElem?_set_ne (by omega), List.getElem?_set_self (by omega)]; rfl
        rw [e1, if_pos hv, List.set_set]
        have e2 : (ns.set p (ns.getD c v)).set c (ns.getD c v) = ns.set p (ns.getD c v) := by
          apply List.ext_getElem? ; intro i
          by_cases hi : i = c
          · subst hi; rw [List.getElem?_set_self (by simpa using l), List.getElem?_set_ne (by omega)]; exact (getD_some l).symm
          · rw [List.getElem?_set_ne (by omega)]
        rw [e2, upF_set, upF_set]
      · intro hd
        have l2 := kid_lt lt v (ns.set p (ns.getD c v)) c hd
        have g2 := kid_gt lt v (ns.set p (ns.getD c v)) c
        have kk := kid_cases (lt := lt) v (ns.set p (ns.getD c v)) c
        generalize kid lt v (ns.set p (ns.getD c v)) c = d at *
        simp only [List.length_set] at l2
        have e3 : (ns.set p (ns.getD c v)).getD d v = ns.getD d v := by
          simp only [List.getD_eq_getElem?_getD]; rw [List.getElem?_set_ne (by omega)]
        rw [e3]
        exact htr _ _ _ (hb c d _ _ kd (by omega) kk (getD_some l) (getD_some l2)) hv
    · rw [downF.eq_def lt v ns p, dif_neg hc]

theorem sift_sink_aux (htr : ∀ a b c, lt a b = false → lt a c = true → lt b c = true) (v : α) (s : Nat) : ∀ (k : Nat) (ns : List α) (p : Nat), ns.length - p ≤ k → s ≤ p → p < ns.length → HB lt ns p → 
    (s < p → lt (ns.getD ((p - 1) / 2) v) v = false) →
    upF lt s v ((downF lt v ns p).1.set (downF lt v ns p).2 v) (downF lt v ns p).2 = sinkF lt v ns p := by
  intro k
  induction k with
  | zero => intro ns p h hs hp; omega
  | succ k ih =>
    intro ns p h hs hp hb hl
    have fin : upF lt s v (ns.set p v) p = ns.set p v := by
      rw [upF_set, upF]
      split
      · rename_i hh; rw [if_neg]; rw [hl hh]; simp
      · rfl
    by_cases hc : 2 * p + 1 < ns.length
    · have g := kid_gt lt v ns p
      have l := kid_lt lt v ns p hc
      have kp := kid_par (lt := lt) v ns p
      have kd := kid_desc (lt := lt) v ns p
      rw [sinkF, dif_pos hc]
      split
      · rename_i hv
        rw [up_back htr v s (k + 1) ns p h hs hp hb (fun _ => hv), fin]
      · rename_i hv
        rw [downF.eq_def lt v ns p, dif_pos hc]
        generalize hcc : kid lt v ns p = c at *
        refine ih (ns.set p (ns.getD c v)) c (by simp only [List.length_set]; omega) (by omega) (by simpa using l) (hb.sub kd (by omega)) (fun _ => ?_)
        rw [kp]
        simp only [List.getD_eq_getElem?_getD]
        rw [List.getElem?_set_self (by omega)]
        simpa using hv
    · rw [downF.eq_def lt v ns p, dif_neg hc, sinkF, dif_neg hc, fin]

theorem sift_sink (htr : ∀ a b c, lt a b = false → lt a c = true → lt b c = true) (v : α) (ns : List α) (p : Nat) (hp : p < ns.length) (hb : HB lt ns p) : siftF lt ns p v = sinkF lt v ns p :=
  sift_sink_aux htr v p _ ns p (Nat.le_refl _) (Nat.le_refl _) hp hb (fun h => absurd h (Nat.lt_irrefl _))
end

/-! Lb3 -/
/-! rows of places: promotion and evacuation -/
section
variable {β : Type} (R : β → β → Bool)
def pass : β → List β → List β × β
  | x, [] => ([], x)
  | x, y :: ys => if R x y then (x :: (pass y ys).1, (pass y ys).2) else (y :: (pass x ys).1, (pass x ys).2)
theorem pass_length : ∀ (ys : List β) (x : β), (pass R x ys).1.length = ys.length
  | [], x => rfl
  | y :: ys, x => by unfold pass; split <;> simp [pass_length ys]
/-- the way back, from the row's end; the row is told from its end -/
def back : List β → β → List β
  | [], z => [z]
  | y :: ys, z => if R y z then z :: back ys y else y :: back ys z
def evac : (n : Nat) → List β → List β
  | 0, _ => []
  | _ + 1, [] => []
  | n + 1, x :: ys => evac n (pass R x ys).1 ++ [(pass R x ys).2]
theorem evac_length : ∀ (n : Nat) (l : List β), l.length = n → (evac R n l).length = n
  | 0, _, _ => rfl
  | n + 1, x :: ys, h => by
    simp only [List.length_cons, Nat.add_right_cancel_iff] at h
    simp [evac, evac_length n (pass R x ys).1 (by rw [pass_length, h])]
theorem pass_snoc : ∀ (ys : List β) (x z : β), pass R x (ys ++ [z]) = if R (pass R x ys).2 z then ((pass R x ys).1 ++ [(pass R x ys).2], z) else ((pass R x ys).1 ++ [z], (pass R x ys).2)
  | [], x, z => by cases h : R x z <;> simp [pass, h]
  | y :: ys, x, z => by
    simp only [List.cons_append, pass]
    split
    · rw [pass_snoc ys y z]; split <;> simp
    · rw [pass_snoc ys x z]; split <;> simp
def backR (l : List β) (z : β) : List β := (back R l.reverse z).reverse
theorem backR_snoc (l : List β) (t z : β) : backR R (l ++ [t]) z = if R t z then backR R l t ++ [z] else backR R l z ++ [t] := by
  unfold backR; simp [back]; split <;> simp
theorem evac_snoc : ∀ (n : Nat) (l : List β) (z : β), l.length = n → evac R (n + 1) (l ++ [z]) = backR R (evac R n l) z
  | 0, l, z, h => by rw [List.length_eq_zero_iff.mp h]; simp [evac, pass, backR, back]
  | n + 1, x :: ys, z, h => by
    simp only [List.length_cons, Nat.add_right_cancel_iff] at h
    have hl : (pass R x ys).1.length = n := by rw [pass_length, h]
    show evac R (n + 1) (pass R x (ys ++ [z])).1 ++ [(pass R x (ys ++ [z])).2] = backR R (evac R n (pass R x ys).1 ++ [(pass R x ys).2]) z
    rw [pass_snoc, backR_snoc]
    split
    · rw [evac_snoc n _ _ hl]
    · rw [evac_snoc n _ _ hl]
variable {R}
theorem back_pass (hs : ∀ a b, R a b = R b a) : ∀ (ys : List β) (x : β) (acc : List β) , backR R (pass R x ys).1 (pass R x ys).2 = x :: ys := by
  suffices h : ∀ (n : Nat) (ys : List β) (x : β), ys.length = n → backR R (pass R x ys).1 (pass R x ys).2 = x :: ys from fun ys x _ => h _ ys x rfl
  intro n
  induction n with
  | zero => intro ys x h; rw [List.length_eq_zero_iff.mp h]; simp [pass, backR, back]
  | succ n ih =>
    intro ys x h
    rcases List.eq_nil_or_concat ys with rfl | ⟨zs, z, rfl⟩
    · simp at h
    · simp only [List.concat_eq_append, List.length_append, List.length_cons, List.length_nil, Nat.add_right_cancel_iff] at h
      simp only [List.concat_eq_append]
      rw [pass_snoc]
      split
      · rename_i c
        simp only
        rw [backR_snoc, c, if_pos rfl, ih zs x h]; simp
      · rename_i c
        simp only
        rw [backR_snoc, hs, if_neg c, ih zs x h]; simp
theorem evac_evac (hs : ∀ a b, R a b = R b a) : ∀ (n : Nat) (l : List β), l.length = n → evac R n (evac R n l) = l
  | 0, l, h => by rw [List.length_eq_zero_iff.mp h]; rfl
  | n + 1, x :: ys, h => by
    simp only [List.length_cons, Nat.add_right_cancel_iff] at h
    have hl : (pass R x ys).1.length = n := by rw [pass_length, h]
    show evac R (n + 1) (evac R n (pass R x ys).1 ++ [(pass R x ys).2]) = _
    rw [evac_snoc _ _ _ _ (evac_length R n _ hl), evac_evac hs n _ hl, back_pass hs _ _ []]
end
/-! places and labels -/
def isKid (a b : Nat) : Bool := b == 2 * a + 1 || b == 2 * a + 2
def kin (a b : Nat) : Bool := isKid a b || isKid b a
theorem kin_symm (a b : Nat) : kin a b = kin b a := by unfold kin; rw [Bool.or_comm]
/-- all below a place stand behind it -/
def LE (n : Nat) : List Nat → Prop
  | [] => True
  | y :: t => (∀ c, c < n → isKid y c = true → c ∈ t) ∧ LE n t
inductive At (m : List Int) : List Nat → List Int → Prop
  | nil : At m [] []
  | cons {p : Nat} {l : Int} {e : List Nat} {L : List Int} : m[p]? = some l → At m e L → At m (p :: e) (l :: L)
def ilt (x y : Int) : Bool := decide (x < y)
theorem At.set {m : List Int} {e : List Nat} {L : List Int} {x : Nat} {v : Int} (h : At m e L) (hx : x ∉ e) : At (m.set x v) e L := by
  induction h with
  | nil => exact .nil
  | cons a b ih =>
    simp only [List.mem_cons, not_or] at hx
    exact .cons (by rw [List.getElem?_set_ne hx.1]; exact a) (ih hx.2)
theorem At.mem {m : List Int} {e : List Nat} {L : List Int} {c : Nat} (h : At m e L) (hc : c ∈ e) : ∃ l ∈ L, m[c]? = some l := by
  induction h with
  | nil => cases hc
  | cons a b ih =>
    rcases List.mem_cons.mp hc with rfl | hc
    · exact ⟨_, .head _, a⟩
    · obtain ⟨l, h1, h2⟩ := ih hc; exact ⟨l, .tail _ h1, h2⟩
theorem At.append {m : List Int} {e f : List Nat} {L M : List Int} (h : At m e L) (g : At m f M) : At m (e ++ f) (L ++ M) := by
  induction h with
  | nil => exact g
  | cons a b ih => exact .cons a ih
theorem kid_of {m : List Int} {v : Int} {x y : Nat} {l : Int} (hk : isKid x y = true) (hy : m[y]? = some l) (hm : ∀ c l', isKid x c = true → c ≠ y → m[c]? = some l' → l' < l) : kid ilt v m x = y := by
  have hyl : y < m.length := by
    rcases Nat.lt_or_ge y m.length with h | h
    · exact h
    · rw [List.getElem?_eq_none h] at hy; cases hy
  unfold kid
  simp only [isKid, Bool.or_eq_true, beq_iff_eq] at hk hm
  rcases hk with rfl | rfl
  · rw [if_neg]
    rintro ⟨h1, h2⟩
    have := hm (2 * x + 2) _ (.inr rfl) (by omega) (getD_some (v := v) h1)
    unfold ilt at h2
    have e : m.getD (2 * x + 1) v = l := by simp [List.getD_eq_getElem?_getD, hy]
    rw [e] at h2
    simp at h2; simp at this; omega
  · rw [if_pos]
    refine ⟨hyl, ?_⟩
    have h1 : 2 * x + 1 < m.length := by omega
    have := hm (2 * x + 1) _ (.inl rfl) (by omega) (getD_some (v := v) h1)
    unfold ilt
    have e : m.getD (2 * x + 2) v = l := by simp [List.getD_eq_getElem?_getD, hy]
    rw [e]
    simp only [decide_eq_false_iff_not]; omega
/-- the slide of a hole -/
theorem slide {n : Nat} {v : Int} {B : List Nat} {LB : List Int} (hLB : ∀ l ∈ LB, l < v) : ∀ (ys : List Nat) (x : Nat) (m LA : List Int), m.length = n → x < n → (x :: (ys ++ B)).Nodup → At m ys LA → At m B LB → (∀ l ∈ LA, v < l) → LA.Pairwise (· > ·) →
    LE n (x :: (ys ++ B)) → (sinkF ilt v m x).length = n ∧ At (sinkF ilt v m x) (pass kin x ys).1 LA ∧ (sinkF ilt v m x)[(pass kin x ys).2]? = some v ∧ (∀ q, q ∉ x :: ys → (sinkF ilt v m x)[q]? = m[q]?) ∧ (pass kin x ys).2 < n := by
  intro ys
  induction ys with
  | nil =>
    intro x m LA hm hx nd hA hB hv hp le
    cases hA
    have e : sinkF ilt v m x = m.set x v := by
      rw [sinkF]; split
      · rename_i hc
        rw [if_pos]
        have l := kid_lt ilt v m x hc
        have k : isKid x (kid ilt v m x) = true := by rcases kid_cases (lt := ilt) v m x with h | h <;> rw [h] <;> simp [isKid]
        obtain ⟨l', h1, h2⟩ := hB.mem (le.1 _ (by omega) k)
        simp only [List.getD_eq_getElem?_getD, h2, Option.getD_some, ilt]
        exact decide_eq_true (hLB _ h1)
      · rfl
    rw [e]
    refine ⟨by simpa using hm, .nil, ?_, ?_, hx⟩
    · simp only [pass]; rw [List.getElem?_set_self (by omega)]
    · intro q hq; simp only [List.mem_cons, List.not_mem_nil, or_false] at hq; rw [List.getElem?_set_ne (by omega)]
  | cons y ys ih =>
    intro x m LA hm hx nd hA hB hv hp le
    cases hA with
    | cons hy hA =>
    rename_i l LA
    simp only [List.cons_append, List.nodup_cons, List.mem_cons, not_or] at nd
    obtain ⟨⟨nxy, nx⟩, ny, nd⟩ := nd
    have nxys : x ∉ ys := fun h => nx (List.mem_append_left _ h)
    have nxB : x ∉ B := fun h => nx (List.mem_append_right _ h)
    have hyn : y < n := by
      rcases Nat.lt_or_ge y m.length with h | h
      · omega
      · rw [List.getElem?_eq_none h] at hy; cases hy
    have nk : isKid y x = false := by
      cases h : isKid y x with
      | false => rfl
      | true => exact absurd (le.2.1 x hx h) nx
    rw [List.pairwise_cons] at hp
    by_cases hk : isKid x y = true
    · have kx : kin x y = true := by unfold kin; rw [hk]; rfl
      have hkid : kid ilt v m x = y := by
        refine kid_of hk hy fun c l' h1 h2 h3 => ?_
        have hc : c < n := by
          rcases Nat.lt_or_ge c m.length with h | h
          · omega
          · rw [List.getElem?_eq_none h] at h3; cases h3
        have := le.1 c hc h1
        simp only [List.cons_append, List.mem_cons, List.mem_append] at this
        rcases this with rfl | h | h
        · exact absurd rfl h2
        · obtain ⟨l2, q1, q2⟩ := hA.mem h; rw [h3] at q2; cases q2; exact hp.1 _ q1
        · obtain ⟨l2, q1, q2⟩ := hB.mem h; rw [h3] at q2; cases q2
          have := hLB _ q1; have := hv l (.head _); omega
      have hg : m.getD y v = l := by simp [List.getD_eq_getElem?_getD, hy]
      have hlt : 2 * x + 1 < m.length := by
        simp only [isKid, Bool.or_eq_true, beq_iff_eq] at hk; omega
      have e : sinkF ilt v m x = sinkF ilt v (m.set x l) y := by
        rw [sinkF, dif_pos hlt, hkid, hg, if_neg]
        unfold ilt; have := hv l (.head _); simp only [decide_eq_true_eq]; omega
      rw [e]
      obtain ⟨i1, i2, i3, i4, i5⟩ := ih y (m.set x l) LA (by simpa using hm) hyn (by rw [List.nodup_cons]; exact ⟨ny, nd⟩) (hA.set nxys) (hB.set nxB) (fun l' h => hv l' (.tail _ h)) hp.2 le.2
      simp only [pass, kx, if_pos]
      refine ⟨i1, .cons ?_ i2, i3, fun q hq => ?_, i5⟩
      · rw [i4 x (by simp only [List.mem_cons, not_or]; exact ⟨nxy, nxys⟩), List.getElem?_set_self (by omega)]
      · simp only [List.mem_cons, not_or] at hq
        rw [i4 q (by simp only [List.mem_cons, not_or]; exact ⟨hq.2.1, hq.2.2⟩), List.getElem?_set_ne (fun h => hq.1 h.symm)]
    · have kx : kin x y = false := by unfold kin; rw [nk]; simpa using hk
      obtain ⟨i1, i2, i3, i4, i5⟩ := ih x m LA hm hx (by rw [List.nodup_cons]; exact ⟨nx, nd⟩) hA hB (fun l' h => hv l' (.tail _ h)) hp.2 ⟨fun c hc h => by
        have := le.1 c hc h
        simp only [List.cons_append, List.mem_cons] at this
        rcases this with rfl | h'
        · exact absurd h hk
        · exact h', le.2.2⟩
      simp only [pass, kx]
      refine ⟨i1, .cons ?_ i2, i3, fun q hq => ?_, i5⟩
      · show _ = some l
        rw [i4 y ?_, hy]
        simp only [List.mem_cons, not_or]
        refine ⟨fun h => nxy h.symm, fun h => ny (List.mem_append_left _ h)⟩
      · simp only [List.mem_cons, not_or] at hq
        exact i4 q (by simp only [List.mem_cons, not_or]; exact ⟨hq.1, hq.2.2⟩)

/-! Rl -/
/-! the walk's equations, with loops closed -/
def CompG (Φ : Fns) (ifs : List PE) (elt : PE) (t : Tgt) (F0 : Frm) (Q : V → Hp → Prop) (I : It) (σ : Hp) : Prop :=
    ∃ Inv : Nat → It → List V → Hp → Prop, (∃ n, Inv n I [] σ) ∧ ∀ n I acc σ, Inv n I acc σ →
        match itNext I σ with
        | none => False
        | some none => newL acc Q σ
        | some (some (x, I')) => bindT t x (fun F1 => vTs Φ ifs (fun b σ => if b then vE Φ elt (fun y σ => acc.length < BIG ∧ ∃ m, m < n ∧ Inv m I' (acc ++ [y]) σ) F1 σ else ∃ m, m < n ∧ Inv m I' acc σ) F1 σ) F0 σ
def ForG (Φ : Fns) (b : List PS) (t : Tgt) (Q : Fl → Frm → Hp → Prop) (I : It) (F : Frm) (σ : Hp) : Prop :=
    ∃ Inv : Nat → It → Frm → Hp → Prop, (∃ n, Inv n I F σ) ∧ ∀ n I F σ, Inv n I F σ →
        match itNext I σ with
        | none => False
        | some none => Q .next F σ
        | some (some (x, I')) => bindT t x (fun F1 => vSs Φ b (fun fl F σ => match fl with
          | .next => ∃ m, m < n ∧ Inv m I' F σ
          | .cont => ∃ m, m < n ∧ Inv m I' F σ
          | .brk => Q .next F σ
          | .ret v => Q (.ret v) F σ) F1 σ) F σ
def WhileG (Φ : Fns) (c : PE) (b : List PS) (Q : Fl → Frm → Hp → Prop) (F : Frm) (σ : Hp) : Prop :=
    ∃ Inv : Nat → Frm → Hp → Prop, (∃ n, Inv n F σ) ∧ ∀ n F σ, Inv n F σ →
      vT Φ c (fun t σ => if t then vSs Φ b (fun fl F σ => match fl with
        | .next => ∃ m, m < n ∧ Inv m F σ
        | .cont => ∃ m, m < n ∧ Inv m F σ
        | .brk => Q .next F σ
        | .ret v => Q (.ret v) F σ) F σ else Q .next F σ) F σ
def negQ (Q : V → Hp → Prop) (a : V) (σ : Hp) : Prop := match a with | .int x => Q (.int (-x)) σ | _ => False
def look (F : Frm) (i : Nat) (K : V → Prop) : Prop := match F[i]? with | some (some v) => K v | _ => False
def frOf (fmap : List (Option Nat)) (F : Frm) : Frm := fmap.map fun j => match j with | some j => (match F[j]? with | some v => v | none => none) | none => none
section
variable (Φ : Fns) (Q : V → Hp → Prop) (P : Bool → Hp → Prop) (R : Fl → Frm → Hp → Prop) (F : Frm) (σ : Hp)
theorem e_var (i : Nat) : vE Φ (.var i) Q F σ = look F i (fun v => Q v σ) := rfl
theorem e_neg (e : PE) : vE Φ (.neg e) Q F σ = vE Φ e (negQ Q) F σ := rfl
theorem n_int (x : Int) : negQ Q (.int x) σ = Q (.int (-x)) σ := rfl
theorem e_comp (fm : List (Option Nat)) (elt : PE) (t : Tgt) (k : IK) (it : PE) (ifs : List PE) : vE Φ (.comp fm elt t k it ifs) Q F σ = vE Φ it (fun x σ => itStart k x (fun I σ => CompG Φ ifs elt t (frOf fm F) Q I σ) σ) F σ := rfl
theorem t_var (i : Nat) : vT Φ (.var i) P F σ = look F i (fun v => truth v P σ) := rfl
theorem s_aug (i : Nat) (op : Operator) (e : PE) : vS Φ (.aug i op e) R F σ = look F i (fun x => match x with | .int x => vE Φ e (fun b σ => match b with | .int y => opBin op (.int x) (.int y) (fun v σ => R .next (F.set i (some v)) σ) σ | _ => False) F σ | _ => False) := by
  rw [vS]; unfold look; rcases h : F[i]? with _ | _ | v <;> try rfl
  cases v <;> rfl
theorem s_while (c : PE) (b : List PS) : vS Φ (.whil c b) R F σ = WhileG Φ c b R F σ := rfl
theorem s_for (t : Tgt) (k : IK) (it : PE) (b : List PS) : vS Φ (.for t k it b) R F σ = vE Φ it (fun x σ => itStart k x (fun I σ => ForG Φ b t R I F σ) σ) F σ := rfl
/-- what comes behind a statement -/
def seqQ (Φ : Fns) (ss : List PS) (R : Fl → Frm → Hp → Prop) (fl : Fl) (F : Frm) (σ : Hp) : Prop := match fl with
    | .next => vSs Φ ss R F σ
    | fl => R fl F σ
theorem ss_cons (s : PS) (ss : List PS) : vSs Φ (s :: ss) R F σ = vS Φ s (seqQ Φ ss R) F σ := rfl
theorem q_next (ss : List PS) : seqQ Φ ss R .next F σ = vSs Φ ss R F σ := rfl
theorem q_brk (ss : List PS) : seqQ Φ ss R .brk F σ = R .brk F σ := rfl
theorem q_cont (ss : List PS) : seqQ Φ ss R .cont F σ = R .cont F σ := rfl
theorem q_ret (ss : List PS) (v : V) : seqQ Φ ss R (.ret v) F σ = R (.ret v) F σ := rfl
theorem bt_name (i : Nat) (x : V) (K : Frm → Prop) : bindT (.name i) x K F σ = K (F.set i (some x)) := rfl
theorem bt_tup (is : List Nat) (vs : List V) (K : Frm → Prop) : bindT (.tup is) (.tup vs) K F σ = (is.length = vs.length ∧ K (setAll is vs F)) := rfl
theorem c_range1 (b : Int) : opCall .range [.int b] Q σ = Q (.rng 0 b 1) σ := rfl
theorem c_range2 (a b : Int) : opCall .range [.int a, .int b] Q σ = Q (.rng a b 1) σ := rfl
theorem c_range3 (a b c : Int) : opCall .range [.int a, .int b, .int c] Q σ = (c ≠ 0 ∧ Q (.rng a b c) σ) := rfl
theorem c_min (a b : Int) : opCall .min [.int a, .int b] Q σ = Q (.int (if b < a then b else a)) σ := rfl
theorem c_listr (a b c : Int) : opCall .list [.rng a b c] Q σ = (rok a b c ∧ newL (rvals a b c) Q σ) := rfl
theorem c_abs (a : Int) : opCall .abs [.int a] Q σ = Q (.int (if a < 0 then -a else a)) σ := rfl
theorem i_rng (a b c : Int) (K : It → Hp → Prop) : itStart .plain (.rng a b c) K σ = (rok a b c ∧ K (.rng a (rlen a b c) c) σ) := rfl
theorem i_ref (a : Addr) (K : It → Hp → Prop) : itStart .plain (.ref a) K σ = ((∃ xs, listAt σ a = some xs) ∧ K (.lst a 0) σ) := rfl
theorem i_tup (vs : List V) (K : It → Hp → Prop) : itStart .plain (.tup vs) K σ = K (.vals vs) σ := rfl
theorem i_enm (a : Addr) (K : It → Hp → Prop) : itStart .enum (.ref a) K σ = ((∃ xs, σ a = some (.list xs)) ∧ K (.enm 0 a) σ) := rfl
theorem look_zero (v : V) (K : V → Prop) : look (some v :: F) 0 K = K v := rfl
theorem look_succ (v : Option V) (i : Nat) (K : V → Prop) : look (v :: F) (i + 1) K = look F i K := rfl
theorem r_next : retV Q .next F σ = Q .none σ := rfl
theorem r_ret (v : V) : retV Q (.ret v) F σ = Q v σ := rfl
theorem sa_nil (vs : List V) : setAll [] vs F = F := rfl
theorem sa_cons (i : Nat) (is : List Nat) (v : V) (vs : List V) : setAll (i :: is) (v :: vs) F = setAll is vs (F.set i (some v)) := rfl
end
theorem big_of {n : Nat} (h : n ≤ 1000) : n ≤ BIG := by unfold BIG; omega
theorem rok_of {b : Int} {a : Int} (h0 : 0 ≤ b) (h : b ≤ 1000) (h1 : 0 ≤ a) (h2 : a ≤ 1000) : rok a b 1 := ⟨.inl rfl, by omega, by omega⟩
theorem rok_dn {b : Int} {a : Int} (h0 : -1000 ≤ b) (h : b ≤ 1000) (h1 : -1000 ≤ a) (h2 : a ≤ 1000) : rok a b (-1) := ⟨.inr rfl, by omega, by omega⟩
/-! rules for loops -/
def Ext (σ σ' : Hp) : Prop := ∀ a o, σ a = some o → σ' a = some o
theorem Ext.rfl {σ : Hp} : Ext σ σ := fun _ _ h => h
theorem Ext.trans {a b c : Hp} (h : Ext a b) (g : Ext b c) : Ext a c := fun x o e => g x o (h x o e)
theorem Ext.upd {σ : Hp} {a : Addr} (o : AObj) (h : σ a = none) : Ext σ (upd σ a o) := fun b p e => by
  unfold Mine.upd; split
  · rename_i q; subst q; rw [h] at e; cases e
  · exact e
theorem Ext.listAt {σ σ' : Hp} (h : Ext σ σ') {a : Addr} {xs : List V} (e : listAt σ a = some xs) : listAt σ' a = some xs := by
  unfold Mine.listAt at *
  split at e
  · rename_i q; rw [h _ _ q]; exact e
  · rename_i q; rw [h _ _ q]; exact e
  · cases e
theorem Ext.fresh {σ σ' : Hp} (h : Ext σ σ') {a : Addr} (e : σ' a = none) : σ a = none := by
  cases q : σ a with
  | none => rfl
  | some o => rw [h _ _ q] at e; cases e
/-- what an iterator gives, while the heap is in H -/
def Yields (H : Hp → Prop) : It → List V → Prop
  | I, [] => ∀ σ, H σ → itNext I σ = some none
  | I, x :: xs => ∃ I', (∀ σ, H σ → itNext I σ = some (some (x, I'))) ∧ Yields H I' xs
theorem yields_vals (H : Hp → Prop) : ∀ vs : List V, Yields H (.vals vs) vs
  | [] => fun _ _ => rfl
  | v :: vs => ⟨_, fun _ _ => rfl, yields_vals H vs⟩
theorem yields_rng (H : Hp → Prop) (c : Int) : ∀ (n : Nat) (x : Int), Yields H (.rng x n c) ((List.range n).map fun (i : Nat) => V.int (x + (i : Int) * c))
  | 0, x => fun _ _ => rfl
  | n + 1, x => by
    have := yields_rng H c n (x + c)
    rw [List.range_succ_eq_map, List.map_cons, List.map_map]
    have e : (fun (i : Nat) => V.int (x + (i : Int) * c)) ∘ Nat.succ = fun (i : Nat) => V.int (x + c + (i : Int) * c) := by
      funext i; simp only [Function.comp]; congr 1
      have : ((i.succ : Nat) : Int) = i + 1 := rfl
      rw [this, Int.add_mul]; omega
    rw [e]
    refine ⟨_, fun _ _ => ?_, this⟩
    simp [itNext]
theorem yields_lst {H : Hp → Prop} {a : Addr} {xs : List V} (h : ∀ σ, H σ → listAt σ a = some xs) : ∀ (k i : Nat), xs.length - i = k → Yields H (.lst a i) (xs.drop i) := by
  intro k
  induction k with
  | zero =>
    intro i hk
    rw [List.drop_eq_nil_of_le (by omega)]
    intro σ hs
    simp only [itNext, h σ hs]; rw [List.getElem?_eq_none (by omega)]
  | succ k ih =>
    intro i hk
    have hi : i < xs.length := by omega
    rw [List.drop_eq_getElem_cons hi]
    refine ⟨.lst a (i + 1), fun σ hs => ?_, ih (i + 1) (by omega)⟩
    simp only [itNext, h σ hs]; rw [List.getElem?_eq_getElem hi]
def enumV (xs : List V) : List V := (List.range xs.length).map fun (i : Nat) => .tup [.int (i : Nat), xs.getD i .none]
theorem yields_enm {H : Hp → Prop} {a : Addr} {xs : List V} (h : ∀ σ, H σ → listAt σ a = some xs) : ∀ (k i : Nat), xs.length - i = k → Yields H (.enm i a) ((enumV xs).drop i) := by
  have le : (enumV xs).length = xs.length := by simp [enumV]
  intro k
  induction k with
  | zero =>
    intro i hk
    rw [List.drop_eq_nil_of_le (by omega)]
    intro σ hs
    simp only [itNext, h σ hs]; rw [List.getElem?_eq_none (by omega)]
  | succ k ih =>
    intro i hk
    have hi : i < xs.length := by omega
    rw [List.drop_eq_getElem_cons (by omega)]
    refine ⟨.enm (i + 1) a, fun σ hs => ?_, ih (i + 1) (by omega)⟩
    simp only [itNext, h σ hs]; rw [List.getElem?_eq_getElem hi]; simp [enumV, List.getElem?_eq_getElem hi]
theorem Yields.sub {H H' : Hp → Prop} (h : ∀ σ, H' σ → H σ) : ∀ {xs : List V} {I : It}, Yields H I xs → Yields H' I xs
  | [], I, y => fun σ q => y σ (h σ q)
  | x :: xs, I, ⟨I', a, b⟩ => ⟨I', fun σ q => a σ (h σ q), b.sub h⟩

/-- a comprehension whose steps only add to the heap -/
theorem comp_rule {Φ : Fns} {ifs : List PE} {elt : PE} {t : Tgt} {F0 : Frm} {Q : V → Hp → Prop} {σ : Hp} {I : It} {xs : List V} (g : V → Option V) (hb : xs.length ≤ BIG) (hy : Yields (Ext σ) I xs)
    (step : ∀ x ∈ xs, ∀ σ', Ext σ σ' → ∀ (K : V → Hp → Prop) (N : Hp → Prop), (∀ y σ'', g x = some y → Ext σ' σ'' → K y σ'') → (g x = none → ∀ σ'', Ext σ' σ'' → N σ'') → bindT t x (fun F1 => vTs Φ ifs (fun b σ => if b then vE Φ elt K F1 σ else N σ) F1 σ') F0 σ')
    (q : ∀ σ', Ext σ σ' → ∀ a, σ' a = none → Q (.ref a) (upd σ' a (.list (xs.filterMap g)))) :
    CompG Φ ifs elt t F0 Q I σ := by
  refine ⟨fun n I acc τ => ∃ rest pre, rest.length = n ∧ xs = pre ++ rest ∧ Yields (Ext σ) I rest ∧ acc = pre.filterMap g ∧ Ext σ τ, ⟨_, xs, [], rfl, rfl, hy, rfl, .rfl⟩, ?_⟩
  rintro n I acc τ ⟨rest, pre, rfl, hx, hy, rfl, he⟩
  have la : (pre.filterMap g).length ≤ pre.length := List.length_filterMap_le ..
  cases rest with
  | nil =>
    rw [hy τ he]
    simp only [List.append_nil] at hx; subst hx
    exact ⟨Nat.le_trans la hb, q τ he⟩
  | cons x rest =>
    obtain ⟨I', e, hy'⟩ := hy
    rw [e τ he]
    have lx : pre.length + (rest.length + 1) ≤ BIG := by rw [hx] at hb; simpa using hb
    refine step x (by rw [hx]; simp) τ he _ _ (fun y τ' hg h => ⟨by omega, rest.length, by simp, rest, pre ++ [x], rfl, by rw [hx]; simp, hy', by simp [List.filterMap_append, hg], he.trans h⟩) (fun hg τ' h => ⟨rest.length, by simp, rest, pre ++ [x], rfl, by rw [hx]; simp, hy', by simp [List.filterMap_append, hg], he.trans h⟩)
/-- a loop over what is there -/
theorem for_rule {Φ : Fns} {b : List PS} {t : Tgt} {F : Frm} {Q : Fl → Frm → Hp → Prop} {σ : Hp} {I : It} {xs : List V} (J : Nat → Frm → Hp → Prop) (hy : Yields (fun τ => ∃ i F, J i F τ) I xs) (h0 : J 0 F σ)
    (step : ∀ i x F σ, xs[i]? = some x → J i F σ → ∀ K : Fl → Frm → Hp → Prop, (∀ F σ, J (i + 1) F σ → K .next F σ) → (∀ F σ, J (i + 1) F σ → K .cont F σ) → (∀ F σ, Q .next F σ → K .brk F σ) → (∀ v F σ, Q (.ret v) F σ → K (.ret v) F σ) → bindT t x (fun F1 => vSs Φ b K F1 σ) F σ)
    (fin : ∀ F σ, J xs.length F σ → Q .next F σ) :
    ForG Φ b t Q I F σ := by
  refine ⟨fun n I F τ => ∃ i, i + n = xs.length ∧ Yields (fun τ => ∃ i F, J i F τ) I (xs.drop i) ∧ J i F τ, ⟨xs.length, 0, by omega, by simpa using hy, h0⟩, ?_⟩
  rintro n I F τ ⟨i, hn, hy, hj⟩
  cases n with
  | zero =>
    rw [List.drop_eq_nil_of_le (by omega)] at hy
    rw [hy τ ⟨i, F, hj⟩]
    have : i = xs.length := by omega
    subst this; exact fin F τ hj
  | succ n =>
    have hi : i < xs.length := by omega
    rw [List.drop_eq_getElem_cons hi] at hy
    obtain ⟨I', e, hy'⟩ := hy
    rw [e τ ⟨i, F, hj⟩]
    exact step i _ F τ (List.getElem?_eq_getElem hi) hj _ (fun F' τ' h => ⟨n, by omega, i + 1, by omega, hy', h⟩) (fun F' τ' h => ⟨n, by omega, i + 1, by omega, hy', h⟩) (fun F' τ' h => h) (fun v F' τ' h => h)

/-! Sw -/
local macro_rules | `(tactic| walk_at "vc") => `(tactic| try simp only [e_int, e_bool, e_none, e_str, e_var, e_bin, e_neg, n_int, e_not, e_cmp, e_and, e_or, e_ite, e_sub, e_slice, e_list, e_tuple, e_call, e_ucall, e_meth, e_comp, t_not, t_and, t_or, t_cmp, t_var, t_call, t_ucall, s_expr, s_assign, s_setitem, s_aug, s_ifs, s_while, s_for, s_ret, s_brk, s_cont, ss_nil, q_next, q_brk, q_cont, q_ret, c_range1, c_range2, c_range3, c_min, c_listr, c_abs, i_rng, i_ref, i_tup, i_enm, bt_name, bt_tup, look_zero, look_succ, r_next, r_ret, sa_nil, sa_cons, es_nil, es_cons, o_none, o_some, ts_nil, ts_cons, c_lt, c_le, c_gt, c_ge, c_eq, c_ne, b_add, b_sub, b_mul, b_div, b_mod, b_shr, t_bool, List.map, List.cons_append, List.nil_append, List.getElem?_cons_succ, List.getElem?_cons_zero, List.set_cons_succ, List.set_cons_zero, frOf])
local macro_rules | `(tactic| walk_at "go") => `(tactic| (rw [ss_cons]; walk_at "vc"))
theorem while_rule {Φ : Fns} {c : PE} {b : List PS} {Q : Fl → Frm → Hp → Prop} {F : Frm} {σ : Hp} (Inv : Nat → Frm → Hp → Prop) (n : Nat) (h0 : Inv n F σ)
    (step : ∀ n F σ, Inv n F σ → ∀ K : Fl → Frm → Hp → Prop, (∀ m F σ, m < n → Inv m F σ → K .next F σ) → (∀ m F σ, m < n → Inv m F σ → K .cont F σ) → (∀ F σ, Q .next F σ → K .brk F σ) → (∀ v F σ, Q (.ret v) F σ → K (.ret v) F σ) →
      vT Φ c (fun t σ => if t then vSs Φ b K F σ else Q .next F σ) F σ) : WhileG Φ c b Q F σ :=
  ⟨Inv, ⟨n, h0⟩, fun n F σ h => step n F σ h _ (fun m F σ hm hi => ⟨m, hm, hi⟩) (fun m F σ hm hi => ⟨m, hm, hi⟩) (fun _ _ h => h) (fun _ _ _ h => h)⟩
theorem call_len {σ : Hp} {a : Addr} {xs : List V} {Q : V → Hp → Prop} (h : listAt σ a = some xs) (q : Q (.int xs.length) σ) : opCall .len [.ref a] Q σ := ⟨xs, h, q⟩
theorem mul_l {x y : Int} (h : PySem.Builtin.Int.intBits x ≤ 64 := by decide) : IntMulOk x y := IntMulOk.of_left h
theorem lt_of_some {α : Type} {ns : List α} {p : Nat} {x : α} (hx : ns[p]? = some x) : p < ns.length := by
  rcases Nat.lt_or_ge p ns.length with h | h
  · exact h
  · rw [List.getElem?_eq_none h] at hx; cases hx
theorem map_at {α : Type} {f : α → V} {ns : List α} {k : Nat} (x : α) (h : k < ns.length) : (ns.map f)[k]? = some (f (ns.getD k x)) := by
  simp [List.getElem?_eq_getElem h]
theorem siftdown_v (Φ : Fns) (args : List V) (Q : V → Hp → Prop) (σ : Hp) (F : Frm) (h : siftdownC args Q σ) (hF : F = args.map some ++ [none, none, none]) : vSs Φ ps_siftdown (retV Q) F σ := by
  obtain ⟨α, f, lt, P, a, ns, s, p, x, rfl, hσ, hx, hP, hlt, q⟩ := h
  subst hF
  have hp : p < ns.length := lt_of_some hx
  have hx' : P x := hP _ (List.mem_of_getElem? hx)
  unfold ps_siftdown
  walk_at "go"
  refine opSub_list hσ (x := f x) (by rw [List.getElem?_map, hx]; rfl) ?_
  walk_at "vc"
  walk_at "go"
  refine while_rule (fun n F τ => ∃ ns' e4 e5, F = [some (.ref a), some (.int s), some (.int (n : Nat)), some (f x), e4, e5] ∧ τ = upd σ a (.list (ns'.map f)) ∧ ns'.length = ns.length ∧ n < ns.length ∧ (∀ y ∈ ns', P y) ∧ upF lt s x ns' n = upF lt s x ns p) p ⟨ns, none, none, rfl, (upd_id hσ).symm, rfl, hp, hP, rfl⟩ ?_
  rintro p' F τ ⟨ns', e4, e5, rfl, rfl, hl, hp', hP', eq⟩ K k1 k2 k3 k4
  walk_at "vc"
  have fin : upF lt s x ns' p' = ns'.set p' x → vSs Φ [.setitem (.var 0) (.var 2) (.var 3)] (retV Q) [some (.ref a), some (.int s), some (.int (p' : Nat)), some (f x), e4, e5] (upd σ a (.list (ns'.map f))) := fun e => by
    walk_at "go"
    refine opSet_list (upd_same _ _ _) (by rw [List.length_map]; omega) ?_
    rw [upd_upd]
    walk_at "vc"
    rw [← eq, e] at q
    rw [← List.map_set]; exact q
  by_cases hgt : s < p'
  · rw [decide_eq_true (by omega), if_pos rfl]
    walk_at "go"
    refine ⟨by omega, trivial, ?_⟩
    have e1 : ((p' : Int) - 1) / 2 = ((p' - 1) / 2 : Nat) := by omega
    rw [e1]
    have hq : (p' - 1) / 2 < ns'.length := by omega
    walk_at "go"
    refine opSub_list (upd_same _ _ _) (map_at x hq) ?_
    walk_at "vc"
    have hm : ns'.getD ((p' - 1) / 2) x ∈ ns' := getD_mem hq
    walk_at "go"
    refine hlt _ _ (hP' _ hm) hx' _ _ ?_
    walk_at "vc"
    by_cases c : lt (ns'.getD ((p' - 1) / 2) x) x = true
    · rw [c, if_pos rfl]
      walk_at "go"
      refine opSet_list (upd_same _ _ _) (by rw [List.length_map]; omega) ?_
      rw [upd_upd]
      walk_at "vc"
      walk_at "go"
      walk_at "go"
      refine k2 ((p' - 1) / 2) _ _ (by omega) ⟨ns'.set p' (ns'.getD ((p' - 1) / 2) x), _, _, rfl, by rw [List.map_set], by rw [List.length_set, hl], by omega, ?_, ?_⟩
      · intro y hy
        rcases mem_set hy with h | rfl
        · exact hP' _ h
        · exact hP' _ hm
      · rw [← eq, upF.eq_def lt s x ns' p', dif_pos hgt, if_pos c]
    · rw [Bool.eq_false_iff.mpr c, if_neg (by decide)]
      walk_at "vc"
      walk_at "go"
      refine k3 _ _ ?_
      walk_at "vc"
      rw [upF, dif_pos hgt, if_neg c] at fin
      walk_at "go"
      refine opSet_list (upd_same _ _ _) (by rw [List.length_map]; omega) ?_
      rw [upd_upd]
      walk_at "vc"
      rw [← eq, upF, dif_pos hgt, if_neg c] at q
      rw [← List.map_set]; exact q
  · rw [decide_eq_false (by omega), if_neg (by decide)]
    walk_at "vc"
    exact fin (by rw [upF, dif_neg hgt])
theorem siftup_v (Φ : Fns) (i : Nat) (hΦ : ∀ args Q σ, siftdownC args Q σ → Φ i args Q σ) (args : List V) (Q : V → Hp → Prop) (σ : Hp) (F : Frm) (h : siftupC args Q σ) (hF : F = args.map some ++ [none, none, none, none, none]) : vSs Φ (ps_siftup i) (retV Q) F σ := by
  obtain ⟨α, f, lt, P, a, ns, p, x, rfl, hσ, hx, hP, hlt, hbig, q⟩ := h
  subst hF
  have hp : p < ns.length := lt_of_some hx
  have hx' : P x := hP _ (List.mem_of_getElem? hx)
  unfold ps_siftup
  walk_at "go"
  refine call_len (listAt_list hσ) ?_
  rw [List.length_map]
  walk_at "vc"
  walk_at "go"
  walk_at "go"
  refine opSub_list hσ (x := f x) (by rw [List.getElem?_map, hx]; rfl) ?_
  walk_at "vc"
  walk_at "go"
  refine ⟨mul_l, ?_⟩
  walk_at "go"
  refine while_rule (fun n F τ => ∃ ns' p' e6, ns.length - p' = n ∧ F = [some (.ref a), some (.int (p' : Nat)), some (.int ns.length), some (.int p), some (f x), some (.int (2 * p' + 1 : Nat)), e6] ∧ τ = upd σ a (.list (ns'.map f)) ∧ ns'.length = ns.length ∧ p' < ns.length ∧ (∀ y ∈ ns', P y) ∧ downF lt x ns' p' = downF lt x ns p) _ ⟨ns, p, none, rfl, rfl, (upd_id hσ).symm, rfl, hp, hP, rfl⟩ ?_
  rintro n F τ ⟨ns', p', e6, rfl, rfl, rfl, hl, hp', hP', eq⟩ K k1 k2 k3 k4
  walk_at "vc"
  by_cases hc : 2 * p' + 1 < ns'.length
  · rw [decide_eq_true (by omega), if_pos rfl]
    have g1 := kid_gt lt x ns' p'
    have g2 := kid_lt lt x ns' p' hc
    have fin : ∀ e6, vSs Φ [.setitem (.var 0) (.var 1) (.sub (.var 0) (.var 5)), .assign (.name 1) (.var 5), .assign (.name 5) (.bin .Add (.bin .Mult (.int 2) (.var 1)) (.int 1))] K [some (.ref a), some (.int (p' : Nat)), some (.int ns.length), some (.int p), some (f x), some (.int (kid lt x ns' p' : Nat)), e6] (upd σ a (.list (ns'.map f))) := fun e6 => by
      walk_at "go"
      refine opSub_list (upd_same _ _ _) (map_at x g2) ?_
      refine opSet_list (upd_same _ _ _) (by rw [List.length_map]; omega) ?_
      rw [upd_upd]
      walk_at "vc"
      walk_at "go"
      walk_at "go"
      refine ⟨mul_l, k1 (ns.length - kid lt x ns' p') _ _ (by omega) ⟨ns'.set p' (ns'.getD (kid lt x ns' p') x), kid lt x ns' p', e6, rfl, rfl, by rw [List.map_set], by rw [List.length_set, hl], by omega, ?_, ?_⟩⟩
      · intro y hy
        rcases mem_set hy with h | rfl
        · exact hP' _ h
        · exact hP' _ (getD_mem g2)
      · rw [← eq, downF.eq_def lt x ns' p', dif_pos hc]
    walk_at "go"
    have e1 : ((2 * p' + 1 : Nat) : Int) + 1 = (2 * p' + 2 : Nat) := by omega
    rw [e1]
    walk_at "go"
    by_cases hr : 2 * p' + 2 < ns'.length
    · rw [decide_eq_true (by omega), if_pos rfl]
      refine opSub_list (upd_same _ _ _) (map_at x hr) ?_
      refine opSub_list (upd_same _ _ _) (map_at x hc) ?_
      refine hlt _ _ (hP' _ (getD_mem hr)) (hP' _ (getD_mem hc)) _ _ ?_
      walk_at "vc"
      by_cases c : lt (ns'.getD (2 * p' + 2) x) (ns'.getD (2 * p' + 1) x) = true
      · have ke : kid lt x ns' p' = 2 * p' + 1 := by unfold kid; rw [if_neg]; rintro ⟨_, h⟩; rw [c] at h; cases h
        rw [ke] at fin
        rw [c, if_neg (by decide)]
        walk_at "vc"
        exact fin _
      · have c := Bool.eq_false_iff.mpr c
        have ke : kid lt x ns' p' = 2 * p' + 2 := by unfold kid; rw [if_pos ⟨hr, c⟩]
        rw [ke] at fin
        rw [c, if_pos (by decide)]
        walk_at "go"
        exact fin _
    · rw [decide_eq_false (by omega), if_neg (by decide), if_neg (by decide)]
      walk_at "vc"
      have ke : kid lt x ns' p' = 2 * p' + 1 := by unfold kid; rw [if_neg]; exact fun h => hr h.1
      rw [ke] at fin
      exact fin _
  · rw [decide_eq_false (by omega), if_neg (by decide)]
    walk_at "vc"
    walk_at "go"
    refine opSet_list (upd_same _ _ _) (by rw [List.length_map]; omega) ?_
    rw [upd_upd]
    walk_at "vc"
    walk_at "go"
    have de : downF lt x ns p = (ns', p') := by rw [← eq, downF, dif_neg hc]
    refine hΦ _ _ _ ⟨α, f, lt, P, a, ns'.set p' x, p, p', x, rfl, by rw [upd_same, List.map_set], by rw [List.getElem?_set_self (by omega)], ?_, hlt.upd _, ?_⟩
    · intro y hy
      rcases mem_set hy with h | rfl
      · exact hP' _ h
      · exact hx'
    · rw [upd_upd]
      walk_at "vc"
      unfold siftF at q
      rw [de] at q
      exact q

/-! Lb4 -/
theorem length_le_of_sub {β : Type} [BEq β] [LawfulBEq β] : ∀ {l l' : List β}, l.Nodup → (∀ x ∈ l, x ∈ l') → l.length ≤ l'.length
  | [], l', _, _ => Nat.zero_le _
  | x :: t, l', nd, h => by
    rw [List.nodup_cons] at nd
    have hx := h x (.head _)
    have := length_le_of_sub (l := t) (l' := l'.erase x) nd.2 (fun y hy => (List.mem_erase_of_ne (fun (e : y = x) => nd.1 (e ▸ hy))).mpr (h y (.tail _ hy)))
    rw [List.length_erase_of_mem hx] at this
    have := List.length_pos_of_mem hx
    simp only [List.length_cons]; omega
theorem full_of {n : Nat} {l : List Nat} (nd : l.Nodup) (hl : l.length = n) (h : ∀ p ∈ l, p < n) {p : Nat} (hp : p < n) : p ∈ l := by
  apply Classical.byContradiction
  intro hn
  have := length_le_of_sub (l := p :: l) (l' := List.range n) (by rw [List.nodup_cons]; exact ⟨hn, nd⟩) (fun x hx => by
    rcases List.mem_cons.mp hx with rfl | hx
    · simpa using hp
    · simpa using h x hx)
  simp at this; omega

theorem pass_perm {β : Type} (R : β → β → Bool) : ∀ (ys : List β) (x : β), ((pass R x ys).1 ++ [(pass R x ys).2]).Perm (x :: ys)
  | [], x => .refl _
  | y :: ys, x => by
    unfold pass; split
    · exact (pass_perm R ys y).cons x
    · exact ((pass_perm R ys x).cons y).trans (.swap ..)
theorem pass_perm' {β : Type} (R : β → β → Bool) (ys : List β) (x : β) (B : List β) : ((pass R x ys).1 ++ (pass R x ys).2 :: B).Perm (x :: (ys ++ B)) := by
  have := (pass_perm R ys x).append_right B
  simpa using this
theorem pass_LE {n : Nat} {B : List Nat} : ∀ (ys : List Nat) (x : Nat), LE n (x :: (ys ++ B)) → LE n ((pass kin x ys).1 ++ (pass kin x ys).2 :: B)
  | [], x, h => h
  | y :: ys, x, h => by
    obtain ⟨h1, h2, h3⟩ := h
    have p := pass_perm' kin (y :: ys) x B
    unfold pass at p ⊢; split
    · rename_i hk
      rw [if_pos hk] at p
      refine ⟨fun c hc hk => ?_, pass_LE ys y ⟨h2, h3⟩⟩
      exact (List.Perm.mem_iff (pass_perm' kin ys y B)).mpr (h1 c hc hk)
    · rename_i hk
      refine ⟨fun c hc hk => ?_, pass_LE ys x ⟨fun c hc hk' => ?_, h3⟩⟩
      · exact (List.Perm.mem_iff (pass_perm' kin ys x B)).mpr (.tail _ (h2 c hc hk))
      · rcases List.mem_cons.mp (h1 c hc hk') with rfl | h
        · exact absurd (show kin x c = true by unfold kin; rw [hk']; rfl) hk
        · exact h
/-- falling labels -/
def desc (c : Int) : Nat → List Int
  | 0 => []
  | k + 1 => (c + k) :: desc c k
theorem desc_length (c : Int) : ∀ k, (desc c k).length = k
  | 0 => rfl
  | k + 1 => by simp [desc, desc_length c k]
theorem desc_mem {c : Int} {l : Int} : ∀ {k : Nat}, l ∈ desc c k → c ≤ l ∧ l < c + k
  | k + 1, h => by
    rcases List.mem_cons.mp h with rfl | h
    · omega
    · have := desc_mem h; omega
theorem desc_pair (c : Int) : ∀ k, (desc c k).Pairwise (· > ·)
  | 0 => .nil
  | k + 1 => .cons (fun l h => by have := desc_mem h; omega) (desc_pair c k)
theorem desc_shift (c d : Int) : ∀ k, (desc c k).map (fun l => l - d) = desc (c - d) k
  | 0 => rfl
  | k + 1 => by simp [desc, desc_shift c d k]; omega
theorem At.length {m : List Int} {e : List Nat} {L : List Int} (h : At m e L) : e.length = L.length := by
  induction h <;> simp_all
theorem At.map {m : List Int} {e : List Nat} {L : List Int} (f : Int → Int) (h : At m e L) : At (m.map f) e (L.map f) := by
  induction h with
  | nil => exact .nil
  | cons a b ih => exact .cons (by simp [a]) ih
theorem At.inj {m m' : List Int} {e : List Nat} {L : List Int} (h : At m e L) (g : At m' e L) {p : Nat} (hp : p ∈ e) : m[p]? = m'[p]? := by
  induction h with
  | nil => cases hp
  | cons a b ih =>
    cases g with
    | cons a' b' =>
      rcases List.mem_cons.mp hp with rfl | hp
      · rw [a, a']
      · exact ih b' hp
theorem At.ext {n : Nat} {m m' : List Int} {e : List Nat} {L : List Int} (h : At m e L) (g : At m' e L) (hm : m.length = n) (hm' : m'.length = n) (full : ∀ p, p < n → p ∈ e) : m = m' := by
  apply List.ext_getElem?
  intro p
  rcases Nat.lt_or_ge p n with hp | hp
  · exact h.inj g (full p hp)
  · rw [List.getElem?_eq_none (by omega), List.getElem?_eq_none (by omega)]
theorem At.sub {m m' : List Int} {e : List Nat} {L : List Int} (h : At m e L) (g : ∀ p ∈ e, m'[p]? = m[p]?) : At m' e L := by
  induction h with
  | nil => exact .nil
  | cons a b ih => exact .cons (by rw [g _ (.head _)]; exact a) (ih fun p hp => g p (.tail _ hp))
theorem LE.after {n : Nat} {m : List Int} {e : List Nat} {L : List Int} (le : LE n e) (nd : e.Nodup) (at' : At m e L) (pw : L.Pairwise (· > ·)) : ∀ q c a b, q ∈ e → c < n → isKid q c = true → m[q]? = some a → m[c]? = some b → b < a := by
  induction at' with
  | nil => intro q c a b hq; cases hq
  | cons hp hat ih =>
    intro q c a b hq hc hk ea eb
    rw [List.nodup_cons] at nd
    rw [List.pairwise_cons] at pw
    rcases List.mem_cons.mp hq with rfl | hq
    · rw [ea] at hp; cases hp
      obtain ⟨l, h1, h2⟩ := hat.mem (le.1 c hc hk)
      rw [eb] at h2; cases h2
      exact pw.1 _ h1
    · exact ih le.2 nd.2 pw.2 q c a b hq hc hk ea eb
/-- a row of all places -/
structure Row (n : Nat) (e : List Nat) : Prop where
  len : e.length = n
  nd : e.Nodup
  lt : ∀ p ∈ e, p < n
  le : LE n e
theorem Row.full {n : Nat} {e : List Nat} (h : Row n e) {p : Nat} (hp : p < n) : p ∈ e := full_of h.nd h.len h.lt hp
theorem Row.first {n : Nat} {x : Nat} {e : List Nat} (h : Row n (x :: e)) : x = 0 := by
  apply Classical.byContradiction
  intro hx
  have hn := h.lt x (.head _)
  have hp : (x - 1) / 2 < n := by omega
  have nd := h.nd
  rw [List.nodup_cons] at nd
  rcases List.mem_cons.mp (h.full hp) with e1 | h1
  · omega
  · have : ∀ l : List Nat, LE n l → (x - 1) / 2 ∈ l → x ∈ l := by
      intro l
      induction l with
      | nil => intro _ h; cases h
      | cons y t ih =>
        intro le hm
        rcases List.mem_cons.mp hm with e1 | h1
        · refine .tail _ (le.1 x hn ?_)
          subst e1; simp [isKid]; omega
        · exact .tail _ (ih le.2 h1)
    exact nd.1 (this e h.le.2 h1)
theorem ilt_tr : ∀ a b c, ilt a b = false → ilt a c = true → ilt b c = true := by
  intro a b c; simp only [ilt, decide_eq_true_eq, decide_eq_false_iff_not]; omega
/-- a heap of labels -/
theorem Row.heap {n : Nat} {e : List Nat} {m L : List Int} (h : Row n e) (hm : m.length = n) (a : At m e L) (hL : L.Pairwise (· > ·)) {q c : Nat} {x y : Int} (hc : c = 2 * q + 1 ∨ c = 2 * q + 2) (e1 : m[q]? = some x) (e2 : m[c]? = some y) : y < x := by
  have hcn : c < n := by
    rcases Nat.lt_or_ge c m.length with h | h
    · omega
    · rw [List.getElem?_eq_none h] at e2; cases e2
  exact LE.after h.le h.nd a hL q c x y (h.full (by omega)) hcn (by simp [isKid]; omega) e1 e2
theorem Row.hb {n : Nat} {e : List Nat} {m L : List Int} (h : Row n e) (hm : m.length = n) (a : At m e L) (hL : L.Pairwise (· > ·)) (v : Int) : HB ilt (m.set 0 v) 0 := fun q c x y hq hn hc ea eb => by
  rw [List.getElem?_set_ne (by omega)] at ea
  rw [List.getElem?_set_ne (by omega)] at eb
  have := h.heap hm a hL hc ea eb
  simp only [ilt, decide_eq_false_iff_not]; omega

/-- a round's state: the old ones, the new ones -/
structure St (n : Nat) (c low : Int) (A B : List Nat) (m : List Int) : Prop where
  len : m.length = n
  row : Row n (A ++ B)
  old : At m A (desc c A.length)
  new : At m B (desc low B.length)
theorem desc_app {c low : Int} {a b : Nat} (h : low + b ≤ c) : (desc c a ++ desc low b).Pairwise (· > ·) := by
  rw [List.pairwise_append]
  exact ⟨desc_pair c a, desc_pair low b, fun x hx y hy => by have := desc_mem hx; have := desc_mem hy; omega⟩
theorem St.step {n : Nat} {c low : Int} {x : Nat} {ys B : List Nat} {m : List Int} (h : St n c low (x :: ys) B m) (hl : low + B.length < c) : x = 0 ∧ m[0]? = some (c + ys.length) ∧ St n c low (pass kin x ys).1 ((pass kin x ys).2 :: B) (siftF ilt (m.set 0 (low + B.length)) 0 (low + B.length)) := by
  have x0 : x = 0 := h.row.first
  subst x0
  have hlen : 0 < n := h.row.lt 0 (.head _)
  have len := h.len
  have lab : ys.length + 1 + B.length = n := by have := h.row.len; simp at this; omega
  have nd := h.row.nd
  simp only [List.cons_append] at nd
  have nd' := nd; rw [List.nodup_cons] at nd'
  have n0 : 0 ∉ ys := fun q => nd'.1 (List.mem_append_left _ q)
  have n1 : 0 ∉ B := fun q => nd'.1 (List.mem_append_right _ q)
  have old := h.old
  simp only [List.length_cons, desc] at old
  cases old with
  | cons hz old =>
  refine ⟨rfl, hz, ?_⟩
  have pw : (desc c (ys.length + 1) ++ desc low B.length).Pairwise (· > ·) := desc_app (by omega)
  have all := h.old.append h.new
  rw [sift_sink ilt_tr _ _ _ (by simpa [len] using hlen) (h.row.hb len all (by simpa using pw) _)]
  have s := slide (n := n) (v := low + B.length) (B := B) (LB := desc low B.length) (fun l hl => by have := desc_mem hl; omega) ys 0 (m.set 0 (low + B.length)) (desc c ys.length) (by simpa using len) hlen nd (old.set n0) (h.new.set n1) (fun l hl => by have := desc_mem hl; omega) (desc_pair c _) h.row.le
  obtain ⟨s1, s2, s3, s4, s5⟩ := s
  have perm := pass_perm' kin ys 0 B
  refine ⟨s1, ⟨?_, ?_, ?_, pass_LE _ _ h.row.le⟩, ?_, ?_⟩
  · rw [perm.length_eq]; simp; omega
  · exact perm.nodup_iff.mpr nd
  · intro p hp; exact h.row.lt p (perm.mem_iff.mp hp)
  · rw [pass_length]; exact s2
  · refine .cons s3 ((h.new.set n1).sub fun p hp => s4 p ?_)
    intro hq
    rcases List.mem_cons.mp hq with rfl | hq
    · exact n1 hp
    · exact (List.nodup_append.mp nd'.2).2.2 p hq p hp rfl

/-! Lb5 -/
/-! the labels are laid -/
def LEp (n : Nat) (fr : List Nat) : List Nat → Prop
  | [] => True
  | y :: t => (∀ c, c < n → isKid y c = true → c ∈ t ∨ c ∈ fr) ∧ LEp n fr t
def kids (n z : Nat) : List Nat := [2 * z + 1, 2 * z + 2].filter (fun c => decide (c < n))
theorem kids_mem {n z c : Nat} : c ∈ kids n z ↔ isKid z c = true ∧ c < n := by
  unfold kids isKid; simp
theorem kids_nd (n z : Nat) : (kids n z).Nodup := List.Pairwise.filter _ (by simp)
structure Lay (n : Nat) (e fr : List Nat) (m : List Int) : Prop where
  len : m.length = n
  nd : (e ++ fr).Nodup
  lt : ∀ p ∈ e ++ fr, p < n
  root : 0 ∈ e ++ fr
  par : ∀ c ∈ e ++ fr, c = 0 ∨ (c - 1) / 2 ∈ e
  le : LEp n fr e
  at' : At m e (desc (n - e.length : Int) e.length)
theorem desc_snoc (c : Int) : ∀ k, desc c k ++ [c - 1] = desc (c - 1) (k + 1)
  | 0 => by simp [desc]
  | k + 1 => by
    show (c + k) :: (desc c k ++ [c - 1]) = _
    rw [desc_snoc c k]
    show _ = (c - 1 + (k + 1 : Nat)) :: desc (c - 1) (k + 1)
    congr 1; omega
theorem erase_perm {β : Type} {l : List β} {j : Nat} {z : β} (h : l[j]? = some z) : l.Perm (z :: l.eraseIdx j) := by
  have hj : j < l.length := by
    rcases Nat.lt_or_ge j l.length with h' | h'
    · exact h'
    · rw [List.getElem?_eq_none h'] at h; cases h
  have e : l = l.take j ++ z :: l.drop (j + 1) := by
    rw [List.getElem?_eq_getElem hj] at h; cases h
    rw [← List.drop_eq_getElem_cons hj, List.take_append_drop]
  rw [List.eraseIdx_eq_take_drop_succ]
  conv => lhs; rw [e]
  exact List.perm_middle
theorem LEp.grow {n : Nat} {fr fr' : List Nat} {z : Nat} (h : ∀ c, c ∈ fr → c = z ∨ c ∈ fr') (hz : ∀ c, c < n → isKid z c = true → c ∈ fr') : ∀ {e : List Nat}, LEp n fr e → LEp n fr' (e ++ [z])
  | [], _ => ⟨fun c hc hk => .inr (hz c hc hk), trivial⟩
  | y :: t, ⟨a, b⟩ => ⟨fun c hc hk => by
      rcases a c hc hk with q | q
      · exact .inl (List.mem_append_left _ q)
      · rcases h c q with rfl | q
        · exact .inl (by simp)
        · exact .inr q, LEp.grow h hz b⟩
theorem Lay.step {n : Nat} {e fr : List Nat} {m : List Int} (h : Lay n e fr m) {j z : Nat} (hj : fr[j]? = some z) : Lay n (e ++ [z]) (fr.eraseIdx j ++ kids n z) (m.set z (n - 1 - e.length)) ∧ z < m.length := by
  have pm := erase_perm hj
  have hz : z ∈ fr := pm.mem_iff.mpr (.head _)
  have hzn : z < n := h.lt z (List.mem_append_right _ hz)
  have nd := List.nodup_append.mp h.nd
  have ndf := pm.nodup_iff.mp nd.2.1
  rw [List.nodup_cons] at ndf
  have ze : z ∉ e := fun q => nd.2.2 z q z hz rfl
  have sub : ∀ c ∈ fr.eraseIdx j, c ∈ fr := fun c hc => pm.mem_iff.mpr (.tail _ hc)
  have newk : ∀ c, isKid z c = true → c ∉ e ++ fr := fun c hk hc => by
    simp only [isKid, Bool.or_eq_true, beq_iff_eq] at hk
    rcases h.par c hc with q | q
    · omega
    · have : (c - 1) / 2 = z := by omega
      rw [this] at q; exact ze q
  refine ⟨⟨by simpa using h.len, ?_, ?_, ?_, ?_, ?_, ?_⟩, by rw [h.len]; exact hzn⟩
  · rw [List.nodup_append]
    refine ⟨?_, ?_, ?_⟩
    · rw [List.nodup_append]; exact ⟨nd.1, by simp, fun a ha b hb => by simp at hb; subst hb; exact fun q => ze (q ▸ ha)⟩
    · rw [List.nodup_append]
      refine ⟨ndf.2, kids_nd n z, fun a ha b hb q => ?_⟩
      subst q
      exact newk a (kids_mem.mp hb).1 (List.mem_append_right _ (sub a ha))
    · intro a ha b hb q
      subst q
      rcases List.mem_append.mp ha with ha | ha
      · rcases List.mem_append.mp hb with hb | hb
        · exact nd.2.2 a ha a (sub a hb) rfl
        · exact newk a (kids_mem.mp hb).1 (List.mem_append_left _ ha)
      · simp at ha; subst ha
        rcases List.mem_append.mp hb with hb | hb
        · exact ndf.1 hb
        · have := (kids_mem.mp hb).1; simp [isKid] at this; omega
  · intro p hp
    simp only [List.mem_append, List.mem_singleton] at hp
    rcases hp with (hp | rfl) | hp | hp
    · exact h.lt p (List.mem_append_left _ hp)
    · exact hzn
    · exact h.lt p (List.mem_append_right _ (sub p hp))
    · exact (kids_mem.mp hp).2
  · rcases List.mem_append.mp h.root with q | q
    · simp [q]
    · rcases List.mem_cons.mp (pm.mem_iff.mp q) with q | q
      · simp [q]
      · simp [q]
  · intro c hc
    simp only [List.mem_append, List.mem_singleton] at hc
    rcases hc with (hc | rfl) | hc | hc
    · rcases h.par c (List.mem_append_left _ hc) with q | q
      · exact .inl q
      · exact .inr (List.mem_append_left _ q)
    · rcases h.par c (List.mem_append_right _ hz) with q | q
      · exact .inl q
      · exact .inr (List.mem_append_left _ q)
    · rcases h.par c (List.mem_append_right _ (sub c hc)) with q | q
      · exact .inl q
      · exact .inr (List.mem_append_left _ q)
    · have := (kids_mem.mp hc).1
      simp only [isKid, Bool.or_eq_true, beq_iff_eq] at this
      refine .inr (List.mem_append_right _ ?_)
      simp; omega
  · refine LEp.grow (fun c hc => ?_) (fun c hc hk => List.mem_append_right _ (kids_mem.mpr ⟨hk, hc⟩)) h.le
    rcases List.mem_cons.mp (pm.mem_iff.mp hc) with q | q
    · exact .inl q
    · exact .inr (List.mem_append_left _ q)
  · have a := (h.at'.set (v := (n - 1 - e.length : Int)) ze).append (At.cons (m := m.set z (n - 1 - e.length)) (p := z) (l := (n - 1 - e.length : Int)) (by rw [List.getElem?_set_self (by rw [h.len]; exact hzn)]) .nil)
    have ee : (n - 1 - e.length : Int) = (n - e.length : Int) - 1 := by omega
    rw [ee, desc_snoc] at a
    rw [ee]
    simp only [List.length_append, List.length_cons, List.length_nil]
    have e2 : (n : Int) - ((e.length + (0 + 1) : Nat) : Int) = (n - e.length : Int) - 1 := by omega
    rw [e2]; exact a
theorem Lay.closed {n : Nat} {fr e : List Nat} (hf : fr = []) : LEp n fr e → ∀ q ∈ e, ∀ c, c < n → isKid q c = true → c ∈ e := by
  subst hf
  induction e with
  | nil => intro _ q hq; cases hq
  | cons y t ih =>
    intro h q hq c hc hk
    rcases List.mem_cons.mp hq with rfl | hq
    · rcases h.1 c hc hk with h | h
      · exact .tail _ h
      · cases h
    · exact .tail _ (ih h.2 q hq c hc hk)
theorem Lay.more {n : Nat} {e fr : List Nat} {m : List Int} (h : Lay n e fr m) (hk : e.length < n) : fr ≠ [] := by
  intro hf
  have cl := Lay.closed hf h.le
  have root : 0 ∈ e := by have := h.root; rw [hf] at this; simpa using this
  have all : ∀ q, q < n → q ∈ e := by
    intro q
    induction q using Nat.strongRecOn with
    | ind q ih =>
      intro hq
      rcases Nat.eq_zero_or_pos q with rfl | hp
      · exact root
      · exact cl ((q - 1) / 2) (ih _ (by omega) (by omega)) q hq (by simp [isKid]; omega)
  have := length_le_of_sub (l := List.range n) (l' := e) List.nodup_range (fun x hx => all x (by simpa using hx))
  simp at this; omega
theorem Lay.done {n : Nat} {e fr : List Nat} {m : List Int} (h : Lay n e fr m) (hk : e.length = n) : Row n e ∧ At m e (desc 0 n) := by
  have nd := List.nodup_append.mp h.nd
  have full : ∀ p, p < n → p ∈ e := fun p hp => full_of nd.1 hk (fun p hp => h.lt p (List.mem_append_left _ hp)) hp
  have hf : ∀ c ∈ fr, False := fun c hc => nd.2.2 c (full c (h.lt c (List.mem_append_right _ hc))) c hc rfl
  have le : ∀ l, LEp n fr l → LE n l := by
    intro l
    induction l with
    | nil => intro _; trivial
    | cons y t ih => intro q; exact ⟨fun c hc hk => (q.1 c hc hk).elim id (fun z => (hf c z).elim), ih q.2⟩
  refine ⟨⟨hk, nd.1, fun p hp => h.lt p (List.mem_append_left _ hp), le e h.le⟩, ?_⟩
  have := h.at'
  rw [hk] at this
  have e0 : (n : Int) - n = 0 := by omega
  rw [e0] at this; exact this
theorem Lay.start {n : Nat} (hn : 0 < n) : Lay n [] [0] (List.replicate n 0) := by
  refine ⟨by simp, by simp, by simp; omega, by simp, by simp, trivial, .nil⟩

/-! Vc1 -/
theorem newL_of {xs : List V} {Q : V → Hp → Prop} {σ : Hp} (hl : xs.length ≤ BIG) (q : ∀ b τ, Ext σ τ → σ b = none → τ b = some (.list xs) → Q (.ref b) τ) : newL xs Q σ :=
  ⟨hl, fun a ha => q a _ (Ext.upd _ ha) ha (upd_same _ _ _)⟩
theorem Ext.updNew {σ τ : Hp} (h : Ext σ τ) {b : Addr} (hb : σ b = none) (o : AObj) : Ext σ (Mine.upd τ b o) := fun a p e => by
  rw [upd_ne]
  · exact h a p e
  · rintro rfl; rw [hb] at e; cases e
theorem Ext.ne {σ τ : Hp} (h : Ext σ τ) {a b : Addr} {o : AObj} (ha : σ a = some o) (hb : σ b = none) : a ≠ b := by rintro rfl; rw [ha] at hb; cases hb
theorem ne_of {σ : Hp} {a b : Addr} {o : AObj} (ha : σ a = some o) (hb : σ b = none) : a ≠ b := by rintro rfl; rw [ha] at hb; cases hb

def ps_heap : List PS := [.assign (.name 1) (.bin .Mult (.list [(.int 0)]) (.call .len [(.var 0)])),
  .assign (.name 2) (.list [(.int 0)]),
  .for (.tup [3, 4]) .enum (.var 0) [.assign (.name 5) (.meth .pop (.var 2) [(.bin .Mod (.var 4) (.call .len [(.var 2)]))]), .setitem (.var 1) (.var 5) (.bin .Sub (.bin .Sub (.call .len [(.var 0)]) (.int 1)) (.var 3)), .expr (.meth .extend (.var 2) [(.comp [none, none, some 0] (.var 1) (.name 1) .plain (.tuple [(.bin .Add (.bin .Mult (.int 2) (.var 5)) (.int 1)), (.bin .Add (.bin .Mult (.int 2) (.var 5)) (.int 2))]) [(.cmp .Lt (.var 1) (.call .len [(.var 2)]))])])],
  .ret (.var 1)]
def heapC (args : List V) (Q : V → Hp → Prop) (σ : Hp) : Prop :=
  ∃ (a : Addr) (ds : List Int), args = [.ref a] ∧ σ a = some (.list (ds.map .int)) ∧ 0 < ds.length ∧ ds.length ≤ 1000 ∧
    ∀ (first : List Int) (e : List Nat) b τ, first.length = ds.length → Row ds.length e → At first e (desc 0 ds.length) → Ext σ τ → σ b = none → τ b = some (.list (first.map .int)) → Q (.ref b) τ
theorem map_erase {α β : Type} (f : α → β) : ∀ (l : List α) (j : Nat), (l.eraseIdx j).map f = (l.map f).eraseIdx j
  | [], j => by simp
  | x :: t, 0 => by simp
  | x :: t, j + 1 => by simp [map_erase f t j]
def natV (n : Nat) : V := .int n
theorem kidsV (n z : Nat) : ([V.int ((2 * z + 1 : Nat) : Int), V.int ((2 * z + 2 : Nat) : Int)] : List V).filterMap (fun v => match v with | .int i => if i < (n : Int) then some (V.int i) else none | _ => none) = (kids n z).map natV := by
  unfold kids natV
  by_cases h1 : 2 * z + 1 < n <;> by_cases h2 : 2 * z + 2 < n
  all_goals
    have a1 : (((2 * z + 1 : Nat) : Int) < (n : Int)) ↔ 2 * z + 1 < n := by omega
    have a2 : (((2 * z + 2 : Nat) : Int) < (n : Int)) ↔ 2 * z + 2 < n := by omega
    simp only [List.filterMap_cons, List.filterMap_nil, List.filter_cons, List.filter_nil, a1, a2, h1, h2]
    simp
theorem heap_v (Φ : Fns) (args : List V) (Q : V → Hp → Prop) (σ : Hp) (F : Frm) (h : heapC args Q σ) (hF : F = args.map some ++ [none, none, none, none, none]) : vSs Φ ps_heap (retV Q) F σ := by
  obtain ⟨a, ds, rfl, ha, hpos, hlen, q⟩ := h
  subst hF
  have hbig : ds.length ≤ BIG := by unfold BIG; omega
  unfold ps_heap
  walk_at "go"
  refine newL_of (by decide) fun b0 τ0 x0 f0 g0 => ?_
  refine call_len (listAt_list (x0 _ _ ha)) ?_
  refine ⟨_, g0, by omega, newL_of (by simpa using hbig) fun hb τ1 x1 f1 g1 => ?_⟩
  walk_at "vc"
  walk_at "go"
  refine newL_of (by decide) fun fb τ2 x2 f2 g2 => ?_
  walk_at "vc"
  walk_at "go"
  have x01 := x0.trans x1
  have x02 := x01.trans x2
  have nfh : fb ≠ hb := (ne_of g1 f2).symm
  have fhb : σ hb = none := x0.fresh f1
  have ffb : σ fb = none := x01.fresh f2
  refine ⟨⟨_, x02 _ _ ha⟩, ?_⟩
  refine for_rule (xs := enumV (ds.map .int)) (fun k F τ => ∃ e fr m e3 e4 e5, F = [some (.ref a), some (.ref hb), some (.ref fb), e3, e4, e5] ∧ Ext σ τ ∧ τ hb = some (.list (m.map V.int)) ∧ τ fb = some (.list (fr.map natV)) ∧ Lay ds.length e fr m ∧ e.length = k ∧ fr.length ≤ 2 * k + 1) ?_ ?_ ?_ ?_
  · have := yields_enm (H := fun τ => ∃ (i : Nat) (F : Frm), ∃ e fr m e3 e4 e5, F = [some (.ref a), some (.ref hb), some (.ref fb), e3, e4, e5] ∧ Ext σ τ ∧ τ hb = some (.list (m.map V.int)) ∧ τ fb = some (.list (fr.map natV)) ∧ Lay ds.length e fr m ∧ e.length = i ∧ fr.length ≤ 2 * i + 1) (a := a) (xs := ds.map .int) (fun τ ⟨i, F, e, fr, m, e3, e4, e5, _, x, _⟩ => listAt_list (x _ _ ha)) _ 0 rfl
    simpa using this
  · refine ⟨[], [0], List.replicate ds.length 0, _, _, _, rfl, x02, ?_, g2, Lay.start hpos, rfl, by simp⟩
    rw [x2 _ _ g1]; simp
  · rintro k x F τ hx ⟨e, fr, m, e3, e4, e5, rfl, ext, hh, hf, lay, rfl, hfl⟩ K k1 k2 k3 k4
    have hk : e.length < ds.length := by
      rcases Nat.lt_or_ge e.length (enumV (ds.map V.int)).length with h | h
      · simpa [enumV] using h
      · rw [List.getElem?_eq_none h] at hx; cases hx
    have hx' : x = .tup [.int (e.length : Nat), .int (ds[e.length]'hk)] := by
      unfold enumV at hx
      simp [hk] at hx
      exact hx.symm
    subst hx'
    have hne := lay.more hk
    have hfl0 : 0 < fr.length := List.length_pos_iff.mpr hne
    walk_at "vc"
    refine ⟨rfl, ?_⟩
    walk_at "go"
    refine ⟨⟨_, _, rfl, hf⟩, ?_⟩
    refine call_len (listAt_list hf) ?_
    walk_at "vc"
    simp only [List.length_map]
    refine ⟨by omega, ?_⟩
    generalize hj : (ds[e.length]'hk).fmod (fr.length : Int) = j
    have j0 : 0 ≤ j := by rw [← hj]; exact Int.fmod_nonneg_of_pos _ (by omega)
    have j1 : j < fr.length := by rw [← hj]; exact Int.fmod_lt_of_pos _ (by omega)
    have hjn : j.toNat < fr.length := by omega
    refine ⟨fr.map natV, natV fr[j.toNat], hf, j0, by simp [List.getElem?_eq_getElem hjn], ?_⟩
    have hz : fr[j.toNat]? = some fr[j.toNat] := List.getElem?_eq_getElem hjn
    generalize hzz : fr[j.toNat] = z at *
    obtain ⟨lay', hzl⟩ := lay.step hz
    walk_at "vc"
    walk_at "go"
    have ha1 : a ≠ fb := ne_of ha ffb
    have ha2 : a ≠ hb := ne_of ha fhb
    refine call_len (listAt_list (xs := ds.map .int) (by rw [upd_ne _ _ ha1]; exact ext _ _ ha)) ?_
    walk_at "vc"
    unfold natV
    refine opSet_list (xs := m.map .int) (by rw [upd_ne _ _ nfh.symm]; exact hh) (by simpa using hzl) ?_
    walk_at "vc"
    walk_at "go"
    refine ⟨⟨_, _, rfl, by rw [upd_ne _ _ nfh, upd_same]⟩, ?_⟩
    refine ⟨mul_l, mul_l, big_of (by simp), ?_⟩
    refine comp_rule (xs := [V.int ((2 * z + 1 : Nat) : Int), V.int ((2 * z + 2 : Nat) : Int)]) (fun v => match v with | .int i => if i < (ds.length : Int) then some (V.int i) else none | _ => none) (big_of (by simp)) ?_ ?_ ?_
    · exact yields_vals _ _
    · intro x hx τ' ex K' N' hK hN
      have hl : listAt τ' a = some (ds.map .int) := ex.listAt (listAt_list (by rw [upd_ne _ _ ha2, upd_ne _ _ ha1]; exact ext _ _ ha))
      have hx' : ∃ i, x = .int i := by
        simp only [List.mem_cons, List.not_mem_nil, or_false] at hx
        rcases hx with rfl | rfl <;> exact ⟨_, rfl⟩
      obtain ⟨i, rfl⟩ := hx'
      walk_at "vc"
      refine call_len hl ?_
      walk_at "vc"
      simp only [List.length_map]
      by_cases c : i < (ds.length : Int)
      · simp only [c, decide_true, if_true]
        exact hK _ _ (by simp [c]) .rfl
      · simp only [c, decide_false]
        exact hN (by simp [c]) _ .rfl
    · intro τ' ex b hb0
      rw [kidsV]
      have nb1 : fb ≠ b := ne_of (o := .list (List.map natV (fr.eraseIdx j.toNat))) (ex _ _ (by rw [upd_ne _ _ nfh, upd_same, map_erase]; rfl)) hb0
      have nb2 : hb ≠ b := ne_of (ex _ _ (upd_same _ _ _)) hb0
      refine ⟨_, _, by rw [upd_ne _ _ nb1]; exact ex _ _ (by rw [upd_ne _ _ nfh, upd_same]), upd_same _ _ _, ?_, ?_⟩
      · simp only [List.length_eraseIdx, List.length_map]
        have : (kids ds.length z).length ≤ 2 := by unfold kids; exact Nat.le_trans (List.length_filter_le ..) (by simp)
        unfold BIG; split <;> omega
      · walk_at "vc"
        refine k1 _ _ ⟨e ++ [z], fr.eraseIdx j.toNat ++ kids ds.length z, m.set z (ds.length - 1 - e.length), _, _, _, rfl, ?_, ?_, ?_, lay', by simp, ?_⟩
        · have fb0 : σ b = none := (((ext.updNew ffb _).updNew fhb _).trans ex).fresh hb0
          exact ((((ext.updNew ffb _).updNew fhb _).trans ex).updNew fb0 _).updNew ffb _
        · rw [upd_ne _ _ nfh.symm, upd_ne _ _ nb2, ex _ _ (upd_same _ _ _)]
          rw [List.map_set, List.length_map]
        · rw [upd_same, List.map_append, map_erase]; rfl
        · have : (kids ds.length z).length ≤ 2 := by unfold kids; exact Nat.le_trans (List.length_filter_le ..) (by simp)
          simp only [List.length_append, List.length_eraseIdx, if_pos hjn, List.length_cons, List.length_nil]; omega
  · rintro F τ ⟨e, fr, m, e3, e4, e5, rfl, ext, hh, hf, lay, hl, hfl⟩
    walk_at "vc"
    walk_at "go"
    have hl' : e.length = ds.length := by rw [hl]; simp [enumV]
    obtain ⟨r, at'⟩ := lay.done hl'
    exact q m e hb τ lay.len r at' ext fhb hh

/-! Vc2 -/
def ExtB (a : Addr) (σ τ : Hp) : Prop := ∀ x o, x ≠ a → σ x = some o → τ x = some o
theorem ExtB.trans {a : Addr} {σ τ ρ : Hp} (h : ExtB a σ τ) (g : ExtB a τ ρ) : ExtB a σ ρ := fun x o n e => g x o n (h x o n e)
theorem ExtB.upd {a : Addr} {σ τ : Hp} (h : ExtB a σ τ) (o : AObj) : ExtB a σ (Mine.upd τ a o) := fun x p n e => by rw [upd_ne _ _ n]; exact h x p n e
theorem ExtB.updNew {a b : Addr} {σ τ : Hp} (h : ExtB a σ τ) (hb : σ b = none) (o : AObj) : ExtB a σ (Mine.upd τ b o) := fun x p n e => by
  rw [upd_ne _ _ (ne_of e hb)]; exact h x p n e
theorem ExtB.of {a : Addr} {σ τ : Hp} (h : Ext σ τ) : ExtB a σ τ := fun x o _ e => h x o e

def ps_round : List PS := [.assign (.name 2) (.list []),
  .for (.name 3) .plain (.call .range [(.call .len [(.var 0)])]) [.expr (.meth .append (.var 2) [(.sub (.var 0) (.int 0))]), .setitem (.var 0) (.int 0) (.bin .Add (.var 1) (.var 3)), .expr (.ucall 1 [(.var 0), (.int 0)])],
  .ret (.var 2)]
def roundC (args : List V) (Q : V → Hp → Prop) (σ : Hp) : Prop :=
  ∃ (a : Addr) (low c : Int) (n : Nat) (e : List Nat) (m : List Int), args = [.ref a, .int low] ∧ σ a = some (.list (m.map .int)) ∧ m.length = n ∧ n ≤ 1000 ∧ Row n e ∧ At m e (desc c n) ∧ low + n ≤ c ∧
    ∀ (m' : List Int) b τ, m'.length = n → Row n (evac kin n e) → At m' (evac kin n e) (desc low n) → ExtB a σ τ → τ a = some (.list (m'.map .int)) → σ b = none → τ b = some (.list ((desc c n).map .int)) → Q (.ref b) τ
theorem desc_split (c : Int) : ∀ (n k : Nat), k ≤ n → desc c n = (desc c n).take (n - k) ++ desc c k
  | 0, k, h => by have : k = 0 := by omega
                  subst this; rfl
  | n + 1, k, h => by
    rcases Nat.lt_or_ge n k with q | q
    · have : k = n + 1 := by omega
      subst this; simp
    · have e : n + 1 - k = (n - k) + 1 := by omega
      rw [e]
      show (c + n) :: desc c n = (c + n) :: ((desc c n).take (n - k) ++ desc c k)
      rw [← desc_split c n k q]
theorem round_v (Φ : Fns) (hΦ : ∀ args Q σ, siftupC args Q σ → Φ 1 args Q σ) (args : List V) (Q : V → Hp → Prop) (σ : Hp) (F : Frm) (h : roundC args Q σ) (hF : F = args.map some ++ [none, none]) : vSs Φ ps_round (retV Q) F σ := by
  obtain ⟨a, low, c, n, e, m, rfl, ha, hm, hn, hrow, hat, hlow, q⟩ := h
  subst hF
  unfold ps_round
  walk_at "go"
  refine newL_of (big_of (by simp)) fun tb τ0 x0 f0 g0 => ?_
  walk_at "vc"
  walk_at "go"
  refine call_len (listAt_list (x0 _ _ ha)) ?_
  walk_at "vc"
  rw [List.length_map, hm]
  have nat' : a ≠ tb := ne_of ha f0
  refine ⟨rok_of (by omega) (by omega) (by omega) (by omega), ?_⟩
  have rl : rlen 0 (n : Int) 1 = n := by simp [rlen]
  rw [rl]
  refine for_rule (xs := (List.range n).map fun (i : Nat) => V.int (0 + (i : Int) * 1)) (fun k F τ => ∃ A B m e3 told, F = [some (.ref a), some (.int low), some (.ref tb), e3] ∧ ExtB a σ τ ∧ τ a = some (.list (m.map V.int)) ∧ τ tb = some (.list (told.map V.int)) ∧ St n c low A B m ∧ B.length = k ∧ k ≤ n ∧ evac kin n e = evac kin A.length A ++ B ∧ told.length = k ∧ told ++ desc c A.length = desc c n) (yields_rng _ _ _ _) ?_ ?_ ?_
  · exact ⟨e, [], m, _, [], rfl, ExtB.of x0, x0 _ _ ha, g0, ⟨hm, by simpa using hrow, by rw [hrow.len]; exact hat, .nil⟩, rfl, by omega, by rw [hrow.len]; simp, rfl, by rw [hrow.len]; rfl⟩
  · rintro k x F τ hx ⟨A, B, m, e3, told, rfl, ext, hh, ht, st, rfl, hk, hev, htl, htold⟩ K k1 k2 k3 k4
    have hk' : B.length < n := by
      rcases Nat.lt_or_ge B.length ((List.range n).map fun (i : Nat) => V.int (0 + (i : Int) * 1)).length with h | h
      · simpa using h
      · rw [List.getElem?_eq_none h] at hx; cases hx
    have hx' : x = .int (B.length : Nat) := by
      simp [hk'] at hx; exact hx.symm
    subst hx'
    have hab : A.length + B.length = n := by have := st.row.len; simpa using this
    cases A with
    | nil => simp at hab; omega
    | cons y ys =>
    obtain ⟨rfl, h0, st'⟩ := st.step (by omega)
    walk_at "vc"
    walk_at "go"
    refine ⟨⟨_, _, rfl, ht⟩, ?_⟩
    refine opSub_list hh (k := 0) (x := .int (c + ys.length)) (by simp [h0]) ?_
    refine ⟨told.map V.int, ht, by rw [List.length_map]; exact Nat.lt_of_lt_of_le (by omega) (big_of (Nat.le_refl _)), ?_⟩
    walk_at "vc"
    walk_at "go"
    refine opSet_list (k := 0) (xs := m.map .int) (by rw [upd_ne _ _ nat']; exact hh) (by simp [st.len]; omega) ?_
    walk_at "vc"
    walk_at "go"
    refine hΦ _ _ _ ⟨Int, V.int, ilt, fun _ => True, a, m.set 0 (low + B.length), 0, low + B.length, rfl, by rw [upd_same, List.map_set], by rw [List.getElem?_set_self (by rw [st.len]; omega)], fun _ _ => trivial, LtOn.int _ _, by rw [List.length_set, st.len]; exact big_of hn, ?_⟩
    rw [upd_upd]
    walk_at "vc"
    refine k1 _ _ ⟨_, _, _, _, told ++ [c + ys.length], rfl, ?_, upd_same _ _ _, ?_, st', by simp, by omega, ?_, by simp [htl], ?_⟩
    · exact (ext.updNew f0 _).upd _
    · rw [upd_ne _ _ nat'.symm, upd_same]; simp
    · rw [hev, List.length_cons]
      show (evac kin ys.length (pass kin 0 ys).1 ++ [(pass kin 0 ys).2]) ++ B = _
      rw [pass_length]; simp
    · rw [← htold, List.length_cons, pass_length, List.append_assoc]; rfl
  · rintro F τ ⟨A, B, m, e3, told, rfl, ext, hh, ht, st, hb, hk, hev, htl, htold⟩
    walk_at "vc"
    walk_at "go"
    have hab : A.length + B.length = n := by have := st.row.len; simpa using this
    have hB : B.length = n := by rw [hb]; simp
    have hA : A = [] := List.length_eq_zero_iff.mp (by omega)
    subst hA
    have e1 : evac kin n e = B := by rw [hev]; rfl
    have e2 : told = desc c n := by rw [← htold]; simp [desc]
    have r := st.row
    simp only [List.nil_append] at r
    have nw := st.new
    rw [hB] at nw
    exact q m tb τ st.len (by rw [e1]; exact r) (by rw [e1]; exact nw) ext hh f0 (by rw [ht, e2])

/-! Vc3 -/
def pickI {α : Type} (xs : List α) (lo hi st : Option Int) : List α :=
  (sliceRange (sliceBounds lo hi st xs.length).1 (sliceBounds lo hi st xs.length).2.1 (sliceBounds lo hi st xs.length).2.2).filterMap (xs[·]?)
theorem pick_map {α : Type} (f : α → V) (xs : List α) (lo hi st : Option Int) : pickL (xs.map f) lo hi st = (pickI xs lo hi st).map f := by
  unfold pickL pickI
  rw [List.length_map]
  generalize sliceRange _ _ _ = ks
  induction ks with
  | nil => rfl
  | cons k ks ih =>
    simp only [List.filterMap_cons, List.getElem?_map]
    cases xs[k]? with
    | none => simpa using ih
    | some x => simpa using ih
theorem pick_len {α : Type} (xs : List α) (k : Int) (s : Int) (hk : 0 ≤ k) (hs : 0 < s) : (pickI xs (some k) none (some s)).length ≤ xs.length := by
  unfold pickI
  refine Nat.le_trans (List.length_filterMap_le ..) ?_
  simp only [sliceBounds, sliceRange, Option.getD_some, List.length_map, List.length_range]
  have h1 : s > 0 := hs
  have h2 : ¬ k < 0 := by omega
  simp only [h1, h2, if_true, if_false]
  split
  · rename_i h
    have : ((xs.length : Int) - max 0 (min k (xs.length : Int)) + s - 1) / s ≤ xs.length := by
      have h0 : 0 ≤ max 0 (min k (xs.length : Int)) := by omega
      generalize max 0 (min k (xs.length : Int)) = b at *
      refine Int.ediv_le_of_le_mul hs ?_
      have : 0 ≤ ((xs.length : Int) - 1) * (s - 1) := Int.mul_nonneg (by omega) (by omega)
      have e : ((xs.length : Int) - 1) * (s - 1) = (xs.length : Int) * s - xs.length - s + 1 := by rw [Int.sub_mul, Int.mul_sub]; omega
      omega
    omega
  · simp
/-- a sum over every so many-th number -/
theorem slice_sum {σ : Hp} {l : Addr} {ns : List Int} {k s : Int} {Q : V → Hp → Prop} (h : listAt σ l = some (ns.map .int)) (hb : ns.length ≤ BIG) (hk : 0 ≤ k) (hs : 0 < s) (q : ∀ τ, Ext σ τ → Q (.int (pickI ns (some k) none (some s)).sum) τ) :
    opSlice (.ref l) (.int k) .none (.int s) (fun v τ => opCall .sum [v] Q τ) σ := by
  refine ⟨_, h, ?_⟩
  show some s ≠ some 0 ∧ newL (pickL (ns.map V.int) (some k) none (some s)) _ σ
  refine ⟨by simp; omega, ?_⟩
  rw [pick_map]
  refine newL_of (by rw [List.length_map]; exact Nat.le_trans (pick_len ns k s hk hs) hb) fun b τ x f g => ?_
  exact ⟨_, listAt_list g, q τ x⟩
theorem dats_ints (σ : Hp) : ∀ xs : List Int, Dats σ (xs.map .int) (xs.map PyData.int)
  | [] => .nil
  | x :: xs => .cons (.int x) (dats_ints σ xs)
theorem depth_ints : ∀ xs : List Int, (PyData.list (xs.map PyData.int)).depth ≤ 2 := by
  intro xs
  unfold PyData.depth
  have : PyData.depthAll (xs.map PyData.int) ≤ 1 := by
    induction xs with
    | nil => simp [PyData.depthAll]
    | cons x xs ih => simp [PyData.depthAll, PyData.depth]; omega
  omega
theorem ne_refl {σ : Hp} {a b : Addr} {xs : List Int} {Q : V → Hp → Prop} (ha : listAt σ a = some (xs.map .int)) (hb : listAt σ b = some (xs.map .int)) (q : Q (.bool false) σ) : opCmp .NotEq (.ref a) (.ref b) Q σ := by
  refine ⟨.list (xs.map .int), .list (xs.map .int), .list ha (dats_ints σ xs), .list hb (dats_ints σ xs), Nat.le_trans (depth_ints xs) (by decide), ?_⟩
  have : PyData.eqv (.list (xs.map PyData.int)) (.list (xs.map PyData.int)) = true := PySem.SeqAt.eqv_refl _ (Dat.lay (σ := σ) (.list ha (dats_ints σ xs)))
  rw [this]; exact q
theorem eq_refl' {σ : Hp} {a b : Addr} {xs : List Int} {Q : V → Hp → Prop} (ha : listAt σ a = some (xs.map .int)) (hb : listAt σ b = some (xs.map .int)) (q : Q (.bool true) σ) : opCmp .Eq (.ref a) (.ref b) Q σ := by
  refine ⟨.list (xs.map .int), .list (xs.map .int), .list ha (dats_ints σ xs), .list hb (dats_ints σ xs), Nat.le_trans (depth_ints xs) (by decide), ?_⟩
  have : PyData.eqv (.list (xs.map PyData.int)) (.list (xs.map PyData.int)) = true := PySem.SeqAt.eqv_refl _ (Dat.lay (σ := σ) (.list ha (dats_ints σ xs)))
  rw [this]; exact q
theorem rvals_desc (c : Int) : ∀ n : Nat, rvals (c + n - 1) (c - 1) (-1) = (desc c n).map .int := by
  intro n
  have hl : rlen (c + n - 1) (c - 1) (-1) = n := by unfold rlen; simp; omega
  unfold rvals
  rw [hl]
  clear hl
  induction n with
  | zero => rfl
  | succ n ih =>
    rw [List.range_succ_eq_map, List.map_cons, List.map_map]
    show _ = V.int (c + n) :: (desc c n).map V.int
    rw [← ih]
    refine congr (congrArg _ ?_) (List.map_congr_left fun i _ => ?_)
    · congr 1; simp; omega
    · show V.int _ = V.int _
      congr 1
      have : ((i.succ : Nat) : Int) = i + 1 := rfl
      rw [this]; simp; omega
theorem fm_some {α β : Type} {g : α → Option β} {f : α → β} : ∀ (l : List α), (∀ x ∈ l, g x = some (f x)) → l.filterMap g = l.map f
  | [], _ => rfl
  | x :: t, h => by rw [List.filterMap_cons_some (h x (.head _)), List.map_cons, fm_some t fun y hy => h y (.tail _ hy)]
/-- the sums of the script -/
def sumG (ns : List Int) (s : Int) (v : V) : Option V := match v with | .int k => some (.int (pickI ns (some k) none (some s)).sum) | _ => none
theorem sums_ints (ns : List Int) (s : Int) (c : Int) (d : Int) : ∀ n : Nat, ∃ ws : List Int, ws.length = n ∧ ((List.range n).map fun (i : Nat) => V.int (c + (i : Int) * d)).filterMap (sumG ns s) = ws.map .int := by
  intro n
  refine ⟨(List.range n).map fun (i : Nat) => (pickI ns (some (c + (i : Int) * d)) none (some s)).sum, by simp, ?_⟩
  rw [List.filterMap_map, List.map_map]
  exact fm_some _ fun a _ => rfl

/-! Vc01 -/
def ps_law01 : List PS := [.assign (.name 1) (.bin .Add (.bin .Add (.list [(.int 0)]) (.comp [none, none, some 0] (.call .sum [(.slice (.var 2) (some (.var 1)) none (some (.int 30)))]) (.name 1) .plain (.call .range [(.call .min [(.int 30), (.call .len [(.var 0)])])]) [])) (.list [(.int 3), (.int 9), (.int 5), (.int 0)])),
  .assign (.name 2) (.call .len [(.var 1)]),
  .assign (.name 3) (.ucall 2 [(.var 1)]),
  .assign (.name 4) (.call .list [(.var 3)]),
  .ifs (.cmp .NotEq (.ucall 3 [(.var 4), (.neg (.var 2))]) (.call .list [(.call .range [(.bin .Sub (.var 2) (.int 1)), (.neg (.int 1)), (.neg (.int 1))])])) [.ret (.bool false)] [],
  .ifs (.cmp .NotEq (.comp [none, none, some 4] (.var 1) (.name 1) .plain (.call .range [(.int 1), (.var 2)]) [(.cmp .Lt (.sub (.var 2) (.bin .Sub (.bin .FloorDiv (.bin .Add (.var 1) (.int 1)) (.int 2)) (.int 1))) (.sub (.var 2) (.var 1)))]) (.list [])) [.ret (.bool false)] [],
  .ifs (.cmp .NotEq (.ucall 3 [(.var 4), (.bin .Mult (.neg (.int 2)) (.var 2))]) (.call .list [(.call .range [(.neg (.int 1)), (.bin .Sub (.neg (.var 2)) (.int 1)), (.neg (.int 1))])])) [.ret (.bool false)] [],
  .ret (.cmp .Eq (.var 4) (.comp [none, none, some 2] (.bin .Sub (.var 1) (.bin .Mult (.int 2) (.var 2))) (.name 1) .plain (.var 3) []))]

theorem law01_v (Φ : Fns) (h2 : ∀ args Q σ, heapC args Q σ → Φ 2 args Q σ) (h3 : ∀ args Q σ, roundC args Q σ → Φ 3 args Q σ) (l : Addr) (ns : List Int) (hns : ns.length ≤ 63) (σ : Hp) (hl : listAt σ l = some (ns.map .int)) :
    vSs Φ ps_law01 (retV fun v _ => v = .bool true) [some (.ref l), none, none, none, none] σ := by
  have hbn : ns.length ≤ BIG := by unfold BIG; omega
  unfold ps_law01
  walk_at "go"
  refine newL_of (big_of (by simp)) fun b0 τ0 x0 f0 g0 => ?_
  refine call_len (x0.listAt hl) ?_
  rw [List.length_map]
  walk_at "vc"
  generalize hN : (if ((ns.length : Nat) : Int) < 30 then ((ns.length : Nat) : Int) else 30) = N
  have hN0 : 0 ≤ N ∧ N ≤ 30 := by rw [← hN]; split <;> omega
  refine ⟨rok_of hN0.1 (by omega) (by omega) (by omega), ?_⟩
  have rl : rlen 0 N 1 = N.toNat := by simp [rlen]
  rw [rl]
  obtain ⟨ws, wl, we⟩ := sums_ints ns 30 0 1 N.toNat
  refine comp_rule (xs := (List.range N.toNat).map fun (i : Nat) => V.int (0 + (i : Int) * 1)) (sumG ns 30) (big_of (by simp; omega)) (yields_rng _ _ _ _) ?_ ?_
  · intro x hx τ ex K N' hK hN
    simp only [List.mem_map] at hx
    obtain ⟨i, hi, rfl⟩ := hx
    walk_at "vc"
    simp only [if_true]
    refine slice_sum ((x0.trans ex).listAt hl) hbn (by omega) (by omega) fun τ' ex' => hK _ _ rfl ex'
  rw [we]
  intro τ1 x1 b1 f1
  generalize hτ2 : upd τ1 b1 (.list (ws.map .int)) = τ2
  have x2 : Ext τ1 τ2 := by rw [← hτ2]; exact Ext.upd _ f1
  have g2 : τ2 b1 = some (.list (ws.map .int)) := by rw [← hτ2]; exact upd_same _ _ _
  have x02 : Ext τ0 τ2 := x1.trans x2
  refine ⟨_, _, listAt_list (x02 _ _ g0), listAt_list g2, newL_of (big_of (by simp; omega)) fun b3 τ3 x3 f3 g3 => ?_⟩
  walk_at "vc"
  refine newL_of (big_of (by simp)) fun b4 τ4 x4 f4 g4 => ?_
  refine ⟨_, _, listAt_list (x4 _ _ g3), listAt_list g4, newL_of (big_of (by simp; omega)) fun db τ5 x5 f5 g5 => ?_⟩
  obtain ⟨ds, hds, dlen⟩ : ∃ ds : List Int, [V.int 0] ++ ws.map .int ++ [V.int 3, V.int 9, V.int 5, V.int 0] = ds.map .int ∧ ds.length = ws.length + 5 := ⟨[0] ++ ws ++ [3, 9, 5, 0], by simp, by simp⟩
  rw [hds] at g5
  walk_at "vc"
  walk_at "go"
  refine call_len (listAt_list g5) ?_
  walk_at "vc"
  simp only [List.length_map]
  generalize hn : ds.length = n at *
  have hn1 : 5 ≤ n ∧ n ≤ 35 := by omega
  walk_at "go"
  refine h2 _ _ _ ⟨db, ds, rfl, g5, by omega, by omega, ?_⟩
  rw [hn]
  intro first e fb τ6 flen row at6 x6 f6 g6
  walk_at "vc"
  walk_at "go"
  refine ⟨_, listAt_list g6, newL_of (big_of (by simp; omega)) fun hb τ7 x7 f7 g7 => ?_⟩
  walk_at "vc"
  walk_at "go"
  refine h3 _ _ _ ⟨hb, -(n : Int), 0, n, e, first, rfl, g7, flen, by omega, row, at6, by omega, ?_⟩
  intro m1 t1 τ8 ml1 row1 at8 x8 g8 f8 g8'
  have nfh : fb ≠ hb := ne_of g6 f7
  walk_at "vc"
  refine ⟨by omega, rok_dn (by omega) (by omega) (by omega) (by omega), ?_⟩
  have e1 : rvals ((n : Int) - 1) (-1) (-1) = (desc 0 n).map .int := by
    have := rvals_desc 0 n; rw [← this]; simp
  rw [e1]
  refine newL_of (big_of (by rw [List.length_map, desc_length]; omega)) fun c1 τ9 x9 f9 g9 => ?_
  refine ne_refl (listAt_list (x9 _ _ g8')) (listAt_list g9) ?_
  walk_at "vc"
  simp only [Bool.false_eq_true, if_false]
  walk_at "vc"
  walk_at "go"
  refine ⟨rok_of (by omega) (by omega) (by omega) (by omega), ?_⟩
  have g9h : τ9 hb = some (.list (m1.map V.int)) := x9 _ _ g8
  refine comp_rule (xs := (List.range (rlen 1 (n : Int) 1)).map fun (i : Nat) => V.int (1 + (i : Int) * 1)) (fun _ => none) (big_of (by simp [rlen]; omega)) (yields_rng _ _ _ _) ?_ ?_
  · intro x hx τ ex K N' hK hN'
    simp only [List.mem_map, List.mem_range] at hx
    obtain ⟨i, hi, rfl⟩ := hx
    have hi' : i + 1 < n := by simp [rlen] at hi; omega
    have ei : (1 : Int) + (i : Int) * 1 = ((i + 1 : Nat) : Int) := by omega
    rw [ei]
    walk_at "vc"
    refine ⟨by decide, ?_⟩
    have ej : ((((i + 1 : Nat) : Int) + 1).fdiv 2) - 1 = ((i / 2 : Nat) : Int) := by
      rw [Int.fdiv_eq_ediv_of_nonneg _ (by omega)]; omega
    rw [ej]
    have l1 : i / 2 < m1.length := by omega
    have l2 : i + 1 < m1.length := by omega
    refine opSub_list (ex _ _ g9h) (x := .int m1[i / 2]) (by simp [List.getElem?_eq_getElem l1]) ?_
    refine opSub_list (ex _ _ g9h) (x := .int m1[i + 1]) (by simp [List.getElem?_eq_getElem l2]) ?_
    walk_at "vc"
    have := row1.heap ml1 at8 (desc_pair _ _) (q := i / 2) (c := i + 1) (by omega) (List.getElem?_eq_getElem l1) (List.getElem?_eq_getElem l2)
    have nd : ¬ m1[i / 2] < m1[i + 1] := by omega
    simp only [nd, decide_false, Bool.false_eq_true, if_false]
    exact hN' rfl _ .rfl
  intro τ10 x10 b10 f10
  have ef : ((List.range (rlen 1 (n : Int) 1)).map fun (i : Nat) => V.int (1 + (i : Int) * 1)).filterMap (fun _ => (none : Option V)) = ([] : List Int).map .int := by
    rw [List.map_nil, List.filterMap_eq_nil_iff]; intros; rfl
  rw [ef]
  refine newL_of (big_of (by simp)) fun b11 τ11 x11 f11 g11 => ?_
  refine ne_refl (xs := []) (listAt_list (x11 _ _ (upd_same _ _ _))) (listAt_list g11) ?_
  walk_at "vc"
  simp only [Bool.false_eq_true, if_false]
  walk_at "vc"
  walk_at "go"
  have x911 : Ext τ9 τ11 := (x10.trans (Ext.upd _ f10)).trans x11
  refine ⟨mul_l, h3 _ _ _ ⟨hb, -2 * (n : Int), -(n : Int), n, evac kin n e, m1, rfl, x911 _ _ g9h, ml1, by omega, row1, at8, by omega, ?_⟩⟩
  intro m2 t2 τ12 ml2 row2 at12 x12 g12 f12 g12'
  walk_at "vc"
  refine ⟨by decide, rok_dn (by omega) (by omega) (by omega) (by omega), ?_⟩
  have e2 : rvals (-1) (-(n : Int) - 1) (-1) = (desc (-(n : Int)) n).map .int := by
    have := rvals_desc (-(n : Int)) n; rw [← this]; congr 1; omega
  rw [e2]
  refine newL_of (big_of (by rw [List.length_map, desc_length]; omega)) fun c2 τ13 x13 f13 g13 => ?_
  refine ne_refl (listAt_list (x13 _ _ g12')) (listAt_list g13) ?_
  walk_at "vc"
  simp only [Bool.false_eq_true, if_false]
  walk_at "vc"
  walk_at "go"
  have gf : τ13 fb = some (.list (first.map V.int)) := x13 _ _ (x12 _ _ nfh (x911 _ _ (x9 _ _ (x8 _ _ nfh (x7 _ _ g6)))))
  refine ⟨⟨_, listAt_list gf⟩, ?_⟩
  have yl := yields_lst (H := Ext τ13) (a := fb) (xs := first.map V.int) (fun τ x => listAt_list (x _ _ gf)) _ 0 rfl
  rw [List.drop_zero] at yl
  refine comp_rule (xs := first.map V.int) (fun v => match v with | .int i => some (.int (i - 2 * (n : Int))) | _ => none) (big_of (by simp; omega)) yl ?_ ?_
  · intro x hx τ ex K N' hK hN'
    simp only [List.mem_map] at hx
    obtain ⟨i, hi, rfl⟩ := hx
    walk_at "vc"
    simp only [if_true]
    exact ⟨mul_l, hK _ _ rfl .rfl⟩
  intro τ14 x14 b14 f14
  have efm : (first.map V.int).filterMap (fun v => match v with | .int i => some (V.int (i - 2 * (n : Int))) | _ => none) = (first.map (fun i => i - 2 * (n : Int))).map V.int := by
    rw [List.filterMap_map, List.map_map]
    exact fm_some _ fun a _ => rfl
  rw [efm]
  rw [evac_evac kin_symm n e row.len] at row2 at12
  have em : m2 = first.map (fun i => i - 2 * (n : Int)) := by
    refine at12.ext (e := e) (L := desc (-2 * (n : Int)) n) (n := n) ?_ ml2 (by simpa using flen) fun p hp => row.full hp
    have := at6.map (fun i => i - 2 * (n : Int))
    rw [desc_shift] at this
    have e0 : (0 : Int) - 2 * n = -2 * n := by omega
    rw [e0] at this; exact this
  have nb : hb ≠ b14 := ne_of (x14 _ _ (x13 _ _ g12)) f14
  refine eq_refl' (xs := m2) (listAt_list (by rw [upd_ne _ _ nb]; exact x14 _ _ (x13 _ _ g12))) (listAt_list (by rw [upd_same, em])) ?_
  walk_at "vc"

/-! Gc -/
/-- the end: the law answers True -/
theorem good_true {l : OpenLaw} {cl : Str → Option Addr} {mean : ExcName → Option Value} {args : List WData} {s₁ s' : Shared} {σ : Hp} {v : Value} (hg : s₁.gens = #[]) (p : PV s₁.heap σ s₁ (fun v _ => v = .bool true) v s') :
    GoodW l.row.claim cl mean args s₁ (.ok (.ret v)) s' := by
  obtain ⟨x, σ', r, ⟨st, m⟩, rfl⟩ := p
  cases r
  refine ⟨.inl ⟨.bool true, .bool true, [], rfl, fun cls => rfl, ?_, ?_, ?_⟩, st.w.stays, m.1, m.2.trans hg⟩
  · exact .bool true
  · exact postW_of (r := l.row.toRowW) (by simp only [OpenLaw.row]; unfold WShape.has; simp; exact ⟨.bool, by simp [WShape.arms], rfl⟩) (w_eq_bool (w_res rfl) w_lit) rfl
  · intro _; exact ⟨List.nodup_nil, fun a m => by cases m⟩
/-- the def at a place of the text -/
def defAt (p : Program) (i : Nat) : Arguments × List Stmt × Scope := match p.main.body[i]? with
  | some (.FunctionDef _ a b _ _ _ sc _ _ _) => (a, b, sc)
  | _ => (⟨[], [], none, [], [], none, []⟩, [], ⟨.function, [], false, false, []⟩)
def recIn (p : Program) (name : Str) : DefRec := match defOf p name with
  | some (d, _) => d
  | none => ⟨name, ⟨[], [], none, [], [], none, []⟩, [], ⟨.function, [], false, false, []⟩, ⟨0, 0, 0, 0⟩⟩
theorem FnOk.false {prog : Program} {w : World} {h₀ : Heap} {n : Nat} {fa : Addr} {o : Obj} {fd : FuncData} (ho : h₀.get? fa = some o) (hd : o.data = .func fd) : FnOk prog w h₀ n (.ref fa) (fun _ _ _ => False) :=
  ⟨fa, o, fd, rfl, ho, hd, fun _ _ _ _ _ _ _ _ _ f => f.elim⟩
def Φs (l : List (List V → (V → Hp → Prop) → Hp → Prop)) : Fns := fun i => match l[i]? with | some C => C | none => fun _ _ _ => False
def biNames : List Str := ["len", "min", "max", "sum", "range", "list", "abs", "sorted", "divmod", "enumerate"]
theorem bi_free {p : Program} {loose : List Str} {mean : ExcName → Option Value} {mg mb : Str → Option Value} {h : Heap} (T : Top p loose mean mg mb h)
    (hf : ∀ x ∈ biNames, x ∉ startupNames ∧ x ∉ loose ∧ x ∉ (recsOf p).map (·.name) ∧ x ∉ (litsOf p).map (·.1) ∧ x ∉ (clssOf p loose).map (·.name)) :
    (∀ f : BI, mg f.name = none) ∧ mg ("enumerate" : Str) = none := by
  have g : ∀ x ∈ biNames, mg x = none := fun x hx => by
    obtain ⟨a, b, c, d, e⟩ := hf x hx; exact T.free x a b c d e
  refine ⟨fun f => g _ ?_, g _ (by decide +kernel)⟩
  cases f <;> decide +kernel
theorem dfl {mg : Str → Option Value} {h : Heap} {params : Arguments} {dV kV : Value} (D : Dflts mg h params [] dV kV) (hp : params.defaults = []) : dV = .none ∧ kV = .none := by
  refine ⟨?_, ?_⟩
  · rcases D.pos with ⟨_, e⟩ | ⟨n, _⟩
    · exact e
    · exact absurd hp n
  · rcases D.kw with ⟨_, e⟩ | ⟨n, _⟩
    · exact e
    · exact absurd rfl n
/-- a def with no defaults, as the ground shows it -/
def Shown (mg : Str → Option Value) (h : Heap) (name : Str) (d : DefRec) : Prop :=
  ∃ a o pm cd doc, mg name = some (.ref a) ∧ h.get? a = some o ∧ o.data = .func { Calls.docDef d.name d.params d.body d.scope pm cd doc with defaults := .none, kwdefaults := .none } ∧ h.CodeRec cd d.name
theorem shown_of {p : Program} {loose : List Str} {R : WRecords} {XP : (Str → Option Value) → Heap → Prop} {w : World} {s₀ : Shared} {mg mb : Str → Option Value} {h : Heap}
    (G : Ground p loose R XP w s₀ mg mb h) (name : Str) (d : DefRec) (e : defOf p name = some (d, [])) (hp : d.params.defaults = []) : Shown mg h name d := by
  obtain ⟨a, o, pm, cd, doc, dV, kV, h1, h2, h3, h4, h5⟩ := G.fn e
  obtain ⟨rfl, rfl⟩ := dfl h5 hp
  exact ⟨a, o, pm, cd, doc, h1, h2, h3, h4⟩

/-! Hd01 -/
set_option Elab.async false
set_option maxHeartbeats 8000000
open_top hd01 for PySem.Challenge.rw_dm0137_01

/-! Go01 -/
local macro_rules | `(tactic| walk_at "ce") => `(tactic| first
  | exact CE.int | exact CE.bool | exact CE.none | exact CE.str
  | exact CE.var rfl (by decide) (by decide)
  | (refine CE.bin ?_ ?_ <;> walk_at "ce")
  | (refine CE.neg ?_ <;> walk_at "ce")
  | (refine CE.cmp ?_ ?_ (by rfl) <;> walk_at "ce")
  | (refine CE.ite ?_ ?_ ?_ <;> first | walk_at "ct" | walk_at "ce")
  | (refine CE.slice ?_ ?_ ?_ ?_ <;> first | walk_at "ce" | walk_at "co")
  | (refine CE.sub ?_ ?_ (fun _ _ => rfl) <;> walk_at "ce")
  | (refine CE.list ?_; walk_at "ces")
  | (refine CE.tuple ?_; walk_at "ces")
  | (refine CE.call rfl (by decide) ?_; walk_at "ces")
  | (refine CE.ucall rfl (by decide) (by decide) (by decide) ?_; walk_at "ces")
  | (refine CE.meth rfl (by decide) (by decide) (fun _ => rfl) ?_ ?_ <;> first | walk_at "ce" | walk_at "ces")
  | (refine CE.comp (by decide) rfl (by decide) ?_ (by first | (intro h; cases h; done) | exact fun _ => ⟨_, rfl⟩) ?_ ?_ ?_ <;> first | walk_at "ci" | walk_at "cg" | walk_at "ce" | walk_at "cts"))
local macro_rules | `(tactic| walk_at "ces") => `(tactic| first | exact CEs.nil | (refine CEs.cons ?_ ?_ (fun _ => rfl) <;> first | walk_at "ce" | walk_at "ces"))
local macro_rules | `(tactic| walk_at "co") => `(tactic| first | exact CO.none | (refine CO.some ?_; walk_at "ce"))
local macro_rules | `(tactic| walk_at "ci") => `(tactic| first | (refine CI.enum rfl (by decide) ?_ (fun _ => rfl); walk_at "ce") | (refine CI.plain ?_ (fun _ _ => rfl); walk_at "ce"))
local macro_rules | `(tactic| walk_at "ct") => `(tactic| first
  | (refine CT.not ?_; walk_at "ct")
  | (refine CT.and ?_ ?_ <;> walk_at "ct")
  | (refine CT.or ?_ ?_ <;> walk_at "ct")
  | (refine CT.cmp ?_ ?_ (by rfl) <;> walk_at "ce")
  | (refine CT.var ?_; walk_at "ce")
  | (refine CT.call ?_; walk_at "ce")
  | (refine CT.ucall ?_; walk_at "ce"))
local macro_rules | `(tactic| walk_at "cts") => `(tactic| first | exact CTs.nil | (refine CTs.cons ?_ ?_ <;> first | walk_at "ct" | walk_at "cts"))
local macro_rules | `(tactic| walk_at "cg") => `(tactic| first | exact CG.name rfl (by decide) | (refine CG.tup ?_; walk_at "cgs"))
local macro_rules | `(tactic| walk_at "cgs") => `(tactic| first | exact CGs.nil | (refine CGs.cons rfl (by decide) ?_; walk_at "cgs"))
local macro_rules | `(tactic| walk_at "cs") => `(tactic| first
  | exact CS.brk | exact CS.cont
  | (refine CS.ret ?_; walk_at "ce")
  | (refine CS.expr ?_ (fun _ => rfl); walk_at "ce")
  | (refine CS.assignC rfl (by decide) ?_; walk_at "ce")
  | (refine CS.assign rfl (by decide) ?_ (fun _ => rfl); walk_at "ce")
  | (refine CS.assignT ?_ ?_ (fun _ => rfl) (fun _ => rfl) <;> first | walk_at "cgs" | walk_at "ce")
  | (refine CS.setitem ?_ ?_ ?_ (fun _ => rfl) <;> walk_at "ce")
  | (refine CS.aug rfl (by decide) (by decide) (by decide) ?_; walk_at "ce")
  | (refine CS.ifs ?_ ?_ ?_ <;> first | walk_at "ct" | walk_at "css")
  | (refine CS.whil ?_ ?_ <;> first | walk_at "ct" | walk_at "css")
  | (refine CS.for ?_ ?_ (by first | (intro h; cases h; done) | exact fun _ => ⟨_, rfl⟩) ?_ <;> first | walk_at "cg" | walk_at "ci" | walk_at "css"))
local macro_rules | `(tactic| walk_at "css") => `(tactic| first | exact CSs.nil | (refine CSs.cons ?_ ?_ <;> first | walk_at "cs" | walk_at "css"))

def fns01 : List Str := ["_siftdown_max", "_siftup_max", "_law_heap", "_law_round", "law"]
def prog01 : Program := PySem.Challenge.rw_dm0137_01.row.prog

theorem def_sd : defOf hd01.view_39 "_siftdown_max" = some ((recIn hd01.view_39 "_siftdown_max"), []) := by kernel_rfl
theorem bd_sd : (recIn hd01.view_39 "_siftdown_max").params = (defAt PySem.Challenge.pw_dm0137_01 1).1 ∧ (recIn hd01.view_39 "_siftdown_max").body = (defAt PySem.Challenge.pw_dm0137_01 1).2.1 ∧ (recIn hd01.view_39 "_siftdown_max").scope = (defAt PySem.Challenge.pw_dm0137_01 1).2.2 := ⟨by kernel_rfl, by kernel_rfl, by kernel_rfl⟩
theorem bind_sd (fd : FuncData) (h1 : fd.params = (defAt PySem.Challenge.pw_dm0137_01 1).1) (h2 : fd.defaults = .none) (h3 : fd.kwdefaults = .none) : ∀ vals : List Value, vals.length = (["heap", "startpos", "pos"] : List Str).length → bindArgs fd ⟨vals, []⟩ = pure ((["heap", "startpos", "pos"] : List Str).zip vals) := by
  intro vals hv
  match vals, hv with
  | [a, b, c], _ =>
    unfold bindArgs
    rw [h1, h2, h3]
    rfl
theorem cs_sd : CSs { sc := (defAt PySem.Challenge.pw_dm0137_01 1).2.2.names, fns := fns01 } (defAt PySem.Challenge.pw_dm0137_01 1).2.1 ps_siftdown := by
  unfold ps_siftdown
  walk_at "css"
theorem ok_sd {pm cd doc dV kV : Value} (h2 : dV = .none) (h3 : kV = .none) : DefOk { Calls.docDef (recIn hd01.view_39 "_siftdown_max").name (recIn hd01.view_39 "_siftdown_max").params (recIn hd01.view_39 "_siftdown_max").body (recIn hd01.view_39 "_siftdown_max").scope pm cd doc with defaults := dV, kwdefaults := kV } fns01 (["heap", "startpos", "pos"] : List Str) (defAt PySem.Challenge.pw_dm0137_01 1).2.1 ps_siftdown := by
  obtain ⟨e1, e2, e3⟩ := bd_sd
  refine ⟨congrArg FuncBody.stmts e2, bind_sd _ e1 h2 h3, rfl, rfl, rfl, ?_, ?_, ?_, ?_, ?_, ?_, by decide, ?_⟩
  · show (recIn hd01.view_39 "_siftdown_max").scope.isCoroutine = false
    rw [e3]; rfl
  · show (recIn hd01.view_39 "_siftdown_max").scope.isGenerator = false
    rw [e3]; rfl
  · show (recIn hd01.view_39 "_siftdown_max").scope.kind = .function
    rw [e3]; rfl
  · show ((recIn hd01.view_39 "_siftdown_max").scope.names.map (·.1)).Nodup
    rw [e3]; decide +kernel
  · show ∀ x ∈ (recIn hd01.view_39 "_siftdown_max").scope.names, x.2 ≠ .free
    rw [e3]; decide +kernel
  · show ∀ x ∈ (["heap", "startpos", "pos"] : List Str), (recIn hd01.view_39 "_siftdown_max").scope.names.lookup x = some .local ∨ (recIn hd01.view_39 "_siftdown_max").scope.names.lookup x = some .cell
    rw [e3]; decide +kernel
  · show CSs { sc := (recIn hd01.view_39 "_siftdown_max").scope.names, fns := fns01 } _ _
    rw [e3]; exact cs_sd
theorem fr_sd (a b c : V) : initF { sc := (defAt PySem.Challenge.pw_dm0137_01 1).2.2.names, fns := fns01 } (["heap", "startpos", "pos"] : List Str) [a, b, c] = [a, b, c].map some ++ [none, none, none] := by first | rfl | kernel_rfl

theorem def_su : defOf hd01.view_39 "_siftup_max" = some ((recIn hd01.view_39 "_siftup_max"), []) := by kernel_rfl
theorem bd_su : (recIn hd01.view_39 "_siftup_max").params = (defAt PySem.Challenge.pw_dm0137_01 2).1 ∧ (recIn hd01.view_39 "_siftup_max").body = (defAt PySem.Challenge.pw_dm0137_01 2).2.1 ∧ (recIn hd01.view_39 "_siftup_max").scope = (defAt PySem.Challenge.pw_dm0137_01 2).2.2 := ⟨by kernel_rfl, by kernel_rfl, by kernel_rfl⟩
theorem bind_su (fd : FuncData) (h1 : fd.params = (defAt PySem.Challenge.pw_dm0137_01 2).1) (h2 : fd.defaults = .none) (h3 : fd.kwdefaults = .none) : ∀ vals : List Value, vals.length = (["heap", "pos"] : List Str).length → bindArgs fd ⟨vals, []⟩ = pure ((["heap", "pos"] : List Str).zip vals) := by
  intro vals hv
  match vals, hv with
  | [a, b], _ =>
    unfold bindArgs
    rw [h1, h2, h3]
    rfl
theorem cs_su : CSs { sc := (defAt PySem.Challenge.pw_dm0137_01 2).2.2.names, fns := fns01 } (defAt PySem.Challenge.pw_dm0137_01 2).2.1 (ps_siftup 0) := by
  unfold ps_siftup
  walk_at "css"
theorem ok_su {pm cd doc dV kV : Value} (h2 : dV = .none) (h3 : kV = .none) : DefOk { Calls.docDef (recIn hd01.view_39 "_siftup_max").name (recIn hd01.view_39 "_siftup_max").params (recIn hd01.view_39 "_siftup_max").body (recIn hd01.view_39 "_siftup_max").scope pm cd doc with defaults := dV, kwdefaults := kV } fns01 (["heap", "pos"] : List Str) (defAt PySem.Challenge.pw_dm0137_01 2).2.1 (ps_siftup 0) := by
  obtain ⟨e1, e2, e3⟩ := bd_su
  refine ⟨congrArg FuncBody.stmts e2, bind_su _ e1 h2 h3, rfl, rfl, rfl, ?_, ?_, ?_, ?_, ?_, ?_, by decide, ?_⟩
  · show (recIn hd01.view_39 "_siftup_max").scope.isCoroutine = false
    rw [e3]; rfl
  · show (recIn hd01.view_39 "_siftup_max").scope.isGenerator = false
    rw [e3]; rfl
  · show (recIn hd01.view_39 "_siftup_max").scope.kind = .function
    rw [e3]; rfl
  · show ((recIn hd01.view_39 "_siftup_max").scope.names.map (·.1)).Nodup
    rw [e3]; decide +kernel
  · show ∀ x ∈ (recIn hd01.view_39 "_siftup_max").scope.names, x.2 ≠ .free
    rw [e3]; decide +kernel
  · show ∀ x ∈ (["heap", "pos"] : List Str), (recIn hd01.view_39 "_siftup_max").scope.names.lookup x = some .local ∨ (recIn hd01.view_39 "_siftup_max").scope.names.lookup x = some .cell
    rw [e3]; decide +kernel
  · show CSs { sc := (recIn hd01.view_39 "_siftup_max").scope.names, fns := fns01 } _ _
    rw [e3]; exact cs_su
theorem fr_su (a b : V) : initF { sc := (defAt PySem.Challenge.pw_dm0137_01 2).2.2.names, fns := fns01 } (["heap", "pos"] : List Str) [a, b] = [a, b].map some ++ [none, none, none, none, none] := by first | rfl | kernel_rfl

theorem def_lh : defOf hd01.view_39 "_law_heap" = some ((recIn hd01.view_39 "_law_heap"), []) := by kernel_rfl
theorem bd_lh : (recIn hd01.view_39 "_law_heap").params = (defAt PySem.Challenge.pw_dm0137_01 4).1 ∧ (recIn hd01.view_39 "_law_heap").body = (defAt PySem.Challenge.pw_dm0137_01 4).2.1 ∧ (recIn hd01.view_39 "_law_heap").scope = (defAt PySem.Challenge.pw_dm0137_01 4).2.2 := ⟨by kernel_rfl, by kernel_rfl, by kernel_rfl⟩
theorem bind_lh (fd : FuncData) (h1 : fd.params = (defAt PySem.Challenge.pw_dm0137_01 4).1) (h2 : fd.defaults = .none) (h3 : fd.kwdefaults = .none) : ∀ vals : List Value, vals.length = (["drawn"] : List Str).length → bindArgs fd ⟨vals, []⟩ = pure ((["drawn"] : List Str).zip vals) := by
  intro vals hv
  match vals, hv with
  | [a], _ =>
    unfold bindArgs
    rw [h1, h2, h3]
    rfl
theorem cs_lh : CSs { sc := (defAt PySem.Challenge.pw_dm0137_01 4).2.2.names, fns := fns01 } (defAt PySem.Challenge.pw_dm0137_01 4).2.1 ps_heap := by
  unfold ps_heap
  walk_at "css"
theorem ok_lh {pm cd doc dV kV : Value} (h2 : dV = .none) (h3 : kV = .none) : DefOk { Calls.docDef (recIn hd01.view_39 "_law_heap").name (recIn hd01.view_39 "_law_heap").params (recIn hd01.view_39 "_law_heap").body (recIn hd01.view_39 "_law_heap").scope pm cd doc with defaults := dV, kwdefaults := kV } fns01 (["drawn"] : List Str) (defAt PySem.Challenge.pw_dm0137_01 4).2.1 ps_heap := by
  obtain ⟨e1, e2, e3⟩ := bd_lh
  refine ⟨congrArg FuncBody.stmts e2, bind_lh _ e1 h2 h3, rfl, rfl, rfl, ?_, ?_, ?_, ?_, ?_, ?_, by decide, ?_⟩
  · show (recIn hd01.view_39 "_law_heap").scope.isCoroutine = false
    rw [e3]; rfl
  · show (recIn hd01.view_39 "_law_heap").scope.isGenerator = false
    rw [e3]; rfl
  · show (recIn hd01.view_39 "_law_heap").scope.kind = .function
    rw [e3]; rfl
  · show ((recIn hd01.view_39 "_law_heap").scope.names.map (·.1)).Nodup
    rw [e3]; decide +kernel
  · show ∀ x ∈ (recIn hd01.view_39 "_law_heap").scope.names, x.2 ≠ .free
    rw [e3]; decide +kernel
  · show ∀ x ∈ (["drawn"] : List Str), (recIn hd01.view_39 "_law_heap").scope.names.lookup x = some .local ∨ (recIn hd01.view_39 "_law_heap").scope.names.lookup x = some .cell
    rw [e3]; decide +kernel
  · show CSs { sc := (recIn hd01.view_39 "_law_heap").scope.names, fns := fns01 } _ _
    rw [e3]; exact cs_lh
theorem fr_lh (a : V) : initF { sc := (defAt PySem.Challenge.pw_dm0137_01 4).2.2.names, fns := fns01 } (["drawn"] : List Str) [a] = [a].map some ++ [none, none, none, none, none] := by first | rfl | kernel_rfl

theorem def_lr : defOf hd01.view_39 "_law_round" = some ((recIn hd01.view_39 "_law_round"), []) := by kernel_rfl
theorem bd_lr : (recIn hd01.view_39 "_law_round").params = (defAt PySem.Challenge.pw_dm0137_01 5).1 ∧ (recIn hd01.view_39 "_law_round").body = (defAt PySem.Challenge.pw_dm0137_01 5).2.1 ∧ (recIn hd01.view_39 "_law_round").scope = (defAt PySem.Challenge.pw_dm0137_01 5).2.2 := ⟨by kernel_rfl, by kernel_rfl, by kernel_rfl⟩
theorem bind_lr (fd : FuncData) (h1 : fd.params = (defAt PySem.Challenge.pw_dm0137_01 5).1) (h2 : fd.defaults = .none) (h3 : fd.kwdefaults = .none) : ∀ vals : List Value, vals.length = (["heap", "low"] : List Str).length → bindArgs fd ⟨vals, []⟩ = pure ((["heap", "low"] : List Str).zip vals) := by
  intro vals hv
  match vals, hv with
  | [a, b], _ =>
    unfold bindArgs
    rw [h1, h2, h3]
    rfl
theorem cs_lr : CSs { sc := (defAt PySem.Challenge.pw_dm0137_01 5).2.2.names, fns := fns01 } (defAt PySem.Challenge.pw_dm0137_01 5).2.1 ps_round := by
  unfold ps_round
  walk_at "css"
theorem ok_lr {pm cd doc dV kV : Value} (h2 : dV = .none) (h3 : kV = .none) : DefOk { Calls.docDef (recIn hd01.view_39 "_law_round").name (recIn hd01.view_39 "_law_round").params (recIn hd01.view_39 "_law_round").body (recIn hd01.view_39 "_law_round").scope pm cd doc with defaults := dV, kwdefaults := kV } fns01 (["heap", "low"] : List Str) (defAt PySem.Challenge.pw_dm0137_01 5).2.1 ps_round := by
  obtain ⟨e1, e2, e3⟩ := bd_lr
  refine ⟨congrArg FuncBody.stmts e2, bind_lr _ e1 h2 h3, rfl, rfl, rfl, ?_, ?_, ?_, ?_, ?_, ?_, by decide, ?_⟩
  · show (recIn hd01.view_39 "_law_round").scope.isCoroutine = false
    rw [e3]; rfl
  · show (recIn hd01.view_39 "_law_round").scope.isGenerator = false
    rw [e3]; rfl
  · show (recIn hd01.view_39 "_law_round").scope.kind = .function
    rw [e3]; rfl
  · show ((recIn hd01.view_39 "_law_round").scope.names.map (·.1)).Nodup
    rw [e3]; decide +kernel
  · show ∀ x ∈ (recIn hd01.view_39 "_law_round").scope.names, x.2 ≠ .free
    rw [e3]; decide +kernel
  · show ∀ x ∈ (["heap", "low"] : List Str), (recIn hd01.view_39 "_law_round").scope.names.lookup x = some .local ∨ (recIn hd01.view_39 "_law_round").scope.names.lookup x = some .cell
    rw [e3]; decide +kernel
  · show CSs { sc := (recIn hd01.view_39 "_law_round").scope.names, fns := fns01 } _ _
    rw [e3]; exact cs_lr
theorem fr_lr (a b : V) : initF { sc := (defAt PySem.Challenge.pw_dm0137_01 5).2.2.names, fns := fns01 } (["heap", "low"] : List Str) [a, b] = [a, b].map some ++ [none, none] := by first | rfl | kernel_rfl

theorem def_law : defOf hd01.view_39 "law" = some ((recIn hd01.view_39 "law"), []) := by kernel_rfl
theorem bd_law : (recIn hd01.view_39 "law").params = (defAt PySem.Challenge.pw_dm0137_01 6).1 ∧ (recIn hd01.view_39 "law").body = (defAt PySem.Challenge.pw_dm0137_01 6).2.1 ∧ (recIn hd01.view_39 "law").scope = (defAt PySem.Challenge.pw_dm0137_01 6).2.2 := ⟨by kernel_rfl, by kernel_rfl, by kernel_rfl⟩
theorem bind_law (fd : FuncData) (h1 : fd.params = (defAt PySem.Challenge.pw_dm0137_01 6).1) (h2 : fd.defaults = .none) (h3 : fd.kwdefaults = .none) : ∀ vals : List Value, vals.length = (["script"] : List Str).length → bindArgs fd ⟨vals, []⟩ = pure ((["script"] : List Str).zip vals) := by
  intro vals hv
  match vals, hv with
  | [a], _ =>
    unfold bindArgs
    rw [h1, h2, h3]
    rfl
theorem cs_law : CSs { sc := (defAt PySem.Challenge.pw_dm0137_01 6).2.2.names, fns := fns01 } (defAt PySem.Challenge.pw_dm0137_01 6).2.1 ps_law01 := by
  unfold ps_law01
  walk_at "css"
theorem ok_law {pm cd doc dV kV : Value} (h2 : dV = .none) (h3 : kV = .none) : DefOk { Calls.docDef (recIn hd01.view_39 "law").name (recIn hd01.view_39 "law").params (recIn hd01.view_39 "law").body (recIn hd01.view_39 "law").scope pm cd doc with defaults := dV, kwdefaults := kV } fns01 (["script"] : List Str) (defAt PySem.Challenge.pw_dm0137_01 6).2.1 ps_law01 := by
  obtain ⟨e1, e2, e3⟩ := bd_law
  refine ⟨congrArg FuncBody.stmts e2, bind_law _ e1 h2 h3, rfl, rfl, rfl, ?_, ?_, ?_, ?_, ?_, ?_, by decide, ?_⟩
  · show (recIn hd01.view_39 "law").scope.isCoroutine = false
    rw [e3]; rfl
  · show (recIn hd01.view_39 "law").scope.isGenerator = false
    rw [e3]; rfl
  · show (recIn hd01.view_39 "law").scope.kind = .function
    rw [e3]; rfl
  · show ((recIn hd01.view_39 "law").scope.names.map (·.1)).Nodup
    rw [e3]; decide +kernel
  · show ∀ x ∈ (recIn hd01.view_39 "law").scope.names, x.2 ≠ .free
    rw [e3]; decide +kernel
  · show ∀ x ∈ (["script"] : List Str), (recIn hd01.view_39 "law").scope.names.lookup x = some .local ∨ (recIn hd01.view_39 "law").scope.names.lookup x = some .cell
    rw [e3]; decide +kernel
  · show CSs { sc := (recIn hd01.view_39 "law").scope.names, fns := fns01 } _ _
    rw [e3]; exact cs_law
theorem fr_law (a : V) : initF { sc := (defAt PySem.Challenge.pw_dm0137_01 6).2.2.names, fns := fns01 } (["script"] : List Str) [a] = [a].map some ++ [none, none, none, none] := by first | rfl | kernel_rfl

theorem free01 : ∀ x ∈ biNames, x ∉ startupNames ∧ x ∉ (looseW hd01.view_39 []) ∧ x ∉ (recsOf hd01.view_39).map (·.name) ∧ x ∉ (litsOf hd01.view_39).map (·.1) ∧ x ∉ (clssOf hd01.view_39 (looseW hd01.view_39 [])).map (·.name) := by decide +kernel
theorem names01 {w : World} {h₀ : Heap} {mg mb : Str → Option Value} (Gd : Gnd PySem.Challenge.rw_dm0137_01.row.prog h₀ mg mb) (hbi : ∀ f : BI, mg f.name = none) (hen : mg ("enumerate" : Str) = none)
    (F : ∀ name d, defOf hd01.view_39 name = some (d, []) → d.params.defaults = [] → Shown mg h₀ name d)
    : NamesOk PySem.Challenge.rw_dm0137_01.row.prog w h₀ mg 6 fns01 (Φs [siftdownC, siftupC, heapC, roundC]) := by
  obtain ⟨a0, o0, pm0, cd0, doc0, m0, g0, d0, c0⟩ := F _ _ def_sd (by rw [bd_sd.1]; rfl)
  obtain ⟨a1, o1, pm1, cd1, doc1, m1, g1, d1, c1⟩ := F _ _ def_su (by rw [bd_su.1]; rfl)
  obtain ⟨a2, o2, pm2, cd2, doc2, m2, g2, d2, c2⟩ := F _ _ def_lh (by rw [bd_lh.1]; rfl)
  obtain ⟨a3, o3, pm3, cd3, doc3, m3, g3, d3, c3⟩ := F _ _ def_lr (by rw [bd_lr.1]; rfl)
  obtain ⟨a4, o4, pm4, cd4, doc4, m4, g4, d4, c4⟩ := F _ _ def_law (by rw [bd_law.1]; rfl)
  have mk : ∀ (n : Nat) (Φ : Fns), FnOk PySem.Challenge.rw_dm0137_01.row.prog w h₀ n (.ref a0) (Φ 0) → FnOk PySem.Challenge.rw_dm0137_01.row.prog w h₀ n (.ref a1) (Φ 1) → FnOk PySem.Challenge.rw_dm0137_01.row.prog w h₀ n (.ref a2) (Φ 2) → FnOk PySem.Challenge.rw_dm0137_01.row.prog w h₀ n (.ref a3) (Φ 3) → FnOk PySem.Challenge.rw_dm0137_01.row.prog w h₀ n (.ref a4) (Φ 4) → NamesOk PySem.Challenge.rw_dm0137_01.row.prog w h₀ mg n fns01 Φ := fun n Φ f0 f1 f2 f3 f4 =>
    ⟨hbi, hen, fun i x e => by
      match i, e with
      | 0, e => cases e; exact ⟨_, m0, f0⟩
      | 1, e => cases e; exact ⟨_, m1, f1⟩
      | 2, e => cases e; exact ⟨_, m2, f2⟩
      | 3, e => cases e; exact ⟨_, m3, f3⟩
      | 4, e => cases e; exact ⟨_, m4, f4⟩⟩
  have N0 := mk 0 (Φs []) (.false g0 d0) (.false g1 d1) (.false g2 d2) (.false g3 d3) (.false g4 d4)
  have F0 : ∀ m, 1 ≤ m → FnOk PySem.Challenge.rw_dm0137_01.row.prog w h₀ m (.ref a0) siftdownC := fun m hm => (fn_ok Gd N0 (ok_sd rfl rfl) g0 d0 c0).mono hm fun args Q σ h => by
    have h' := h
    obtain ⟨_, _, _, _, _, _, _, _, _, e, r⟩ := h'
    subst e
    refine ⟨rfl, siftdown_v _   _ _ _ _ h ?_⟩
    show initF { sc := (recIn hd01.view_39 "_siftdown_max").scope.names, fns := fns01 } _ _ = _
    rw [bd_sd.2.2]; exact fr_sd _ _ _
  have N1 := mk 1 (Φs [siftdownC]) (F0 1 (by omega)) (.false g1 d1) (.false g2 d2) (.false g3 d3) (.false g4 d4)
  have F1 : ∀ m, 2 ≤ m → FnOk PySem.Challenge.rw_dm0137_01.row.prog w h₀ m (.ref a1) siftupC := fun m hm => (fn_ok Gd N1 (ok_su rfl rfl) g1 d1 c1).mono hm fun args Q σ h => by
    have h' := h
    obtain ⟨_, _, _, _, _, _, _, _, e, r⟩ := h'
    subst e
    refine ⟨rfl, siftup_v _ 0 (fun _ _ _ h => h) _ _ _ _ h ?_⟩
    show initF { sc := (recIn hd01.view_39 "_siftup_max").scope.names, fns := fns01 } _ _ = _
    rw [bd_su.2.2]; exact fr_su _ _
  have N2 := mk 2 (Φs [siftdownC, siftupC]) (F0 2 (by omega)) (F1 2 (by omega)) (.false g2 d2) (.false g3 d3) (.false g4 d4)
  have F2 : ∀ m, 3 ≤ m → FnOk PySem.Challenge.rw_dm0137_01.row.prog w h₀ m (.ref a2) heapC := fun m hm => (fn_ok Gd N2 (ok_lh rfl rfl) g2 d2 c2).mono hm fun args Q σ h => by
    have h' := h
    obtain ⟨_, _, e, r⟩ := h'
    subst e
    refine ⟨rfl, heap_v _   _ _ _ _ h ?_⟩
    show initF { sc := (recIn hd01.view_39 "_law_heap").scope.names, fns := fns01 } _ _ = _
    rw [bd_lh.2.2]; exact fr_lh _
  have N3 := mk 3 (Φs [siftdownC, siftupC, heapC]) (F0 3 (by omega)) (F1 3 (by omega)) (F2 3 (by omega)) (.false g3 d3) (.false g4 d4)
  have F3 : ∀ m, 4 ≤ m → FnOk PySem.Challenge.rw_dm0137_01.row.prog w h₀ m (.ref a3) roundC := fun m hm => (fn_ok Gd N3 (ok_lr rfl rfl) g3 d3 c3).mono hm fun args Q σ h => by
    have h' := h
    obtain ⟨_, _, _, _, _, _, e, r⟩ := h'
    subst e
    refine ⟨rfl, round_v _  (fun _ _ _ h => h) _ _ _ _ h ?_⟩
    show initF { sc := (recIn hd01.view_39 "_law_round").scope.names, fns := fns01 } _ _ = _
    rw [bd_lr.2.2]; exact fr_lr _ _
  exact mk 6 _ (F0 6 (by omega)) (F1 6 (by omega)) (F2 6 (by omega)) (F3 6 (by omega)) (.false g4 d4)
end Mine
open PySem PySem.W PyProof.Rows Mine
theorem PySem.Challenge.cw_dm0137_01_holds : PySem.Challenge.rw_dm0137_01.Holds := by
  refine hd01 ?_
  intro w s₀ s₁ mg mb G Y fa o pm cd doc dV kV ho hd hcd hD hmg hg args vals as hpre hlay hrd hwl hlo
  have FF := shown_of G
  refine Ground.open G ?_
  intro T B D TE TW
  wrow_args hpre hlay hrd hwl hlo
  first | refine callC_kw (enter_call ?_) | refine enter_call ?_ | refine callC_kw (enter_callW ?_) | refine enter_callW ?_
  try refine codeAny_mono ?_ (fun _ _ g => GoodW.toG g)
  rename_i ns _ _ hlay0 _ _ _ _ l vs _ hL _ _ _ hI _ hlen _
  have Gd : Gnd PySem.Challenge.rw_dm0137_01.row.prog s₁.heap mg mb := ground_of T (by decide +kernel) (by rfl)
  obtain ⟨hbi, hen⟩ := bi_free T free01
  have NM := names01 (w := w) Gd hbi hen FF
  obtain ⟨a, o, pm, cd, doc, k1, k2, k3, k4⟩ := FF _ _ def_law (by rw [bd_law.1]; rfl)
  have ea : fa = a := by
    have q : mg ("law" : Str) = some (.ref fa) := hmg
    rw [k1] at q; cases q; rfl
  subst ea
  have hln : ns.length ≤ 63 := by omega
  refine law_code Gd NM (by omega) (ok_law rfl rfl) k2 k3 k4 (script_w hL hI hln) (.cons (.ref l) .nil) (Q := fun v _ => v = .bool true) ⟨rfl, ?_⟩ (fun x s' p => good_true hg p)
  show vSs _ _ _ (initF { sc := (recIn hd01.view_39 "law").scope.names, fns := fns01 } _ _) _
  rw [bd_law.2.2, fr_law]
  exact law01_v _ (fun _ _ _ h => h) (fun _ _ _ h => h) l ns  hln _ (listAt_flist (by unfold scriptHp; rw [if_pos rfl]))
