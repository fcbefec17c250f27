import PyProof.Rows.All
import Wide.All
import OpenK.AllK
import Wide.FinOn
import PySem.Challenge.RW_dm0137_05
set_option Elab.async false
set_option compiler.extract_closed false
set_option genSizeOf false
set_option genInjectivity false
/-! Fw1 -/
set_option autoImplicit false
set_option maxRecDepth 100000
set_option linter.unusedVariables false
namespace Mine
open PySem PySem.W PyProof.Rows

/-- the rest of the state stands -/
def Sm (s s' : Shared) : Prop := s'.os = s.os ∧ s'.gens = s.gens
theorem Sm.rfl {s : Shared} : Sm s s := ⟨Eq.refl _, Eq.refl _⟩
theorem Sm.trans {a b c : Shared} (x : Sm a b) (y : Sm b c) : Sm a c := ⟨y.1.trans x.1, y.2.trans x.2⟩

/-! the abstract values and heaps -/
inductive V where
  | none
  | bool (b : Bool)
  | int (i : Int)
  | str (s : Str)
  | ref (a : Addr)
  | val (v : Value)
  | tup (vs : List V)
  | rng (a b c : Int)

/-- objects that no step changes -/
def Imm (o : Obj) : Prop := (o.cls = .type "tuple" ∧ ∃ vs n, o.data = .seq vs n) ∨ (o.cls = .type "range" ∧ ∃ vs, o.data = .fields vs) ∨ ∃ fd, o.data = .func fd

mutual
inductive Rep (h : Heap) : Value → V → Prop
  | none : Rep h .none .none
  | bool (b : Bool) : Rep h (.bool b) (.bool b)
  | int (i : Int) (t : Tok) : Rep h (.int i t) (.int i)
  | str (s : Str) (t : Tok) : Rep h (.str s t) (.str s)
  | ref (a : Addr) : Rep h (.ref a) (.ref a)
  | val (v : Value) : Rep h v (.val v)
  | tup {a : Addr} {vs : List Value} {xs : List V} : IsTup h a vs.toArray → Reps h vs xs → Rep h (.ref a) (.tup xs)
  | rng {r : Addr} {a b c : Int} {t u v : Tok} : IsRange h r a b c t u v → Rep h (.ref r) (.rng a b c)
inductive Reps (h : Heap) : List Value → List V → Prop
  | nil : Reps h [] []
  | cons {v : Value} {x : V} {vs : List Value} {xs : List V} : Rep h v x → Reps h vs xs → Reps h (v :: vs) (x :: xs)
end

inductive AObj where
  | list (xs : List V)
  | flist (xs : List V)
  | iter (src : Addr) (i : Nat)

abbrev Hp := Addr → Option AObj

def upd (σ : Hp) (a : Addr) (o : AObj) : Hp := fun b => if b = a then some o else σ b
theorem upd_same (σ : Hp) (a : Addr) (o : AObj) : upd σ a o a = some o := if_pos rfl
theorem upd_ne (σ : Hp) {a b : Addr} (o : AObj) (h : b ≠ a) : upd σ a o b = σ b := if_neg h
theorem upd_upd (σ : Hp) (a : Addr) (o o' : AObj) : upd (upd σ a o) a o' = upd σ a o' := by
  funext b; unfold upd; split <;> rfl
theorem upd_id {σ : Hp} {a : Addr} {o : AObj} (h : σ a = some o) : upd σ a o = σ := by
  funext b; unfold upd; split
  · rename_i e; rw [e, h]
  · rfl

def AObj.mut : AObj → Bool
  | .list _ => true
  | .flist _ => false
  | .iter _ _ => true

def LObj (vs : List Value) (n : Nat) : Obj := { cls := .type "list", dict := none, data := .seq vs.toArray n, slots := #[] }
def Holds (h : Heap) (a : Addr) : AObj → Prop
  | .list xs => ∃ (vs : List Value) (n : Nat), h.get? a = some (LObj vs n) ∧ Reps h vs xs
  | .flist xs => ∃ vs : List Value, h.IsList a vs.toArray ∧ Reps h vs xs
  | .iter l i => h.IsListIter a l i

def BIG : Nat := 1000000
def AObj.small : AObj → Prop
  | .list xs => xs.length ≤ BIG
  | .flist xs => xs.length ≤ BIG
  | .iter _ _ => True
def Mut (σ : Hp) (a : Addr) : Prop := ∃ o, σ a = some o ∧ o.mut = true

/-- the concrete heap bears the abstract one over the ground h₀ -/
structure W (h₀ : Heap) (σ : Hp) (h : Heap) : Prop where
  stays : ∀ b o, h₀.get? b = some o → h.get? b = some o
  holds : ∀ a o, σ a = some o → Holds h a o
  above : ∀ a, Mut σ a → h₀.get? a = none
  small : ∀ a o, σ a = some o → o.small

def Keep (σ : Hp) (h h' : Heap) : Prop := ∀ a o, ¬ Mut σ a → h.get? a = some o → h'.get? a = some o
def Grow (σ : Hp) (h : Heap) (σ' : Hp) : Prop := ∀ a, (Mut σ' a → Mut σ a ∨ h.get? a = none) ∧ (σ' a ≠ none → σ a ≠ none ∨ h.get? a = none)

theorem Grow.refl (σ : Hp) (h : Heap) : Grow σ h σ := fun _ => ⟨.inl, .inl⟩
theorem Grow.not {σ σ' : Hp} {h : Heap} (g : Grow σ h σ') {a : Addr} {o : Obj} (e : h.get? a = some o) (n : ¬ Mut σ a) : ¬ Mut σ' a := fun m =>
  ((g a).1 m).elim n fun q => by rw [e] at q; cases q
theorem Grow.none {σ σ' : Hp} {h : Heap} (g : Grow σ h σ') {a : Addr} {o : Obj} (e : h.get? a = some o) (n : σ a = none) : σ' a = none := by
  cases q : σ' a with
  | none => rfl
  | some p => exact (((g a).2 (by rw [q]; simp)).elim (fun r => r n) fun r => by rw [e] at r; cases r).elim

theorem holds_not_imm {h : Heap} {a : Addr} {o : AObj} {p : Obj} (x : Holds h a o) (e : h.get? a = some p) (i : Imm p) : False := by
  cases o with
  | list xs => obtain ⟨_, n, e2, _⟩ := x; rw [e] at e2; cases e2; rcases i with i | i | i <;> simp [LObj] at i
  | flist xs => obtain ⟨_, ⟨o2, e2, c2, n, d2⟩, _⟩ := x; rw [e] at e2; cases e2; rcases i with ⟨i, _⟩ | ⟨i, _⟩ | ⟨fd, i⟩ <;> simp_all
  | iter l i' => obtain ⟨o2, e2, c2, d2⟩ := x; rw [e] at e2; cases e2; rcases i with ⟨i, _⟩ | ⟨i, _⟩ | ⟨fd, i⟩ <;> simp_all

def Tups (h h' : Heap) : Prop := ∀ a o, h.get? a = some o → Imm o → h'.get? a = some o
theorem tup_keep {h₀ : Heap} {σ : Hp} {h h' : Heap} (w : W h₀ σ h) (k : Keep σ h h') : Tups h h' := fun a p e i =>
  k a p (fun ⟨o, q, _⟩ => holds_not_imm (w.holds a o q) e i) e
theorem Tups.tup {h h' : Heap} (k : Tups h h') {a : Addr} {vs : Array Value} (y : IsTup h a vs) : IsTup h' a vs := by
  obtain ⟨o1, e1, c, n, r⟩ := y; exact ⟨o1, k a o1 e1 (.inl ⟨c, _, _, r⟩), c, n, r⟩
mutual
theorem Rep.tups {h h' : Heap} (k : Tups h h') : ∀ {v : Value} {x : V}, Rep h v x → Rep h' v x
  | _, _, .none => .none
  | _, _, .bool b => .bool b
  | _, _, .int i t => .int i t
  | _, _, .str s t => .str s t
  | _, _, .ref a => .ref a
  | _, _, .val v => .val v
  | _, _, .tup y r => .tup (k.tup y) (Reps.tups k r)
  | _, _, .rng y => .rng (k _ _ y (.inr (.inl ⟨rfl, _, rfl⟩)))
theorem Reps.tups {h h' : Heap} (k : Tups h h') : ∀ {vs : List Value} {xs : List V}, Reps h vs xs → Reps h' vs xs
  | _, _, .nil => .nil
  | _, _, .cons r rs => .cons (Rep.tups k r) (Reps.tups k rs)
end

/-- a step of the run: what is not under σ and not one's own stays -/
structure StepX (own : Addr → Prop) (h₀ : Heap) (σ : Hp) (h : Heap) (σ' : Hp) (h' : Heap) : Prop where
  w : W h₀ σ' h'
  keep : ∀ a o, ¬ Mut σ a → ¬ own a → h.get? a = some o → h'.get? a = some o
  grow : Grow σ h σ'
  tups : Tups h h'
  alive : ∀ a o, h.get? a = some o → ∃ o', h'.get? a = some o'
def nobody : Addr → Prop := fun _ => False
abbrev Step (h₀ : Heap) (σ : Hp) (h : Heap) (σ' : Hp) (h' : Heap) : Prop := StepX nobody h₀ σ h σ' h'
theorem Step.of {h₀ : Heap} {σ : Hp} {h : Heap} {σ' : Hp} {h' : Heap} (w₀ : W h₀ σ h) (w : W h₀ σ' h') (k : Keep σ h h') (g : Grow σ h σ') (al : ∀ a o, h.get? a = some o → ∃ o', h'.get? a = some o') : Step h₀ σ h σ' h' :=
  ⟨w, fun a o n _ e => k a o n e, g, tup_keep w₀ k, al⟩
theorem Step.keeps {h₀ : Heap} {σ : Hp} {h : Heap} {σ' : Hp} {h' : Heap} (s : Step h₀ σ h σ' h') : Keep σ h h' := fun a o n e => s.keep a o n (fun f => f) e
theorem StepX.more {own own' : Addr → Prop} {h₀ : Heap} {σ : Hp} {h : Heap} {σ' : Hp} {h' : Heap} (s : StepX own h₀ σ h σ' h') (i : ∀ a, own a → own' a) : StepX own' h₀ σ h σ' h' :=
  ⟨s.w, fun a o n m e => s.keep a o n (fun q => m (i a q)) e, s.grow, s.tups, s.alive⟩
theorem Step.any {own : Addr → Prop} {h₀ : Heap} {σ : Hp} {h : Heap} {σ' : Hp} {h' : Heap} (s : Step h₀ σ h σ' h') : StepX own h₀ σ h σ' h' := s.more fun _ f => f.elim
theorem StepX.refl {own : Addr → Prop} {h₀ : Heap} {σ : Hp} {h : Heap} (w : W h₀ σ h) : StepX own h₀ σ h σ h := ⟨w, fun _ _ _ _ e => e, .refl _ _, fun _ _ e _ => e, fun _ o e => ⟨o, e⟩⟩
theorem StepX.trans {own : Addr → Prop} {h₀ : Heap} {σ σ' σ'' : Hp} {h h' h'' : Heap} (x : StepX own h₀ σ h σ' h') (y : StepX own h₀ σ' h' σ'' h'') : StepX own h₀ σ h σ'' h'' :=
  ⟨y.w, fun a o n m e => y.keep a o (x.grow.not e n) m (x.keep a o n m e), (fun a => by
    have key : h'.get? a = none → h.get? a = none := fun q => by
      cases e : h.get? a with
      | none => rfl
      | some o => obtain ⟨o', e'⟩ := x.alive a o e; rw [e'] at q; exact absurd q (by simp)
    refine ⟨fun m => ?_, fun m => ?_⟩
    · rcases (y.grow a).1 m with q | q
      · exact (x.grow a).1 q
      · exact .inr (key q)
    · rcases (y.grow a).2 m with q | q
      · exact (x.grow a).2 q
      · exact .inr (key q)),
   fun a o e i => y.tups a o (x.tups a o e i) i, fun a o e => (x.alive a o e).elim fun o' e' => y.alive a o' e'⟩
theorem Step.trans {h₀ : Heap} {σ σ' σ'' : Hp} {h h' h'' : Heap} (x : Step h₀ σ h σ' h') (y : Step h₀ σ' h' σ'' h'') : Step h₀ σ h σ'' h'' := StepX.trans x y
theorem Rep.step {own : Addr → Prop} {h₀ : Heap} {σ σ' : Hp} {h h' : Heap} {v : Value} {x : V} (r : Rep h v x) (s : StepX own h₀ σ h σ' h') : Rep h' v x := r.tups s.tups
theorem Reps.step {own : Addr → Prop} {h₀ : Heap} {σ σ' : Hp} {h h' : Heap} {v : List Value} {x : List V} (r : Reps h v x) (s : StepX own h₀ σ h σ' h') : Reps h' v x := r.tups s.tups

theorem Reps.ind {h : Heap} {P : List Value → List V → Prop} (n : P [] []) (c : ∀ {v x vs xs}, Rep h v x → Reps h vs xs → P vs xs → P (v :: vs) (x :: xs)) : ∀ {vs : List Value} {xs : List V}, Reps h vs xs → P vs xs
  | _, _, .nil => n
  | _, _, .cons a r => c a r (Reps.ind n c r)
theorem Reps.length {h : Heap} {vs : List Value} {xs : List V} (r : Reps h vs xs) : vs.length = xs.length := r.ind (P := fun vs xs => vs.length = xs.length) rfl fun _ _ ih => congrArg (· + 1) ih
theorem Reps.append {h : Heap} {vs ws : List Value} {xs ys : List V} (r : Reps h vs xs) (q : Reps h ws ys) : Reps h (vs ++ ws) (xs ++ ys) := r.ind (P := fun vs xs => Reps h (vs ++ ws) (xs ++ ys)) q fun a _ ih => .cons a ih
theorem Reps.get {h : Heap} {vs : List Value} {xs : List V} (r : Reps h vs xs) : ∀ {i : Nat} {x : V}, xs[i]? = some x → ∃ v, vs[i]? = some v ∧ Rep h v x :=
  r.ind (P := fun vs xs => ∀ {i : Nat} {x : V}, xs[i]? = some x → ∃ v, vs[i]? = some v ∧ Rep h v x) (fun e => by simp at e) fun a _ ih => by
    intro i x e
    cases i with
    | zero => simp at e; subst e; exact ⟨_, rfl, a⟩
    | succ i => simp at e; simpa using ih e
theorem Reps.getRev {h : Heap} {vs : List Value} {xs : List V} (r : Reps h vs xs) : ∀ {i : Nat} {v : Value}, vs[i]? = some v → ∃ x, xs[i]? = some x ∧ Rep h v x :=
  r.ind (P := fun vs xs => ∀ {i : Nat} {v : Value}, vs[i]? = some v → ∃ x, xs[i]? = some x ∧ Rep h v x) (fun e => by simp at e) fun a _ ih => by
    intro i x e
    cases i with
    | zero => simp at e; subst e; exact ⟨_, rfl, a⟩
    | succ i => simp at e; simpa using ih e
theorem Reps.set {h : Heap} {vs : List Value} {xs : List V} (r : Reps h vs xs) : ∀ (i : Nat) {v : Value} {x : V}, Rep h v x → Reps h (vs.set i v) (xs.set i x) :=
  r.ind (P := fun vs xs => ∀ (i : Nat) {v : Value} {x : V}, Rep h v x → Reps h (vs.set i v) (xs.set i x)) (fun _ _ _ _ => .nil) fun a r ih => by
    intro i v x e
    cases i with
    | zero => exact .cons e r
    | succ i => exact .cons a (ih i e)
theorem reps_erase {h : Heap} {vs : List Value} {xs : List V} (r : Reps h vs xs) : ∀ (i : Nat), Reps h (vs.eraseIdx i) (xs.eraseIdx i) :=
  r.ind (P := fun vs xs => ∀ (i : Nat), Reps h (vs.eraseIdx i) (xs.eraseIdx i)) (fun _ => .nil) fun a r ih i => by
    cases i with
    | zero => exact r
    | succ i => exact .cons a (ih i)
theorem Reps.reverse {h : Heap} {vs : List Value} {xs : List V} (r : Reps h vs xs) : Reps h vs.reverse xs.reverse :=
  r.ind (P := fun vs xs => Reps h vs.reverse xs.reverse) .nil fun a _ ih => by simp only [List.reverse_cons]; exact ih.append (.cons a .nil)
theorem Reps.filterMap {h : Heap} {vs : List Value} {xs : List V} (r : Reps h vs xs) : ∀ js : List Nat, Reps h (js.filterMap (vs[·]?)) (js.filterMap (xs[·]?))
  | [] => .nil
  | j :: js => by
    simp only [List.filterMap_cons]
    cases e : vs[j]? with
    | none =>
      have : xs[j]? = none := by
        rw [List.getElem?_eq_none_iff] at e ⊢; rw [← r.length]; exact e
      rw [this]; exact r.filterMap js
    | some v =>
      obtain ⟨x, e', rr⟩ := r.getRev e
      rw [e']; exact .cons rr (r.filterMap js)

theorem upd_small {σ : Hp} {a : Addr} {o : AObj} (h : ∀ a o, σ a = some o → o.small) (sm : o.small) : ∀ b p, upd σ a o b = some p → p.small := fun b p e => by
  unfold upd at e; split at e
  · cases e; exact sm
  · exact h b p e
theorem upd_grow {σ : Hp} {h : Heap} {a : Addr} {o : AObj} (n : Mut σ a ∨ h.get? a = none) : Grow σ h (upd σ a o) := fun b => by
  by_cases q : b = a
  · subst q; exact ⟨fun _ => n, fun _ => n.imp (fun ⟨p, e, _⟩ => by rw [e]; simp) id⟩
  · unfold Mut; rw [upd_ne _ _ q]; exact ⟨.inl, .inl⟩
/-- a new object at a fresh address, put under σ -/
theorem get_push_none (h : Heap) : h.get? h.objs.size = none := by
  cases e : h.get? h.objs.size with
  | none => rfl
  | some o => exact absurd (Heap.lt_size e) (Nat.lt_irrefl _)
theorem W.fresh {h₀ : Heap} {σ : Hp} {h : Heap} (w : W h₀ σ h) {a : Addr} (e : h.get? a = none) : σ a = none := by
  cases q : σ a with
  | none => rfl
  | some o =>
    have := w.holds a o q
    cases o with
    | list xs => obtain ⟨_, _, e2, _⟩ := this; rw [e] at e2; cases e2
    | flist xs => obtain ⟨_, ⟨o2, e2, _⟩, _⟩ := this; rw [e] at e2; cases e2
    | iter l i => obtain ⟨o2, e2, _⟩ := this; rw [e] at e2; cases e2
theorem Holds.alive {h : Heap} {a : Addr} {o : AObj} (x : Holds h a o) : ∃ b, h.get? a = some b := by
  cases o with
  | list xs => obtain ⟨vs, n, e2, rr⟩ := x; exact ⟨_, e2⟩
  | flist xs => obtain ⟨vs, ⟨o2, e2, r⟩, rr⟩ := x; exact ⟨_, e2⟩
  | iter l i => obtain ⟨o2, e2, r⟩ := x; exact ⟨_, e2⟩
theorem Holds.keep {h₀ : Heap} {σ : Hp} {h h' : Heap} (w : W h₀ σ h) (k : Keep σ h h') {a : Addr} {o : AObj} (x : Holds h a o) (same : ∀ b, h.get? a = some b → h'.get? a = some b) : Holds h' a o := by
  cases o with
  | list xs => obtain ⟨vs, n, e2, rr⟩ := x; exact ⟨vs, n, same _ e2, rr.tups (tup_keep w k)⟩
  | flist xs => obtain ⟨vs, ⟨o2, e2, r⟩, rr⟩ := x; exact ⟨vs, ⟨o2, same _ e2, r⟩, rr.tups (tup_keep w k)⟩
  | iter l i => obtain ⟨o2, e2, r⟩ := x; exact ⟨o2, same _ e2, r⟩
/-- only new objects: all that was stays -/
theorem W.extend {h₀ : Heap} {σ : Hp} {h h' : Heap} (w : W h₀ σ h) (k : ∀ b o, h.get? b = some o → h'.get? b = some o) : Step h₀ σ h σ h' := by
  have kk : Keep σ h h' := fun a o _ e => k a o e
  exact .of w ⟨fun b o e => k b o (w.stays b o e), fun a o e => (w.holds a o e).keep w kk (fun b => k a b), w.above, w.small⟩ kk (.refl _ _) (fun a o e => ⟨o, k a o e⟩)
/-- a new object of the abstract heap -/
theorem W.alloc {h₀ : Heap} {σ : Hp} {h h' : Heap} (w : W h₀ σ h) (k : ∀ b o, h.get? b = some o → h'.get? b = some o) {a : Addr} (n : h.get? a = none) {o : AObj} (x : Holds h' a o) (sm : o.small) : Step h₀ σ h (upd σ a o) h' := by
  have kk : Keep σ h h' := fun a o _ e => k a o e
  refine .of w ⟨fun b o e => k b o (w.stays b o e), fun b p e => ?_, fun b m => ?_, upd_small w.small sm⟩ kk (upd_grow (.inr n)) (fun a o e => ⟨o, k a o e⟩)
  · unfold upd at e; split at e
    · rename_i q; subst q; cases e; exact x
    · exact (w.holds b p e).keep w kk (fun b' => k b b')
  · by_cases q : b = a
    · subst q
      cases r : h₀.get? b with
      | none => rfl
      | some o' => rw [w.stays b o' r] at n; cases n
    · obtain ⟨p, e, mm⟩ := m; rw [upd_ne _ _ q] at e; exact w.above b ⟨p, e, mm⟩
/-- a change of one mutable object -/
theorem W.change {h₀ : Heap} {σ : Hp} {h h' : Heap} (w : W h₀ σ h) {a : Addr} (m : Mut σ a) (k : Heap.ExtBut a h h') {o : AObj} (x : Keep σ h h' → Holds h' a o) (sm : o.small) : Step h₀ σ h (upd σ a o) h' := by
  have kk : Keep σ h h' := fun b o n e => k b o (by rintro rfl; exact n m) e
  refine .of w ⟨fun b o e => ?_, fun b p e => ?_, fun b m' => ?_, upd_small w.small sm⟩ kk (upd_grow (.inl m)) (fun b p e => by
    by_cases q : b = a
    · subst q; exact (x kk).alive
    · exact ⟨p, k b p q e⟩)
  · refine k b o ?_ (w.stays b o e)
    rintro rfl; rw [w.above b m] at e; cases e
  · unfold upd at e; split at e
    · rename_i q; subst q; cases e; exact x kk
    · rename_i q; exact (w.holds b p e).keep w kk (fun b' => k b b' q)
  · by_cases q : b = a
    · subst q; exact w.above b m
    · obtain ⟨p, e, mm⟩ := m'; rw [upd_ne _ _ q] at e; exact w.above b ⟨p, e, mm⟩
/-- an object that lies there already is put under σ -/
theorem W.adopt {h₀ : Heap} {σ : Hp} {h : Heap} (w : W h₀ σ h) {a : Addr} (f : h₀.get? a = none) {o : AObj} (x : Holds h a o) (sm : o.small) : W h₀ (upd σ a o) h := by
  refine ⟨w.stays, fun b p e => ?_, fun b m => ?_, upd_small w.small sm⟩
  · unfold upd at e; split at e
    · rename_i q; subst q; cases e; exact x
    · exact w.holds b p e
  · by_cases q : b = a
    · subst q; exact f
    · obtain ⟨p, e, mm⟩ := m; rw [upd_ne _ _ q] at e; exact w.above b ⟨p, e, mm⟩
theorem LObj.isList {h : Heap} {a : Addr} {vs : List Value} {n : Nat} (e : h.get? a = some (LObj vs n)) : h.IsList a vs.toArray := ⟨_, e, rfl, n, rfl⟩
theorem LObj.mapSeq (vs : List Value) (n : Nat) (f : Array Value → Array Value) : ∃ m, (LObj vs n).mapSeq f = LObj (f vs.toArray).toList m := ⟨_, rfl⟩
theorem LObj.update {h : Heap} {a : Addr} {vs : List Value} {n : Nat} (e : h.get? a = some (LObj vs n)) (f : Array Value → Array Value) :
    ∃ m, (h.update a (Obj.mapSeq f)).get? a = some (LObj (f vs.toArray).toList m) := by
  obtain ⟨m, q⟩ := LObj.mapSeq vs n f
  exact ⟨m, by rw [← q]; exact Heap.get?_update_self _ e rfl⟩

def listAt (σ : Hp) (a : Addr) : Option (List V) := match σ a with | some (.list xs) => some xs | some (.flist xs) => some xs | _ => none
theorem listAt_list {σ : Hp} {a : Addr} {xs : List V} (h : σ a = some (.list xs)) : listAt σ a = some xs := by unfold listAt; rw [h]
theorem listAt_flist {σ : Hp} {a : Addr} {xs : List V} (h : σ a = some (.flist xs)) : listAt σ a = some xs := by unfold listAt; rw [h]
theorem W.list {h₀ : Heap} {σ : Hp} {h : Heap} (w : W h₀ σ h) {a : Addr} {xs : List V} (e : listAt σ a = some xs) : ∃ vs : List Value, h.IsList a vs.toArray ∧ Reps h vs xs := by
  unfold listAt at e
  split at e
  · cases e; rename_i q; obtain ⟨vs, n, g, r⟩ := w.holds _ _ q; exact ⟨vs, LObj.isList g, r⟩
  · cases e; rename_i q; exact w.holds _ _ q
  · cases e
theorem W.mlist {h₀ : Heap} {σ : Hp} {h : Heap} (w : W h₀ σ h) {a : Addr} {xs : List V} (e : σ a = some (.list xs)) : ∃ (vs : List Value) (n : Nat), h.get? a = some (LObj vs n) ∧ Reps h vs xs := w.holds _ _ e
/-- a mutable list of σ changed by a map of its items -/
theorem W.mapSeq {h₀ : Heap} {σ : Hp} {h : Heap} (w : W h₀ σ h) {a : Addr} {xs : List V} (e : σ a = some (.list xs)) {vs : List Value} {n : Nat} (g : h.get? a = some (LObj vs n)) (f : Array Value → Array Value) {ys : List V}
    (r : Reps h (f vs.toArray).toList ys) (sm : ys.length ≤ BIG) : Step h₀ σ h (upd σ a (.list ys)) (h.update a (Obj.mapSeq f)) :=
  w.change ⟨_, e, rfl⟩ (Heap.SameBut.update ..).extBut (fun k => by
    obtain ⟨m, q⟩ := LObj.update g f
    exact ⟨_, m, q, r.tups (tup_keep w k)⟩) sm
theorem W.len {h₀ : Heap} {σ : Hp} {h : Heap} (w : W h₀ σ h) {a : Addr} {xs : List V} (e : listAt σ a = some xs) : xs.length ≤ BIG := by
  unfold listAt at e
  split at e
  · cases e; rename_i q; exact w.small _ _ q
  · cases e; rename_i q; exact w.small _ _ q
  · cases e

/-! N2 -/
/-- room of the machine for n calls more -/
structure Room (A : Around) (n : Nat) : Prop where
  handled : A.handled = none
  depth : A.depth + n ≤ 800
  units : A.units + 4 * n ≤ 9000
  env : ∃ env l, A.frames = some (env :: l) ∧ env.scope.isGenerator = false ∧ env.scope.isCoroutine = false ∧ env.builtins = builtinsNs ∧ env.globals = mainGlobals
theorem Room.le {A : Around} {n m : Nat} (r : Room A n) (h : m ≤ n) : Room A m := ⟨r.handled, by have := r.depth; omega, by have := r.units; omega, r.env⟩

/-- the ground -/
structure Gnd (prog : Program) (h₀ : Heap) (mg mb : Str → Option Value) : Prop where
  g : h₀.Ns mainGlobals mg
  b : h₀.Ns builtinsNs mb
  nolimit : h₀.NoLimit
  seer : h₀.NoSeer
  tree : prog.given.tree = none
  boot : ∀ x : Str, x ≠ "__name__" → mb x = bootBuiltins x

def PV (h₀ : Heap) (σ : Hp) (s : Shared) (Q : V → Hp → Prop) (v : Value) (s' : Shared) : Prop := ∃ x σ', Rep s'.heap v x ∧ (Step h₀ σ s.heap σ' s'.heap ∧ Sm s s') ∧ Q x σ'
def E0 : Value → Shared → Prop := fun _ _ => False
theorem BIG_le : BIG ≤ sizeLine := by decide
theorem big_line {n : Nat} (h : n ≤ BIG) : n ≤ sizeLine := Nat.le_trans h BIG_le
def newL (xs : List V) (Q : V → Hp → Prop) (σ : Hp) : Prop := xs.length ≤ BIG ∧ ∀ a, σ a = none → Q (.ref a) (upd σ a (.list xs))

section
variable {prog : Program} {w : World} {A : Around} {s : Shared} {h₀ : Heap} {mg mb : Str → Option Value} {σ : Hp} {Q : V → Hp → Prop}

theorem PV.same {v : Value} {x : V} (hw : W h₀ σ s.heap) (r : Rep s.heap v x) (q : Q x σ) (tk : Nat) : PV h₀ σ s Q v { s with toks := tk } := ⟨x, σ, r, ⟨.refl hw, .rfl⟩, q⟩
theorem PV.same' {v : Value} {x : V} (hw : W h₀ σ s.heap) (r : Rep s.heap v x) (q : Q x σ) : PV h₀ σ s Q v s := ⟨x, σ, r, ⟨.refl hw, .rfl⟩, q⟩
/-- a new list behind a push -/
theorem PV.push (hw : W h₀ σ s.heap) {vs : List Value} {xs : List V} {n : Nat} (r : Reps s.heap vs xs) (q : newL xs Q σ) (tk : Nat) :
    PV h₀ σ s Q (.ref s.heap.objs.size) { s with heap := s.heap.push (LObj vs n), toks := tk } := by
  have k : ∀ b o, s.heap.get? b = some o → (s.heap.push (LObj vs n)).get? b = some o := fun b o e => Heap.get?_push_of_some _ e
  have x : Step h₀ σ s.heap (upd σ s.heap.objs.size (.list xs)) (s.heap.push (LObj vs n)) :=
    hw.alloc k (get_push_none _) ⟨vs, n, Heap.get?_push_size _ rfl, r.tups (fun a o e _ => k a o e)⟩ q.1
  exact ⟨_, _, .ref _, ⟨x, Eq.refl _, Eq.refl _⟩, q.2 _ (hw.fresh (get_push_none _))⟩
/-- a new list at any fresh address -/
theorem PV.new (hw : W h₀ σ s.heap) {vs : List Value} {xs : List V} {n : Nat} {a : Addr} {s' : Shared} (k : ∀ b o, s.heap.get? b = some o → s'.heap.get? b = some o) (f : s.heap.get? a = none)
    (g : s'.heap.get? a = some (LObj vs n)) (r : Reps s.heap vs xs) (q : newL xs Q σ) (m : Sm s s' := by exact ⟨rfl, rfl⟩) : PV h₀ σ s Q (.ref a) s' :=
  ⟨_, _, .ref _, ⟨hw.alloc (o := .list xs) k f ⟨vs, n, g, r.tups (fun a o e _ => k a o e)⟩ q.1, m⟩, q.2 _ (hw.fresh f)⟩

/-- what an operator asks, told by the machine itself -/
structure BinS (op : Operator) (a b : V) (Q : V → Hp → Prop) (σ : Hp) : Prop where
  go : ∀ ⦃prog : Program⦄ ⦃w : World⦄ ⦃A : Around⦄ ⦃s : Shared⦄ ⦃h₀ : Heap⦄ ⦃mg mb : Str → Option Value⦄ ⦃n : Nat⦄ ⦃va vb : Value⦄, Gnd prog h₀ mg mb → Room A n → W h₀ σ s.heap → Rep s.heap va a → Rep s.heap vb b →
  wpAny (model prog w) A (binaryOp op va vb) (PV h₀ σ s Q) E0 s
def binI (op : Operator) (x y : Int) (Q : V → Hp → Prop) (σ : Hp) : Prop := match op with
  | .Add => Q (.int (x + y)) σ
  | .Sub => Q (.int (x - y)) σ
  | .Mult => IntMulOk x y ∧ Q (.int (x * y)) σ
  | .FloorDiv => y ≠ 0 ∧ Q (.int (x.fdiv y)) σ
  | .Mod => y ≠ 0 ∧ Q (.int (x.fmod y)) σ
  | .RShift => 0 ≤ x ∧ y = 1 ∧ Q (.int (x / 2)) σ
  | .Pow => 0 ≤ y ∧ y ≤ 1000 ∧ x.natAbs < 2 ^ 64 ∧ Q (.int (x ^ y.toNat)) σ
  | _ => False
def opBin (op : Operator) (a b : V) (Q : V → Hp → Prop) (σ : Hp) : Prop := match a, b with
  | .int x, .int y => binI op x y Q σ
  | a, b => BinS op a b Q σ

theorem pylong (G : Gnd prog h₀ mg mb) (hw : W h₀ σ s.heap) {n : Nat} (R : Room A n) : PylongRoom (model prog w) A s := by
  obtain ⟨env, l, h1, h2, h3, h4, h5⟩ := R.env
  refine PylongRoom.of (G.nolimit.keeps hw.stays) (by have := R.depth; show A.depth + 100 < 1000; omega) (SeerAt.of (G.seer.keeps hw.stays) G.tree h1 h2 h3 h4 h5)

theorem opBin_ok (G : Gnd prog h₀ mg mb) {n : Nat} (R : Room A n) (hw : W h₀ σ s.heap) {op : Operator} {a b : V} {va vb : Value} (ra : Rep s.heap va a) (rb : Rep s.heap vb b) (h : opBin op a b Q σ) :
    wpAny (model prog w) A (binaryOp op va vb) (PV h₀ σ s Q) E0 s := by
  unfold opBin at h
  split at h
  · cases ra; cases rb
    cases op with
    | Add => exact add_int (PV.same hw (.int _ _) h _)
    | Sub => exact sub_int' (PV.same hw (.int _ _) h _)
    | Mult => exact mul_int (PV.same hw (.int _ _) h.2 _) h.1
    | FloorDiv => exact floordiv_int h.1 (PV.same hw (.int _ _) h.2 _) (.inr (pylong G hw R))
    | Mod => exact mod_int' h.1 (PV.same hw (.int _ _) h.2 _)
    | RShift => obtain ⟨h1, rfl, h3⟩ := h; exact wpAny_rshift1_int h1 (PV.same hw (.int _ _) h3 _)
    | Pow => exact pow_int_small h.1 (by have := h.2.1; omega) h.2.2.1 (PV.same hw (.int _ _) h.2.2.2 _)
    | _ => exact h.elim
  · exact h.go G R hw ra rb
theorem add_lists {x y : Addr} {xs ys : List V} (e1 : listAt σ x = some xs) (e2 : listAt σ y = some ys) (q : newL (xs ++ ys) Q σ) : opBin .Add (.ref x) (.ref y) Q σ := by
  refine BinS.mk ?_
  intro prog w A s h₀ mg mb n va vb G R hw ra rb
  cases ra; cases rb
  obtain ⟨vs, hl, r1⟩ := hw.list e1
  obtain ⟨ws, hb, r2⟩ := hw.list e2
  have hsz : vs.length + ws.length ≤ sizeLine := big_line (by have := q.1; rw [List.length_append] at this; rw [r1.length, r2.length]; exact this)
  obtain ⟨⟨cls, dd, data, sl⟩, ho, hc, n, hd⟩ := id hl
  obtain ⟨⟨cls2, dd2, data2, sl2⟩, ho2, hc2, n2, hd2⟩ := id hb
  simp only at hc hd hc2 hd2
  subst hc hd hc2 hd2
  have e : vs.toArray ++ ws.toArray = (vs ++ ws).toArray := by simp
  refine concat_meets ⟨_, ho, rfl⟩ ⟨_, ho2, rfl⟩ noFill_list_add seq_list_add PySem.F.slot_list_add PySem.F.entry_list_add (PySem.F.args_list_add_2 _ _) (list_addW x y vs.toArray ws.toArray n n2 dd dd2 sl sl2 (by simpa using hsz)) ⟨ho, ho2, ?_⟩
  rw [e]
  exact PV.push (n := 0) hw (r1.append r2) q _
end

/-! N3 -/
/-! data, for == -/
mutual
inductive Dat (σ : Hp) : V → PyData → Prop
  | none : Dat σ .none .none
  | bool (b : Bool) : Dat σ (.bool b) (.bool b)
  | int (i : Int) : Dat σ (.int i) (.int i)
  | str (s : Str) : PyData.strOk s = true → Dat σ (.str s) (.str s)
  | tup {xs : List V} {ds : List PyData} : Dats σ xs ds → Dat σ (.tup xs) (.tuple ds)
  | list {a : Addr} {xs : List V} {ds : List PyData} : listAt σ a = some xs → Dats σ xs ds → Dat σ (.ref a) (.list ds)
inductive Dats (σ : Hp) : List V → List PyData → Prop
  | nil : Dats σ [] []
  | cons {x : V} {d : PyData} {xs : List V} {ds : List PyData} : Dat σ x d → Dats σ xs ds → Dats σ (x :: xs) (d :: ds)
end
mutual
theorem Dat.lay {σ : Hp} : ∀ {x : V} {d : PyData}, Dat σ x d → d.canLay0 = true
  | _, _, .none => by simp [PyData.canLay0]
  | _, _, .bool _ => by simp [PyData.canLay0]
  | _, _, .int _ => by simp [PyData.canLay0]
  | _, _, .str _ h => by simpa [PyData.canLay0] using h
  | _, _, .tup h => by simpa [PyData.canLay0] using Dats.lay h
  | _, _, .list _ h => by simpa [PyData.canLay0] using Dats.lay h
theorem Dats.lay {σ : Hp} : ∀ {xs : List V} {ds : List PyData}, Dats σ xs ds → PyData.canLayAll0 ds = true
  | _, _, .nil => by simp [PyData.canLayAll0]
  | _, _, .cons a b => by simp [PyData.canLayAll0, Dat.lay a, Dats.lay b]
end
mutual
theorem Dat.reads {h₀ : Heap} {σ : Hp} {h : Heap} (w : W h₀ σ h) : ∀ {x : V} {d : PyData}, Dat σ x d → ∀ {v : Value}, Rep h v x → ∃ as, Reads h v d as
  | _, _, .none => fun r => by cases r; exact ⟨_, .none⟩
  | _, _, .bool _ => fun r => by cases r; exact ⟨_, .bool _⟩
  | _, _, .int _ => fun r => by cases r; exact ⟨_, .int _ _⟩
  | _, _, .str _ _ => fun r => by cases r; exact ⟨_, .str _ _⟩
  | _, _, .tup h1 => fun r => by
    cases r with
    | tup y r =>
    obtain ⟨as, q⟩ := Dats.reads w h1 r
    obtain ⟨o, e, c, n, dd⟩ := y
    exact ⟨_, .tuple e c dd q⟩
  | _, _, .list e h1 => fun r => by
    cases r
    obtain ⟨vs, ⟨o, e, c, n, dd⟩, r⟩ := w.list e
    obtain ⟨as, q⟩ := Dats.reads w h1 r
    exact ⟨_, .list e c dd q⟩
theorem Dats.reads {h₀ : Heap} {σ : Hp} {h : Heap} (w : W h₀ σ h) : ∀ {xs : List V} {ds : List PyData}, Dats σ xs ds → ∀ {vs : List Value}, Reps h vs xs → ∃ as, ReadsAll h vs ds as
  | _, _, .nil => fun r => by cases r; exact ⟨_, .nil⟩
  | _, _, .cons a b => fun r => by
    cases r with
    | cons r rs =>
    obtain ⟨as, q⟩ := Dat.reads w a r
    obtain ⟨bs, q'⟩ := Dats.reads w b rs
    exact ⟨_, .cons q q'⟩
end

/-! items -/
def nth (xs : List V) (k : Int) : Option V := if 0 ≤ k then xs[k.toNat]? else if -(xs.length : Int) ≤ k then xs[(k + xs.length).toNat]? else none
theorem nth_lt {xs : List V} {k : Int} {x : V} (h : nth xs k = some x) : -(xs.length : Int) ≤ k ∧ k < xs.length := by
  unfold nth at h
  split at h
  · have := (List.getElem?_eq_some_iff.mp h).1; omega
  · split at h
    · omega
    · cases h
theorem seqIndex_pos {k : Int} {n : Nat} (h0 : 0 ≤ k) (h1 : k < n) : seqIndex? k n = some k.toNat := by
  unfold seqIndex?
  dsimp only
  rw [if_neg (by omega : ¬ k < 0)]
  rw [if_pos (by simp only [Bool.and_eq_true, decide_eq_true_eq]; omega)]
/-- what a subscript asks -/
structure opSub (o i : V) (Q : V → Hp → Prop) (σ : Hp) : Prop where
  go : ∀ ⦃prog : Program⦄ ⦃w : World⦄ ⦃A : Around⦄ ⦃s : Shared⦄ ⦃h₀ : Heap⦄ ⦃vo vi : Value⦄ ⦃value slice : Expr⦄, Rep s.heap vo o → Rep s.heap vi i → W h₀ σ s.heap →
  (∀ o i, subscripted slice false o i = operate [o, i] (getItem o i)) → wpAny (model prog w) A (subscriptTail value slice vo vi) (PV h₀ σ s Q) E0 s
section
variable {prog : Program} {w : World} {A : Around} {s : Shared} {h₀ : Heap} {mg mb : Str → Option Value} {σ : Hp} {Q : V → Hp → Prop}

theorem getList_ok {a : Addr} {k : Int} {u : Tok} {xs : List V} {x : V} (hw : W h₀ σ s.heap) (e : listAt σ a = some xs) (hx : nth xs k = some x) (q : Q x σ) :
    wpAny (model prog w) A (getItem (.ref a) (.int k u)) (PV h₀ σ s Q) E0 s := by
  obtain ⟨vs, hl, r⟩ := hw.list e
  have hb := hw.len e
  have hk := nth_lt hx
  have hlen := r.length
  unfold BIG at hb
  unfold nth at hx
  split at hx
  · obtain ⟨v, e1, rr⟩ := r.get hx
    exact wpAny_getItem_list hl (by assumption) (by omega) (by simpa using e1) (PV.same' hw rr q)
  · rename_i hneg
    rw [if_pos hk.1] at hx
    obtain ⟨v, e1, rr⟩ := r.get hx
    exact wpAny_getItem_list_neg hl (by omega) (by simp; omega) (by omega) (by simpa [hlen] using e1) (PV.same' hw rr q)

theorem sub_list {a : Addr} {k : Int} {xs : List V} {x : V} (e : listAt σ a = some xs) (hx : nth xs k = some x) (q : Q x σ) : opSub (.ref a) (.int k) Q σ := by
  refine opSub.mk ?_
  intro prog w A s h₀ vo vi value slice ro ri hw hs
  cases ro; cases ri
  obtain ⟨vs, hl, r⟩ := hw.list e
  exact tail_any hl.typeIs slot_list_getitem.lookup (getList_ok hw e hx q) (hs _ _)
def PU (h₀ : Heap) (σ : Hp) (s : Shared) (Q : Hp → Prop) (s' : Shared) : Prop := ∃ σ', (Step h₀ σ s.heap σ' s'.heap ∧ Sm s s') ∧ Q σ'
structure opSet (o i v : V) (Q : Hp → Prop) (σ : Hp) : Prop where
  go : ∀ ⦃prog : Program⦄ ⦃w : World⦄ ⦃A : Around⦄ ⦃s : Shared⦄ ⦃h₀ : Heap⦄ ⦃vo vi vv : Value⦄, Rep s.heap vo o → Rep s.heap vi i → Rep s.heap vv v → W h₀ σ s.heap →
  wpAny (model prog w) A (setItem vo vi vv) (fun _ => PU h₀ σ s Q) E0 s
theorem set_list {a : Addr} {k : Int} {v : V} {xs : List V} {P : Hp → Prop} (e : σ a = some (.list xs)) (h0 : 0 ≤ k) (hn : k < xs.length) (q : P (upd σ a (.list (xs.set k.toNat v)))) : opSet (.ref a) (.int k) v P σ := by
  refine opSet.mk ?_
  intro prog w A s h₀ vo vi vv ro ri rv hw
  cases ro; cases ri
  rename_i t
  obtain ⟨vs, n, g, r⟩ := hw.mlist e
  have hb := hw.len (listAt_list e)
  have hlen := r.length
  unfold BIG at hb
  have hl : s.heap.IsList a vs.toArray := LObj.isList g
  unfold setItem
  try with_reducible refine wpAny_holding ?_
  first | refine wpAny_bind (wpAny_pure ?_) | skip
  refine wpAny_bind (wpAny_sequenceKey hl.typeIs (by decide) ?_)
  refine wpAny_bind (wpAny_callSpecial?_slot (name := Str.ofString "__setitem__") hl.typeIs slot_list_setitem
    (wpAny_call_entry slot_list_setitem hl.typeIs entry_list_setitem ?_ (args_list_setitem _ _ _)))
  show wpAny _ _ (Builtin.List.listSubscript? (.int k t) >>= _) _ _ s
  refine wpAny_bind (wpAny_listSubscript_int (fitsIndex_of h0 (by omega)) ?_)
  obtain ⟨j, rfl⟩ := Int.eq_ofNat_of_zero_le h0
  have hj : j < vs.toArray.size := by simp; omega
  have hx' : vs.toArray[j]? = some vs.toArray[j] := Array.getElem?_eq_getElem hj
  show wpAny _ _ ((seqItemAt a j >>= fun r => pure (r.map (j, ·))) >>= _) _ _ s
  refine wpAny_bind (wpAny_bind (wpAny_seqItemAt (items := vs.toArray) (n := n) g rfl (wpAny_pure ?_)))
  rw [hx']
  show wpAny _ _ (setSeqItemAt a j vv >>= _) _ _ s
  refine wpAny_bind (wpAny_setSeqItemAt (items := vs.toArray) (n := n) g rfl ?_)
  have fin : PU h₀ σ s P { s with heap := s.heap.update a (Obj.mapSeq (·.setIfInBounds j vv)) } :=
    ⟨_, ⟨hw.mapSeq (ys := xs.set j v) e g (·.setIfInBounds j vv) (by simpa using r.set j rv) (by simp; unfold BIG; omega), Eq.refl _, Eq.refl _⟩, q⟩
  first
    | exact wpAny_bind (wpAny_pure (wpAny_pure ⟨.none, rfl, wpAny_pure fin⟩))
    | exact wpAny_pure ⟨.none, rfl, wpAny_pure fin⟩

/-! comparisons -/
structure CmpS (op : CmpOp) (a b : V) (Q : V → Hp → Prop) (σ : Hp) : Prop where
  go : ∀ ⦃prog : Program⦄ ⦃w : World⦄ ⦃A : Around⦄ ⦃s : Shared⦄ ⦃h₀ : Heap⦄ ⦃n : Nat⦄ ⦃va vb : Value⦄, Room A n → Rep s.heap va a → Rep s.heap vb b → W h₀ σ s.heap →
  wpAny (model prog w) A (compareOp op va vb) (PV h₀ σ s Q) E0 s
def cmpI (op : CmpOp) (x y : Int) (Q : V → Hp → Prop) (σ : Hp) : Prop := match op with
  | .Lt => Q (.bool (decide (x < y))) σ
  | .LtE => Q (.bool (decide (x ≤ y))) σ
  | .Gt => Q (.bool (decide (y < x))) σ
  | .GtE => Q (.bool (decide (y ≤ x))) σ
  | .Eq => Q (.bool (x == y)) σ
  | .NotEq => Q (.bool (x != y)) σ
  | _ => False
def opCmp (op : CmpOp) (a b : V) (Q : V → Hp → Prop) (σ : Hp) : Prop := match a, b with
  | .int x, .int y => cmpI op x y Q σ
  | a, b => CmpS op a b Q σ
theorem opCmp_ok {n : Nat} (R : Room A n) {op : CmpOp} {va vb : Value} {a b : V} (ra : Rep s.heap va a) (rb : Rep s.heap vb b) (hw : W h₀ σ s.heap) (h : opCmp op a b Q σ) :
    wpAny (model prog w) A (compareOp op va vb) (PV h₀ σ s Q) E0 s := by
  unfold opCmp at h
  split at h
  · cases ra; cases rb
    cases op with
    | Lt => exact lt_int (PV.same' hw (.bool _) h)
    | LtE => exact le_int (PV.same' hw (.bool _) h)
    | Gt => exact gt_int (PV.same' hw (.bool _) h)
    | GtE => exact ge_int (PV.same' hw (.bool _) h)
    | Eq => exact eq_int (PV.same' hw (.bool _) h)
    | NotEq => exact ne_int (PV.same' hw (.bool _) h)
    | _ => exact h.elim
  · exact h.go R ra rb hw
/-- equality of data -/
theorem eq_dat {a b : V} {d e : PyData} (h1 : Dat σ a d) (h2 : Dat σ b e) (hd : d.depth ≤ 60) (q : Q (.bool (PyData.eqv d e)) σ) : CmpS .Eq a b Q σ := by
  refine CmpS.mk ?_
  intro prog w A s h₀ n va vb R ra rb hw
  obtain ⟨as, r1⟩ := h1.reads hw ra
  obtain ⟨bs, r2⟩ := h2.reads hw rb
  have hu : A.units ≤ 9000 := by have := R.units; omega
  exact SeqAt.compareEq_reads r1 r2 h1.lay h2.lay (by show _ < 9900; omega) (PV.same' hw (.bool _) q)
theorem ne_dat {a b : V} {d e : PyData} (h1 : Dat σ a d) (h2 : Dat σ b e) (hd : d.depth ≤ 60) (q : Q (.bool (!PyData.eqv d e)) σ) : CmpS .NotEq a b Q σ := by
  refine CmpS.mk ?_
  intro prog w A s h₀ n va vb R ra rb hw
  obtain ⟨as, r1⟩ := h1.reads hw ra
  obtain ⟨bs, r2⟩ := h2.reads hw rb
  have hu : A.units ≤ 9000 := by have := R.units; omega
  exact SeqAt.compareNe_reads r1 r2 h1.lay h2.lay (by show _ < 9900; omega) (PV.same' hw (.bool _) q)

def truth (v : V) (Q : Bool → Hp → Prop) (σ : Hp) : Prop :=
  match v with
  | .none => Q false σ
  | .bool b => Q b σ
  | .int i => Q (i != 0) σ
  | .ref a => ∃ xs, listAt σ a = some xs ∧ Q (!xs.isEmpty) σ
  | _ => False
def PB (h₀ : Heap) (σ : Hp) (s : Shared) (Q : Bool → Hp → Prop) (b : Bool) (s' : Shared) : Prop := ∃ σ', (Step h₀ σ s.heap σ' s'.heap ∧ Sm s s') ∧ Q b σ'
theorem truth_ok {vv : Value} {v : V} {P : Bool → Hp → Prop} (rv : Rep s.heap vv v) (hw : W h₀ σ s.heap) (h : truth v P σ) :
    wpAny (model prog w) A (truthy vv) (PB h₀ σ s P) E0 s := by
  unfold truth at h
  split at h
  · cases rv; exact truthy_none ⟨_, ⟨.refl hw, Eq.refl _, Eq.refl _⟩, h⟩
  · cases rv; exact wpAny_truthy_bool ⟨_, ⟨.refl hw, Eq.refl _, Eq.refl _⟩, h⟩
  · cases rv; exact truthy_int ⟨_, ⟨.refl hw, Eq.refl _, Eq.refl _⟩, h⟩
  · cases rv
    obtain ⟨xs, e, q⟩ := h
    obtain ⟨vs, hl, r⟩ := hw.list e
    have hb := hw.len e
    have hlen := r.length
    unfold BIG at hb
    refine wpAny_truthy_list hl (by simp; omega) ⟨_, ⟨.refl hw, Eq.refl _, Eq.refl _⟩, ?_⟩
    have : (!vs.toArray.isEmpty) = !xs.isEmpty := by
      cases r <;> simp
    rw [this]; exact q
  · exact h.elim
end

/-! N4 -/
inductive BI where
  | len | min | max | sum | range | list | abs | sorted | divmod | reversed | zip | iter | object | str | isinstance
  deriving DecidableEq
def BI.val : BI → Value
  | .len => .builtin "len"
  | .min => .builtin "min"
  | .max => .builtin "max"
  | .sum => .builtin "sum"
  | .range => .type "range"
  | .list => .type "list"
  | .abs => .builtin "abs"
  | .sorted => .builtin "sorted"
  | .divmod => .builtin "divmod"
  | .reversed => .type "reversed"
  | .zip => .type "zip"
  | .iter => .builtin "iter"
  | .object => .type "object"
  | .str => .type "str"
  | .isinstance => .builtin "isinstance"
def BI.name : BI → Str
  | .len => "len" | .min => "min" | .max => "max" | .sum => "sum" | .range => "range" | .list => "list" | .abs => "abs" | .sorted => "sorted" | .divmod => "divmod" | .reversed => "reversed" | .zip => "zip" | .iter => "iter" | .object => "object" | .str => "str" | .isinstance => "isinstance"
def BI.isType : BI → Bool
  | .range => true | .list => true | .reversed => true | .zip => true | .object => true | .str => true | _ => false

def rlen (a b c : Int) : Nat := if 0 < c then (b - a).toNat else (a - b).toNat
def rok (a b c : Int) : Prop := (c = 1 ∨ c = -1) ∧ a.natAbs ≤ 1000000000 ∧ b.natAbs ≤ 1000000000
theorem rok_small {a b c : Int} (h : rok a b c) : Builtin.Range.small a b c = true := by
  obtain ⟨h1, h2, h3⟩ := h
  rcases h1 with rfl | rfl
  · exact small_one (by omega) (by omega) (by omega) (by omega)
  · unfold Builtin.Range.small Builtin.Range.rangeSize Builtin.Range.rangeFitsLong
    rw [if_neg (by decide)]
    simp only [Bool.and_eq_true, decide_eq_true_eq, Bool.or_eq_true, beq_iff_eq]
    split <;> simp <;> omega
theorem rok_size {a b c : Int} (h : rok a b c) : Builtin.Range.rangeSize a b c = (rlen a b c : Nat) := by
  obtain ⟨h1, h2, h3⟩ := h
  unfold Builtin.Range.rangeSize rlen
  rcases h1 with rfl | rfl
  · simp; split <;> omega
  · simp; split <;> omega

section
variable {prog : Program} {w : World} {A : Around} {s : Shared} {h₀ : Heap} {mg mb : Str → Option Value} {σ : Hp} {Q : V → Hp → Prop}

/-- what a call asks -/
structure CallS (fv : Value) (args : List V) (Q : V → Hp → Prop) (σ : Hp) : Prop where
  go : ∀ ⦃prog : Program⦄ ⦃w : World⦄ ⦃A : Around⦄ ⦃s : Shared⦄ ⦃h₀ : Heap⦄ ⦃mg mb : Str → Option Value⦄ ⦃n : Nat⦄ ⦃vargs : List Value⦄, Gnd prog h₀ mg mb → Room A n → Reps s.heap vargs args → W h₀ σ s.heap →
  wpAny (model prog w) A (call fv vargs) (PV h₀ σ s Q) E0 s
def rngC (args : List V) (Q : V → Hp → Prop) (σ : Hp) : Prop := match args with
  | [.int b] => Q (.rng 0 b 1) σ
  | [.int a, .int b] => Q (.rng a b 1) σ
  | [.int a, .int b, .int c] => c ≠ 0 ∧ Q (.rng a b c) σ
  | _ => False
def opCall (f : BI) (args : List V) (Q : V → Hp → Prop) (σ : Hp) : Prop := match f with
  | .range => rngC args Q σ
  | f => CallS f.val args Q σ

theorem one_rep {h : Heap} {vs : List Value} {x : V} (r : Reps h vs [x]) : ∃ v, vs = [v] ∧ Rep h v x := by
  cases r with | cons r1 r2 => cases r2; exact ⟨_, rfl, r1⟩
theorem two_rep {h : Heap} {vs : List Value} {x y : V} (r : Reps h vs [x, y]) : ∃ v u, vs = [v, u] ∧ Rep h v x ∧ Rep h u y := by
  cases r with | cons r1 r2 => obtain ⟨u, rfl, q⟩ := one_rep r2; exact ⟨_, _, rfl, r1, q⟩
theorem range_call {args : List V} (h : rngC args Q σ) : CallS (.type "range") args Q σ := by
  refine CallS.mk ?_
  intro prog w A s h₀ mg mb n vargs G R ra hw
  unfold rngC at h
  split at h
  · obtain ⟨v, rfl, r⟩ := one_rep ra; cases r
    exact call_range_1 ⟨_, σ, .rng (Heap.get?_push_size _ rfl), ⟨hw.extend (fun b o e => Heap.get?_push_of_some _ e), Eq.refl _, Eq.refl _⟩, h⟩
  · obtain ⟨v, u, rfl, r, r'⟩ := two_rep ra; cases r; cases r'
    exact call_range_2 ⟨_, σ, .rng (Heap.get?_push_size _ rfl), ⟨hw.extend (fun b o e => Heap.get?_push_of_some _ e), Eq.refl _, Eq.refl _⟩, h⟩
  · cases ra with | cons r1 r2 => ?_
    obtain ⟨v, u, rfl, r, r'⟩ := two_rep r2; cases r; cases r'; cases r1
    exact call_range_3 h.1 ⟨_, σ, .rng (Heap.get?_push_size _ rfl), ⟨hw.extend (fun b o e => Heap.get?_push_of_some _ e), Eq.refl _, Eq.refl _⟩, h.2⟩ (.inr (pylong G hw R))
  · exact h.elim
theorem opCall_ok {f : BI} {args : List V} (h : opCall f args Q σ) : CallS f.val args Q σ := by
  cases f with
  | range => exact range_call h
  | _ => exact h
theorem call_len {a : Addr} {xs : List V} (e : listAt σ a = some xs) (q : Q (.int xs.length) σ) : opCall .len [.ref a] Q σ := by
  refine CallS.mk ?_
  intro prog w A s h₀ mg mb n vargs G R ra hw
  obtain ⟨v, rfl, r⟩ := one_rep ra; cases r
  obtain ⟨vs, hl, r⟩ := hw.list e
  have hb := hw.len e
  have hlen := r.length
  unfold BIG at hb
  refine Calls.call_len_list hl (by simp; omega) (PV.same hw (.int _ _) ?_ _)
  simp only [List.size_toArray, hlen]; exact q
theorem call_list {a : Addr} {xs : List V} (e : listAt σ a = some xs) (q : newL xs Q σ) : opCall .list [.ref a] Q σ := by
  refine CallS.mk ?_
  intro prog w A s h₀ mg mb n vargs G R ra hw
  obtain ⟨v, rfl, r⟩ := one_rep ra; cases r
  obtain ⟨vs, hl, r⟩ := hw.list e
  have hb := hw.len e
  have hlen := r.length
  obtain ⟨o, ho, hc, n, hd⟩ := id hl
  exact call_list_seq _ (.inl rfl) ho hc hd (fun h' c' k g => PV.new (n := c') hw k (get_push_none _) g r q) (by simp; exact big_line (by omega))
inductive Meth where
  | append | extend | pop | index | reverse | sort
  deriving DecidableEq
def Meth.name : Meth → Str
  | .append => "append" | .extend => "extend" | .pop => "pop" | .index => "index" | .reverse => "reverse" | .sort => "sort"
def Meth.id : Meth → String
  | .append => "list.append" | .extend => "list.extend" | .pop => "list.pop" | .index => "list.index" | .reverse => "list.reverse" | .sort => "list.sort"
/-- what a method asks -/
structure opMeth (m : Meth) (o : V) (args : List V) (Q : V → Hp → Prop) (σ : Hp) : Prop where
  go : ∀ ⦃prog : Program⦄ ⦃w : World⦄ ⦃A : Around⦄ ⦃s : Shared⦄ ⦃h₀ : Heap⦄ ⦃mg mb : Str → Option Value⦄ ⦃n : Nat⦄ ⦃vo : Value⦄ ⦃vargs : List Value⦄, Gnd prog h₀ mg mb → Room A n → Rep s.heap vo o → Reps s.heap vargs args → W h₀ σ s.heap →
  wpAny (model prog w) A (call (.builtin m.id) (vo :: vargs)) (PV h₀ σ s Q) E0 s
theorem m_append {a : Addr} {x : V} {xs : List V} (e : σ a = some (.list xs)) (hb : xs.length < BIG) (q : Q .none (upd σ a (.list (xs ++ [x])))) : opMeth .append (.ref a) [x] Q σ := by
  refine opMeth.mk ?_
  intro prog w A s h₀ mg mb n0 vo vargs G R ro ra hw
  obtain ⟨v, rfl, r1⟩ := one_rep ra
  cases ro
  obtain ⟨vs, n, g, r⟩ := hw.mlist e
  have hlen := r.length
  have hsz : vs.length ≤ sizeLine := big_line (by omega)
  refine call_meets PySem.F.slot_list_append ⟨_, g, rfl⟩ PySem.F.entry_list_append (PySem.F.args_list_append_2 _ _) (AutoListH.list_append_list_val_0 _ vs.toArray n _ (by simpa using hsz)) ⟨g, ?_⟩
  exact ⟨_, _, .none, ⟨hw.mapSeq e g _ (by simpa using r.append (.cons r1 .nil)) (by simp; omega), Eq.refl _, Eq.refl _⟩, q⟩
theorem m_extend {a b : Addr} {xs ys : List V} (e1 : σ a = some (.list xs)) (e2 : σ b = some (.list ys)) (hb : xs.length + ys.length ≤ BIG) (q : Q .none (upd σ a (.list (xs ++ ys)))) : opMeth .extend (.ref a) [.ref b] Q σ := by
  refine opMeth.mk ?_
  intro prog w A s h₀ mg mb n0 vo vargs G R ro ra hw
  obtain ⟨v, rfl, r1⟩ := one_rep ra
  cases ro; cases r1
  obtain ⟨vs, n, g, r⟩ := hw.mlist e1
  obtain ⟨ws, n2, g2, r2⟩ := hw.mlist e2
  have hlen := r.length
  have hlen2 := r2.length
  have hs : sizeLine = 16777216 := by decide
  unfold BIG at hb
  refine call_meets PySem.F.slot_list_extend ⟨_, g, rfl⟩ PySem.F.entry_list_extend (PySem.F.args_list_extend_2 _ _) (AutoSeq1.list_extend_list_list_0 _ vs.toArray n _ ws.toArray n2 (by
    simp [Builtin.List.listTooLong, hs]; omega) (by simp [hs]; omega) (by simp [hs]; omega)) ⟨g, g2, ?_⟩
  exact ⟨_, _, .none, ⟨hw.mapSeq e1 g _ (by simpa using r.append r2) (by simp; unfold BIG; omega), Eq.refl _, Eq.refl _⟩, q⟩
theorem m_pop {a : Addr} {k : Int} {xs : List V} {x : V} (e : σ a = some (.list xs)) (h0 : 0 ≤ k) (hx : xs[k.toNat]? = some x) (q : Q x (upd σ a (.list (xs.eraseIdx k.toNat)))) : opMeth .pop (.ref a) [.int k] Q σ := by
  refine opMeth.mk ?_
  intro prog w A s h₀ mg mb n0 vo vargs G R ro ra hw
  obtain ⟨v, rfl, r1⟩ := one_rep ra
  cases ro; cases r1
  obtain ⟨vs, n, g, r⟩ := hw.mlist e
  have hlen := r.length
  have hb := hw.len (listAt_list e)
  obtain ⟨v, e1, rr⟩ := r.get hx
  have hk := (List.getElem?_eq_some_iff.mp e1).1
  have hs : sizeLine = 16777216 := by decide
  unfold BIG at hb
  refine call_meets PySem.F.slot_list_pop ⟨_, g, rfl⟩ PySem.F.entry_list_pop (PySem.F.args_list_pop_2 _ _) (MeetsSeq.list_pop_at _ vs.toArray n k _ k.toNat v (fitsIndex_of h0 (by omega)) (seqIndex_pos h0 (by simp; omega)) (by simpa using e1) (by simp [hs]; omega)) ⟨g, ?_⟩
  have st := hw.mapSeq (ys := xs.eraseIdx k.toNat) e g (fun xs => xs.eraseIdxIfInBounds k.toNat) (by
    have : (vs.toArray.eraseIdxIfInBounds k.toNat).toList = vs.eraseIdx k.toNat := by simp
    rw [this]
    exact reps_erase r _) (Nat.le_trans (List.length_eraseIdx_le _ _) (by unfold BIG; omega))
  exact ⟨_, _, rr.step st, ⟨st, Eq.refl _, Eq.refl _⟩, q⟩
theorem m_reverse {a : Addr} {xs : List V} (e : σ a = some (.list xs)) (q : Q .none (upd σ a (.list xs.reverse))) : opMeth .reverse (.ref a) [] Q σ := by
  refine opMeth.mk ?_
  intro prog w A s h₀ mg mb n0 vo vargs G R ro ra hw
  cases ra; cases ro
  obtain ⟨vs, n, g, r⟩ := hw.mlist e
  have hlen := r.length
  have hb := hw.len (listAt_list e)
  refine call_meets PySem.F.slot_list_reverse ⟨_, g, rfl⟩ PySem.F.entry_list_reverse (PySem.F.args_list_reverse_1 _) (AutoListH.list_reverse_list_0 _ vs.toArray n (by simp; exact big_line (by omega))) ⟨g, ?_⟩
  exact ⟨_, _, .none, ⟨hw.mapSeq e g _ (by simpa using r.reverse) (by simpa using hb), Eq.refl _, Eq.refl _⟩, q⟩
end

/-! M5 -/
/-! what a text asks of a postcondition -/
inductive Tgt where
  | name (i : Nat)
  | tup (is : List Nat)
inductive IK where
  | plain | enum | rev
  deriving DecidableEq
abbrev Frm := List (Option V)

inductive It where
  | lst (a : Addr) (i : Nat)
  | rng (x : Int) (n : Nat) (c : Int)
  | vals (vs : List V)
  | enm (k : Nat) (a : Addr)

def itStart (k : IK) (x : V) (Q : It → Hp → Prop) (σ : Hp) : Prop :=
  match k, x with
  | .plain, .ref a => (∃ xs, listAt σ a = some xs) ∧ Q (.lst a 0) σ
  | .plain, .rng a b c => rok a b c ∧ Q (.rng a (rlen a b c) c) σ
  | .plain, .tup vs => Q (.vals vs) σ
  | .enum, .ref a => (∃ xs, σ a = some (.list xs)) ∧ Q (.enm 0 a) σ
  | .rev, .rng a b c => a = 0 ∧ c = 1 ∧ 0 ≤ b ∧ b ≤ 1000000 ∧ Q (.rng (b - 1) b.toNat (-1)) σ
  | _, _ => False

def itNext (it : It) (σ : Hp) : Option (Option (V × It)) :=
  match it with
  | .lst a i => match listAt σ a with
    | some xs => (match xs[i]? with | some x => some (some (x, .lst a (i + 1))) | none => some none)
    | none => none
  | .rng _ 0 _ => some none
  | .rng x (n + 1) c => some (some (.int x, .rng (x + c) n c))
  | .vals [] => some none
  | .vals (v :: vs) => some (some (v, .vals vs))
  | .enm k a => match listAt σ a with
    | some xs => (match xs[k]? with | some x => some (some (.tup [.int k, x], .enm (k + 1) a)) | none => some none)
    | none => none

def setAll : List Nat → List V → Frm → Frm
  | i :: is, v :: vs, F => setAll is vs (F.set i (some v))
  | _, _, F => F

def bindT (t : Tgt) (x : V) (Q : Frm → Prop) (F : Frm) (σ : Hp) : Prop :=
  match t, x with
  | .name i, x => Q (F.set i (some x))
  | .tup is, .tup vs => is.length = vs.length ∧ Q (setAll is vs F)
  | _, _ => False

def partV (v : V) (Q : Option Int → Prop) : Prop := match v with | .none => Q .none | .int i => Q (some i) | _ => False
def pickL (xs : List V) (lo hi st : Option Int) : List V :=
  (sliceRange (sliceBounds lo hi st xs.length).1 (sliceBounds lo hi st xs.length).2.1 (sliceBounds lo hi st xs.length).2.2).filterMap (xs[·]?)
def opSlice (o lo hi st : V) (Q : V → Hp → Prop) (σ : Hp) : Prop :=
  match o with
  | .ref a => ∃ xs, listAt σ a = some xs ∧ partV lo fun l => partV hi fun h => partV st fun s => s ≠ some 0 ∧ newL (pickL xs l h s) Q σ
  | _ => False

abbrev Fns := Nat → List V → (V → Hp → Prop) → Hp → Prop
/-- an expression: as a value, as a test -/
structure PE where
  v : Fns → (V → Hp → Prop) → Frm → Hp → Prop
  t : Fns → (Bool → Hp → Prop) → Frm → Hp → Prop
def vE (Φ : Fns) (p : PE) (Q : V → Hp → Prop) (F : Frm) (σ : Hp) : Prop := p.v Φ Q F σ
def vT (Φ : Fns) (p : PE) (P : Bool → Hp → Prop) (F : Frm) (σ : Hp) : Prop := p.t Φ P F σ
def PE.of (v : Fns → (V → Hp → Prop) → Frm → Hp → Prop) : PE := ⟨v, fun Φ P F σ => v Φ (fun x σ => truth x P σ) F σ⟩
def vEs (Φ : Fns) : List PE → (List V → Hp → Prop) → Frm → Hp → Prop
  | [], Q, F, σ => Q [] σ
  | e :: es, Q, F, σ => vE Φ e (fun v σ => vEs Φ es (fun vs σ => Q (v :: vs) σ) F σ) F σ
def vO (Φ : Fns) : Option PE → (V → Hp → Prop) → Frm → Hp → Prop
  | .none, Q, F, σ => Q .none σ
  | some e, Q, F, σ => vE Φ e Q F σ
def vTs (Φ : Fns) : List PE → (Bool → Hp → Prop) → Frm → Hp → Prop
  | [], Q, F, σ => Q true σ
  | e :: es, Q, F, σ => vT Φ e (fun b σ => if b then vTs Φ es Q F σ else Q false σ) F σ
def negQ (Q : V → Hp → Prop) (a : V) (σ : Hp) : Prop := match a with | .int x => Q (.int (-x)) σ | _ => False
def look (F : Frm) (i : Nat) (K : V → Prop) : Prop := match F[i]? with | some (some v) => K v | _ => False
def frOf (fmap : List (Option Nat)) (F : Frm) : Frm := fmap.map fun j => match j with | some j => (match F[j]? with | some v => v | none => none) | none => none
/-- the turns of a comprehension -/
def CompG (Φ : Fns) (ifs : List PE) (elt : PE) (t : Tgt) (F0 : Frm) (Q : V → Hp → Prop) (I : It) (σ : Hp) : Prop :=
    ∃ Inv : Nat → It → List V → Hp → Prop, (∃ n, Inv n I [] σ) ∧ ∀ n I acc σ, Inv n I acc σ →
        match itNext I σ with
        | none => False
        | some none => newL acc Q σ
        | some (some (x, I')) => bindT t x (fun F1 => vTs Φ ifs (fun b σ => if b then vE Φ elt (fun y σ => acc.length < BIG ∧ ∃ m, m < n ∧ Inv m I' (acc ++ [y]) σ) F1 σ else ∃ m, m < n ∧ Inv m I' acc σ) F1 σ) F0 σ
namespace PE
def int (i : Int) : PE := .of fun Φ Q F σ => Q (.int i) σ
def bool (b : Bool) : PE := .of fun Φ Q F σ => Q (.bool b) σ
def none : PE := .of fun Φ Q F σ => Q .none σ
def str (s : Str) : PE := .of fun Φ Q F σ => Q (.str s) σ
def var (i : Nat) : PE := .of fun Φ Q F σ => look F i (fun v => Q v σ)
def bin (op : Operator) (l r : PE) : PE := .of fun Φ Q F σ => vE Φ l (fun a σ => vE Φ r (fun b σ => opBin op a b Q σ) F σ) F σ
def neg (e : PE) : PE := .of fun Φ Q F σ => vE Φ e (negQ Q) F σ
def not (e : PE) : PE := ⟨fun Φ Q F σ => vT Φ e (fun b σ => Q (.bool (!b)) σ) F σ, fun Φ P F σ => vT Φ e (fun b σ => P (!b) σ) F σ⟩
def cmp (op : CmpOp) (l r : PE) : PE := .of fun Φ Q F σ => vE Φ l (fun a σ => vE Φ r (fun b σ => opCmp op a b Q σ) F σ) F σ
def and (l r : PE) : PE := ⟨fun Φ Q F σ => vE Φ l (fun a σ => truth a (fun b σ => if b then vE Φ r Q F σ else Q a σ) σ) F σ, fun Φ P F σ => vT Φ l (fun b σ => if b then vT Φ r P F σ else P false σ) F σ⟩
def or (l r : PE) : PE := ⟨fun Φ Q F σ => vE Φ l (fun a σ => truth a (fun b σ => if b then Q a σ else vE Φ r Q F σ) σ) F σ, fun Φ P F σ => vT Φ l (fun b σ => if b then P true σ else vT Φ r P F σ) F σ⟩
def ite (c a b : PE) : PE := .of fun Φ Q F σ => vT Φ c (fun t σ => if t then vE Φ a Q F σ else vE Φ b Q F σ) F σ
def sub (o i : PE) : PE := .of fun Φ Q F σ => vE Φ o (fun a σ => vE Φ i (fun b σ => opSub a b Q σ) F σ) F σ
def slice (o : PE) (lo hi st : Option PE) : PE := .of fun Φ Q F σ => vE Φ o (fun a σ => vO Φ lo (fun l σ => vO Φ hi (fun h σ => vO Φ st (fun s σ => opSlice a l h s Q σ) F σ) F σ) F σ) F σ
def list (es : List PE) : PE := .of fun Φ Q F σ => vEs Φ es (fun vs σ => newL vs Q σ) F σ
def tuple (es : List PE) : PE := .of fun Φ Q F σ => vEs Φ es (fun vs σ => vs.length ≤ BIG ∧ Q (.tup vs) σ) F σ
def call (f : BI) (es : List PE) : PE := .of fun Φ Q F σ => vEs Φ es (fun vs σ => opCall f vs Q σ) F σ
def ucall (f : Nat) (es : List PE) : PE := .of fun Φ Q F σ => vEs Φ es (fun vs σ => Φ f vs Q σ) F σ
def meth (m : Meth) (o : PE) (es : List PE) : PE := .of fun Φ Q F σ => vE Φ o (fun a σ => (∃ b xs, a = .ref b ∧ σ b = some (.list xs)) ∧ vEs Φ es (fun vs σ => opMeth m a vs Q σ) F σ) F σ
def comp (fm : List (Option Nat)) (elt : PE) (t : Tgt) (k : IK) (it : PE) (ifs : List PE) : PE := .of fun Φ Q F σ => vE Φ it (fun x σ => itStart k x (fun I σ => CompG Φ ifs elt t (frOf fm F) Q I σ) σ) F σ
end PE
inductive Fl where
  | next | brk | cont
  | ret (v : V)
def PS : Type := Fns → (Fl → Frm → Hp → Prop) → Frm → Hp → Prop
def vS (Φ : Fns) (p : PS) (Q : Fl → Frm → Hp → Prop) (F : Frm) (σ : Hp) : Prop := p Φ Q F σ
/-- what comes behind a statement -/
structure Seq (fl : Fl) (A B : Prop) : Prop where
  go : match fl with
    | .next => A
    | _ => B
def vSs (Φ : Fns) : List PS → (Fl → Frm → Hp → Prop) → Frm → Hp → Prop
  | [], Q, F, σ => Q .next F σ
  | s :: ss, Q, F, σ => vS Φ s (fun fl F σ => Seq fl (vSs Φ ss Q F σ) (Q fl F σ)) F σ
def ForG (Φ : Fns) (b : List PS) (t : Tgt) (Q : Fl → Frm → Hp → Prop) (I : It) (F : Frm) (σ : Hp) : Prop :=
    ∃ Inv : Nat → It → Frm → Hp → Prop, (∃ n, Inv n I F σ) ∧ ∀ n I F σ, Inv n I F σ →
        match itNext I σ with
        | none => False
        | some none => Q .next F σ
        | some (some (x, I')) => bindT t x (fun F1 => vSs Φ b (fun fl F σ => match fl with
          | .next => ∃ m, m < n ∧ Inv m I' F σ
          | .cont => ∃ m, m < n ∧ Inv m I' F σ
          | .brk => Q .next F σ
          | .ret v => Q (.ret v) F σ) F1 σ) F σ
def WhileG (Φ : Fns) (c : PE) (b : List PS) (Q : Fl → Frm → Hp → Prop) (F : Frm) (σ : Hp) : Prop :=
    ∃ Inv : Nat → Frm → Hp → Prop, (∃ n, Inv n F σ) ∧ ∀ n F σ, Inv n F σ →
      vT Φ c (fun t σ => if t then vSs Φ b (fun fl F σ => match fl with
        | .next => ∃ m, m < n ∧ Inv m F σ
        | .cont => ∃ m, m < n ∧ Inv m F σ
        | .brk => Q .next F σ
        | .ret v => Q (.ret v) F σ) F σ else Q .next F σ) F σ
def augI (op : Operator) (x y : Int) (Q : V → Hp → Prop) (σ : Hp) : Prop := match op with
  | .Add => Q (.int (x + y)) σ
  | .Mult => IntMulOk x y ∧ Q (.int (x * y)) σ
  | _ => False
def opAug (op : Operator) (a b : V) (Q : V → Hp → Prop) (σ : Hp) : Prop := match a, b with
  | .int x, .int y => augI op x y Q σ
  | _, _ => False
namespace PS
def expr (e : PE) : PS := fun Φ R F σ => vE Φ e (fun _ σ => R .next F σ) F σ
def assign (t : Tgt) (e : PE) : PS := fun Φ R F σ => vE Φ e (fun v σ => bindT t v (fun F' => R .next F' σ) F σ) F σ
def setitem (o i e : PE) : PS := fun Φ R F σ => vE Φ e (fun v σ => vE Φ o (fun ov σ => vE Φ i (fun iv σ => opSet ov iv v (fun σ => R .next F σ) σ) F σ) F σ) F σ
def aug (i : Nat) (op : Operator) (e : PE) : PS := fun Φ R F σ => look F i (fun x => vE Φ e (fun b σ => opAug op x b (fun v σ => R .next (F.set i (some v)) σ) σ) F σ)
def augsub (o i : PE) (op : Operator) (e : PE) : PS := fun Φ R F σ => vE Φ o (fun a σ => vE Φ i (fun b σ => opSub a b (fun x σ => vE Φ e (fun y σ => opAug op x y (fun z σ => opSet a b z (fun σ => R .next F σ) σ) σ) F σ) σ) F σ) F σ
def ifs (c : PE) (a b : List PS) : PS := fun Φ R F σ => vT Φ c (fun t σ => if t then vSs Φ a R F σ else vSs Φ b R F σ) F σ
def whil (c : PE) (b : List PS) : PS := fun Φ R F σ => WhileG Φ c b R F σ
def «for» (t : Tgt) (k : IK) (it : PE) (b : List PS) : PS := fun Φ R F σ => vE Φ it (fun x σ => itStart k x (fun I σ => ForG Φ b t R I F σ) σ) F σ
def ret (e : PE) : PS := fun Φ R F σ => vE Φ e (fun v σ => R (.ret v) F σ) F σ
def brk : PS := fun Φ R F σ => R .brk F σ
def cont : PS := fun Φ R F σ => R .cont F σ
end PS

/-! the walk's equations -/
section
variable (Φ : Fns) (Q : V → Hp → Prop) (P : Bool → Hp → Prop) (R : Fl → Frm → Hp → Prop) (F : Frm) (σ : Hp)
theorem e_int (i : Int) : vE Φ (.int i) Q F σ = Q (.int i) σ := rfl
theorem e_bool (b : Bool) : vE Φ (.bool b) Q F σ = Q (.bool b) σ := rfl
theorem e_none : vE Φ .none Q F σ = Q .none σ := rfl
theorem e_str (s : Str) : vE Φ (.str s) Q F σ = Q (.str s) σ := rfl
theorem e_bin (op : Operator) (l r : PE) : vE Φ (.bin op l r) Q F σ = vE Φ l (fun a σ => vE Φ r (fun b σ => opBin op a b Q σ) F σ) F σ := rfl
theorem e_cmp (op : CmpOp) (l r : PE) : vE Φ (.cmp op l r) Q F σ = vE Φ l (fun a σ => vE Φ r (fun b σ => opCmp op a b Q σ) F σ) F σ := rfl
theorem e_and (l r : PE) : vE Φ (.and l r) Q F σ = vE Φ l (fun a σ => truth a (fun b σ => if b then vE Φ r Q F σ else Q a σ) σ) F σ := rfl
theorem e_or (l r : PE) : vE Φ (.or l r) Q F σ = vE Φ l (fun a σ => truth a (fun b σ => if b then Q a σ else vE Φ r Q F σ) σ) F σ := rfl
theorem e_ite (c a b : PE) : vE Φ (.ite c a b) Q F σ = vT Φ c (fun t σ => if t then vE Φ a Q F σ else vE Φ b Q F σ) F σ := rfl
theorem e_sub (o i : PE) : vE Φ (.sub o i) Q F σ = vE Φ o (fun a σ => vE Φ i (fun b σ => opSub a b Q σ) F σ) F σ := rfl
theorem e_slice (o : PE) (lo hi st : Option PE) : vE Φ (.slice o lo hi st) Q F σ = vE Φ o (fun a σ => vO Φ lo (fun l σ => vO Φ hi (fun h σ => vO Φ st (fun s σ => opSlice a l h s Q σ) F σ) F σ) F σ) F σ := rfl
theorem e_list (es : List PE) : vE Φ (.list es) Q F σ = vEs Φ es (fun vs σ => newL vs Q σ) F σ := rfl
theorem e_tuple (es : List PE) : vE Φ (.tuple es) Q F σ = vEs Φ es (fun vs σ => vs.length ≤ BIG ∧ Q (.tup vs) σ) F σ := rfl
theorem e_call (f : BI) (es : List PE) : vE Φ (.call f es) Q F σ = vEs Φ es (fun vs σ => opCall f vs Q σ) F σ := rfl
theorem e_ucall (f : Nat) (es : List PE) : vE Φ (.ucall f es) Q F σ = vEs Φ es (fun vs σ => Φ f vs Q σ) F σ := rfl
theorem e_meth (m : Meth) (o : PE) (es : List PE) : vE Φ (.meth m o es) Q F σ = vE Φ o (fun a σ => (∃ b xs, a = .ref b ∧ σ b = some (.list xs)) ∧ vEs Φ es (fun vs σ => opMeth m a vs Q σ) F σ) F σ := rfl
theorem t_not (e : PE) : vT Φ (.not e) P F σ = vT Φ e (fun b σ => P (!b) σ) F σ := rfl
theorem t_and (l r : PE) : vT Φ (.and l r) P F σ = vT Φ l (fun b σ => if b then vT Φ r P F σ else P false σ) F σ := rfl
theorem t_or (l r : PE) : vT Φ (.or l r) P F σ = vT Φ l (fun b σ => if b then P true σ else vT Φ r P F σ) F σ := rfl
theorem t_cmp (op : CmpOp) (l r : PE) : vT Φ (.cmp op l r) P F σ = vE Φ l (fun a σ => vE Φ r (fun b σ => opCmp op a b (fun v σ => truth v P σ) σ) F σ) F σ := rfl
theorem t_call (f : BI) (es : List PE) : vT Φ (.call f es) P F σ = vEs Φ es (fun vs σ => opCall f vs (fun v σ => truth v P σ) σ) F σ := rfl
theorem t_ucall (f : Nat) (es : List PE) : vT Φ (.ucall f es) P F σ = vEs Φ es (fun vs σ => Φ f vs (fun v σ => truth v P σ) σ) F σ := rfl
theorem s_expr (e : PE) : vS Φ (.expr e) R F σ = vE Φ e (fun _ σ => R .next F σ) F σ := rfl
theorem s_assign (t : Tgt) (e : PE) : vS Φ (.assign t e) R F σ = vE Φ e (fun v σ => bindT t v (fun F' => R .next F' σ) F σ) F σ := rfl
theorem s_setitem (o i e : PE) : vS Φ (.setitem o i e) R F σ = vE Φ e (fun v σ => vE Φ o (fun ov σ => vE Φ i (fun iv σ => opSet ov iv v (fun σ => R .next F σ) σ) F σ) F σ) F σ := rfl
theorem s_ifs (c : PE) (a b : List PS) : vS Φ (.ifs c a b) R F σ = vT Φ c (fun t σ => if t then vSs Φ a R F σ else vSs Φ b R F σ) F σ := rfl
theorem s_ret (e : PE) : vS Φ (.ret e) R F σ = vE Φ e (fun v σ => R (.ret v) F σ) F σ := rfl
theorem s_brk : vS Φ .brk R F σ = R .brk F σ := rfl
theorem s_cont : vS Φ .cont R F σ = R .cont F σ := rfl
theorem e_not (e : PE) : vE Φ (.not e) Q F σ = vT Φ e (fun b σ => Q (.bool (!b)) σ) F σ := rfl
theorem ss_nil : vSs Φ [] R F σ = R .next F σ := rfl
theorem es_nil (K : List V → Hp → Prop) : vEs Φ [] K F σ = K [] σ := rfl
theorem es_cons (K : List V → Hp → Prop) (e : PE) (es : List PE) : vEs Φ (e :: es) K F σ = vE Φ e (fun v σ => vEs Φ es (fun vs σ => K (v :: vs) σ) F σ) F σ := rfl
theorem o_none : vO Φ none Q F σ = Q .none σ := rfl
theorem o_some (e : PE) : vO Φ (some e) Q F σ = vE Φ e Q F σ := rfl
theorem ts_nil : vTs Φ [] P F σ = P true σ := rfl
theorem ts_cons (e : PE) (es : List PE) : vTs Φ (e :: es) P F σ = vT Φ e (fun b σ => if b then vTs Φ es P F σ else P false σ) F σ := rfl
theorem e_var (i : Nat) : vE Φ (.var i) Q F σ = look F i (fun v => Q v σ) := rfl
theorem e_neg (e : PE) : vE Φ (.neg e) Q F σ = vE Φ e (negQ Q) F σ := rfl
theorem n_int (x : Int) : negQ Q (.int x) σ = Q (.int (-x)) σ := rfl
theorem e_comp (fm : List (Option Nat)) (elt : PE) (t : Tgt) (k : IK) (it : PE) (ifs : List PE) : vE Φ (.comp fm elt t k it ifs) Q F σ = vE Φ it (fun x σ => itStart k x (fun I σ => CompG Φ ifs elt t (frOf fm F) Q I σ) σ) F σ := rfl
theorem t_var (i : Nat) : vT Φ (.var i) P F σ = look F i (fun v => truth v P σ) := rfl
theorem t_sub (o i : PE) : vT Φ (.sub o i) P F σ = vE Φ o (fun a σ => vE Φ i (fun b σ => opSub a b (fun v σ => truth v P σ) σ) F σ) F σ := rfl
theorem s_aug (i : Nat) (op : Operator) (e : PE) : vS Φ (.aug i op e) R F σ = look F i (fun x => vE Φ e (fun b σ => opAug op x b (fun v σ => R .next (F.set i (some v)) σ) σ) F σ) := rfl
theorem a_add (x y : Int) : opAug .Add (.int x) (.int y) Q σ = Q (.int (x + y)) σ := rfl
theorem a_mul (x y : Int) : opAug .Mult (.int x) (.int y) Q σ = (IntMulOk x y ∧ Q (.int (x * y)) σ) := rfl
theorem s_while (c : PE) (b : List PS) : vS Φ (.whil c b) R F σ = WhileG Φ c b R F σ := rfl
theorem s_for (t : Tgt) (k : IK) (it : PE) (b : List PS) : vS Φ (.for t k it b) R F σ = vE Φ it (fun x σ => itStart k x (fun I σ => ForG Φ b t R I F σ) σ) F σ := rfl
def seqQ (Φ : Fns) (ss : List PS) (R : Fl → Frm → Hp → Prop) (fl : Fl) (F : Frm) (σ : Hp) : Prop := Seq fl (vSs Φ ss R F σ) (R fl F σ)
theorem ss_cons (s : PS) (ss : List PS) : vSs Φ (s :: ss) R F σ = vS Φ s (seqQ Φ ss R) F σ := rfl
theorem q_next (ss : List PS) : seqQ Φ ss R .next F σ = vSs Φ ss R F σ := propext ⟨fun h => h.go, fun h => ⟨h⟩⟩
theorem q_brk (ss : List PS) : seqQ Φ ss R .brk F σ = R .brk F σ := propext ⟨fun h => h.go, fun h => ⟨h⟩⟩
theorem q_cont (ss : List PS) : seqQ Φ ss R .cont F σ = R .cont F σ := propext ⟨fun h => h.go, fun h => ⟨h⟩⟩
theorem q_ret (ss : List PS) (v : V) : seqQ Φ ss R (.ret v) F σ = R (.ret v) F σ := propext ⟨fun h => h.go, fun h => ⟨h⟩⟩
theorem bt_name (i : Nat) (x : V) (K : Frm → Prop) : bindT (.name i) x K F σ = K (F.set i (some x)) := rfl
theorem bt_tup (is : List Nat) (vs : List V) (K : Frm → Prop) : bindT (.tup is) (.tup vs) K F σ = (is.length = vs.length ∧ K (setAll is vs F)) := rfl
theorem c_range1 (b : Int) : opCall .range [.int b] Q σ = Q (.rng 0 b 1) σ := rfl
theorem c_range2 (a b : Int) : opCall .range [.int a, .int b] Q σ = Q (.rng a b 1) σ := rfl
theorem c_range3 (a b c : Int) : opCall .range [.int a, .int b, .int c] Q σ = (c ≠ 0 ∧ Q (.rng a b c) σ) := rfl
theorem i_rng (a b c : Int) (K : It → Hp → Prop) : itStart .plain (.rng a b c) K σ = (rok a b c ∧ K (.rng a (rlen a b c) c) σ) := rfl
theorem i_ref (a : Addr) (K : It → Hp → Prop) : itStart .plain (.ref a) K σ = ((∃ xs, listAt σ a = some xs) ∧ K (.lst a 0) σ) := rfl
theorem i_tup (vs : List V) (K : It → Hp → Prop) : itStart .plain (.tup vs) K σ = K (.vals vs) σ := rfl
theorem i_enm (a : Addr) (K : It → Hp → Prop) : itStart .enum (.ref a) K σ = ((∃ xs, σ a = some (.list xs)) ∧ K (.enm 0 a) σ) := rfl
theorem i_rev (a b c : Int) (K : It → Hp → Prop) : itStart .rev (.rng a b c) K σ = (a = 0 ∧ c = 1 ∧ 0 ≤ b ∧ b ≤ 1000000 ∧ K (.rng (b - 1) b.toNat (-1)) σ) := rfl
theorem look_zero (v : V) (K : V → Prop) : look (some v :: F) 0 K = K v := rfl
theorem look_succ (v : Option V) (i : Nat) (K : V → Prop) : look (v :: F) (i + 1) K = look F i K := rfl
theorem sa_nil (vs : List V) : setAll [] vs F = F := rfl
theorem sa_cons (i : Nat) (is : List Nat) (v : V) (vs : List V) : setAll (i :: is) (v :: vs) F = setAll is vs (F.set i (some v)) := rfl
variable (x y : Int) (b : Bool)
theorem c_lt : opCmp .Lt (.int x) (.int y) Q σ = Q (.bool (decide (x < y))) σ := rfl
theorem c_le : opCmp .LtE (.int x) (.int y) Q σ = Q (.bool (decide (x ≤ y))) σ := rfl
theorem c_gt : opCmp .Gt (.int x) (.int y) Q σ = Q (.bool (decide (y < x))) σ := rfl
theorem c_ge : opCmp .GtE (.int x) (.int y) Q σ = Q (.bool (decide (y ≤ x))) σ := rfl
theorem c_eq : opCmp .Eq (.int x) (.int y) Q σ = Q (.bool (x == y)) σ := rfl
theorem c_ne : opCmp .NotEq (.int x) (.int y) Q σ = Q (.bool (x != y)) σ := rfl
theorem b_add : opBin .Add (.int x) (.int y) Q σ = Q (.int (x + y)) σ := rfl
theorem b_sub : opBin .Sub (.int x) (.int y) Q σ = Q (.int (x - y)) σ := rfl
theorem b_mul : opBin .Mult (.int x) (.int y) Q σ = (IntMulOk x y ∧ Q (.int (x * y)) σ) := rfl
theorem b_div : opBin .FloorDiv (.int x) (.int y) Q σ = (y ≠ 0 ∧ Q (.int (x.fdiv y)) σ) := rfl
theorem b_mod : opBin .Mod (.int x) (.int y) Q σ = (y ≠ 0 ∧ Q (.int (x.fmod y)) σ) := rfl
theorem b_pow : opBin .Pow (.int x) (.int y) Q σ = (0 ≤ y ∧ y ≤ 1000 ∧ x.natAbs < 2 ^ 64 ∧ Q (.int (x ^ y.toNat)) σ) := rfl
theorem b_shr : opBin .RShift (.int x) (.int 1) Q σ = (0 ≤ x ∧ (1 : Int) = 1 ∧ Q (.int (x / 2)) σ) := rfl
theorem t_bool : truth (.bool b) P σ = P b σ := rfl
theorem t_int : truth (.int x) P σ = P (x != 0) σ := rfl
end
/-! which syntax it is that of -/
structure Cfg where
  sc : List (Str × NameKind)
  fns : List Str
def isVar : NameKind → Bool
  | .local => true
  | .cell => true
  | .free => true
  | _ => false
def Cfg.names (c : Cfg) : List Str := (c.sc.filter fun x => isVar x.2).map (·.1)

def fmapOf (c : Cfg) (sc : List (Str × NameKind)) : List (Option Nat) :=
  (sc.filter fun x => isVar x.2).map fun x => if x.2 == .free then some (c.names.idxOf x.1) else none
def scOk (c : Cfg) (sc : List (Str × NameKind)) : Bool :=
  decide (sc.map (·.1)).Nodup && sc.all fun x => (x.2 != .free || (c.names.contains x.1 && c.sc.lookup x.1 != some .local)) && (isVar x.2 || x.2 == .globalImplicit)

mutual
/-- a target -/
inductive CG : Cfg → Expr → Tgt → Prop
  | name {c : Cfg} {x : Str} {p : Pos} {i : Nat} : c.names[i]? = some x → c.sc.lookup x ≠ some .free → CG c (.Name x p) (.name i)
  | tup {c : Cfg} {es : List Expr} {k : Nat} {p : Pos} {is : List Nat} : CGs c es is → CG c (.Tuple es k p) (.tup is)
inductive CGs : Cfg → List Expr → List Nat → Prop
  | nil {c : Cfg} : CGs c [] []
  | cons {c : Cfg} {x : Str} {p : Pos} {i : Nat} {es : List Expr} {is : List Nat} : c.names[i]? = some x → c.sc.lookup x ≠ some .free → CGs c es is → CGs c (.Name x p :: es) (i :: is)
end

/-! M6 -/
/-- a frame bears F -/
structure FrOk (c : Cfg) (env : Env) (own : Addr → Prop) (F : Frm) (h₀ : Heap) (σ : Hp) (h : Heap) : Prop where
  kind : env.scope.kind = .function
  glob : env.globals = mainGlobals
  bi : env.builtins = builtinsNs
  gk : ∀ x, c.sc.lookup x = some .globalImplicit → env.kindOf x = some .globalImplicit
  vk : ∀ (i : Nat) x, c.names[i]? = some x → (c.sc.lookup x = some .local ∧ env.kindOf x = some .local) ∨ (c.sc.lookup x = some .cell ∧ env.kindOf x = some .cell) ∨
    (c.sc.lookup x = some .free ∧ (env.kindOf x = some .cell ∨ env.kindOf x = some .free))
  ns : ∃ m, h.Ns env.locals m ∧ ∀ (i : Nat) x v, c.names[i]? = some x → env.kindOf x = some .local → F[i]? = some (some v) → ∃ w, m x = some w ∧ Rep h w v
  cell : ∀ (i : Nat) x, c.names[i]? = some x → env.kindOf x ≠ some .local → ∃ a cv, env.cells.lookup x = some a ∧ h.IsCell a cv ∧ σ a = none ∧ a ≠ env.locals ∧
    (c.sc.lookup x = some .cell → own a ∧ h₀.get? a = none) ∧ (∀ v, F[i]? = some (some v) → ∃ w, cv = some w ∧ Rep h w v)
  inj : ∀ x y a, env.cells.lookup x = some a → env.cells.lookup y = some a → x = y
  loc : own env.locals ∧ σ env.locals = none ∧ h₀.get? env.locals = none
  nd : ∀ (i j : Nat) x, c.names[i]? = some x → c.names[j]? = some x → i = j
  ex : ∀ a, own a → ∃ o, h.get? a = some o

section
variable {prog : Program} {w : World} {A : Around} {s : Shared} {h₀ : Heap} {mg mb : Str → Option Value} {σ σ' : Hp} {c : Cfg} {env : Env} {own : Addr → Prop} {F : Frm} {h h' : Heap}

theorem none_mut {σ : Hp} {a : Addr} (e : σ a = none) : ¬ Mut σ a := fun ⟨o, q, _⟩ => by rw [e] at q; cases q
theorem FrOk.step (f : FrOk c env own F h₀ σ h) (st : Step h₀ σ h σ' h') : FrOk c env own F h₀ σ' h' := by
  refine ⟨f.kind, f.glob, f.bi, f.gk, f.vk, ?_, fun i x e n => ?_, f.inj, ?_, f.nd, fun a oa => (f.ex a oa).elim fun o e => st.alive a o e⟩
  · obtain ⟨m, n, r⟩ := f.ns
    obtain ⟨o, es, ep, ho, q⟩ := n
    exact ⟨m, ⟨o, es, ep, st.keeps _ _ (none_mut f.loc.2.1) ho, q⟩, fun i x v e1 e2 e3 => by
      obtain ⟨w, e4, e5⟩ := r i x v e1 e2 e3
      exact ⟨w, e4, e5.step st⟩⟩
  · obtain ⟨a, cv, e1, ⟨o, e2, e2'⟩, e3, e4, e5, e6⟩ := f.cell i x e n
    refine ⟨a, cv, e1, ⟨o, st.keeps _ _ (none_mut e3) e2, e2'⟩, st.grow.none e2 e3, e4, e5, fun v hv => ?_⟩
    obtain ⟨w, q1, q2⟩ := e6 v hv
    exact ⟨w, q1, q2.step st⟩
  · obtain ⟨m, n, r⟩ := f.ns
    obtain ⟨o, es, ep, ho, q⟩ := n
    exact ⟨f.loc.1, st.grow.none ho f.loc.2.1, f.loc.2.2⟩

/-- the frame at a heap that has more -/
theorem FrOk.load (f : FrOk c env own F h₀ σ s.heap) {i : Nat} {x : Str} {v : V} (e : c.names[i]? = some x) (hv : F[i]? = some (some v)) (hcd : (x == ("__classdict__" : Str)) = false)
    {Q : Value → Shared → Prop} {E : Value → Shared → Prop} (q : ∀ w, Rep s.heap w v → Q w s) : wpAny (model prog w) A (loadName env x) Q E s := by
  rcases f.vk i x e with ⟨_, k⟩ | ⟨_, k⟩ | ⟨_, k | k⟩
  · obtain ⟨m, n, r⟩ := f.ns
    obtain ⟨w, e1, e2⟩ := r i x v e k hv
    exact wpAny_loadName_local f.kind k n e1 (q w e2)
  · obtain ⟨a, cv, e1, e2, e3, e4, e5, e6⟩ := f.cell i x e (by rw [k]; simp)
    obtain ⟨w, rfl, q2⟩ := e6 v hv
    exact wpAny_loadName_cell f.kind k e1 e2 (q w q2)
  · obtain ⟨a, cv, e1, e2, e3, e4, e5, e6⟩ := f.cell i x e (by rw [k]; simp)
    obtain ⟨w, rfl, q2⟩ := e6 v hv
    exact wpAny_loadName_cell f.kind k e1 e2 (q w q2)
  · obtain ⟨a, cv, e1, e2, e3, e4, e5, e6⟩ := f.cell i x e (by rw [k]; simp)
    obtain ⟨w, rfl, q2⟩ := e6 v hv
    exact wpAny_loadName_free f.kind k e1 e2 (q w q2) hcd

/-- a change of one's own object: the rest stays -/
theorem own_step {own : Addr → Prop} {a : Addr} (hw : W h₀ σ h) (oa : own a) (na : σ a = none) (ng : h₀.get? a = none) (sb : Heap.SameBut a h h') (ni : ∀ o, h.get? a = some o → ¬ Imm o)
    (al : ∀ o, h.get? a = some o → ∃ o', h'.get? a = some o') : StepX own h₀ σ h σ h' := by
  have keep : ∀ b o, b ≠ a → h.get? b = some o → h'.get? b = some o := fun b o n e => (sb.2 b n).trans e
  have tups : Tups h h' := fun b o e i => keep b o (by rintro rfl; exact ni o e i) e
  refine ⟨⟨fun b o e => keep b o (by rintro rfl; rw [ng] at e; cases e) (hw.stays b o e), fun b o e => ?_, hw.above, hw.small⟩, fun b o _ no e => keep b o (by rintro rfl; exact no oa) e, .refl _ _, tups, fun b o e => ?_⟩
  · have nb : b ≠ a := by rintro rfl; rw [na] at e; cases e
    have x := hw.holds b o e
    cases o with
    | list xs => obtain ⟨vs, n, e2, rr⟩ := x; exact ⟨vs, n, keep _ _ nb e2, rr.tups tups⟩
    | flist xs => obtain ⟨vs, ⟨o2, e2, r⟩, rr⟩ := x; exact ⟨vs, ⟨o2, keep _ _ nb e2, r⟩, rr.tups tups⟩
    | iter l i => obtain ⟨o2, e2, r⟩ := x; exact ⟨o2, keep _ _ nb e2, r⟩
  · by_cases q : b = a
    · subst q; exact al o e
    · exact ⟨o, keep b o q e⟩

theorem ns_not_imm {a : Addr} {m : Str → Option Value} (n : h.Ns a m) : ∀ o, h.get? a = some o → ¬ Imm o := fun o e i => by
  obtain ⟨o', es, ep, ho, hd, _⟩ := n
  rw [e] at ho; cases ho
  rcases i with ⟨_, vs, n, q⟩ | ⟨_, vs, q⟩ | ⟨fd, q⟩ <;> rw [hd] at q <;> cases q
theorem cell_not_imm {a : Addr} {v : Option Value} (n : h.IsCell a v) : ∀ o, h.get? a = some o → ¬ Imm o := fun o e i => by
  obtain ⟨o', ho, hd⟩ := n
  rw [e] at ho; cases ho
  rcases i with ⟨_, vs, n, q⟩ | ⟨_, vs, q⟩ | ⟨fd, q⟩ <;> rw [hd] at q <;> cases q

/-- storing a name -/
theorem FrOk.store (f : FrOk c env own F h₀ σ s.heap) (hw : W h₀ σ s.heap) {i : Nat} {x : Str} {vv : Value} {v : V} (e : c.names[i]? = some x) (nf : c.sc.lookup x ≠ some .free) (rv : Rep s.heap vv v)
    {Q : Unit → Shared → Prop} {E : Value → Shared → Prop} (q : ∀ s', Sm s s' → StepX own h₀ σ s.heap σ s'.heap → FrOk c env own (F.set i (some v)) h₀ σ s'.heap → Q () s') : wpAny (model prog w) A (storeName env x vv) Q E s := by
  have hi := (List.getElem?_eq_some_iff.mp e).1
  have same : ∀ (j : Nat) y (u : V), c.names[j]? = some y → (F.set i (some v))[j]? = some (some u) → (j = i ∧ u = v) ∨ (j ≠ i ∧ F[j]? = some (some u)) := fun j y u _ e2 => by
    by_cases q : j = i
    · subst q
      rw [List.getElem?_set_self'] at e2
      cases q2 : F[j]? with
      | none => rw [q2] at e2; cases e2
      | some z => rw [q2] at e2; simp at e2; exact .inl ⟨rfl, e2.symm⟩
    · rw [List.getElem?_set_ne (fun h => q h.symm)] at e2; exact .inr ⟨q, e2⟩
  rcases f.vk i x e with ⟨_, k⟩ | ⟨kc, k⟩ | ⟨k, _⟩
  · obtain ⟨m, n, r⟩ := f.ns
    refine wpAny_storeName_local k n (fun h' n' sb => ?_) (by rw [f.kind]; rfl)
    have st : StepX own h₀ σ s.heap σ h' := own_step hw f.loc.1 f.loc.2.1 f.loc.2.2 sb (ns_not_imm n) (fun o _ => by obtain ⟨o', _, _, ho, _⟩ := n'; exact ⟨o', ho⟩)
    refine q _ ⟨Eq.refl _, Eq.refl _⟩ st ⟨f.kind, f.glob, f.bi, f.gk, f.vk, ⟨_, n', fun j y u e1 e2 e3 => ?_⟩, fun j y e1 e2 => ?_, f.inj, f.loc, f.nd, fun a oa => (f.ex a oa).elim fun o e => st.alive a o e⟩
    · rcases same j y u e1 e3 with ⟨rfl, rfl⟩ | ⟨hj, e3⟩
      · rw [e] at e1; cases e1
        exact ⟨vv, if_pos rfl, rv.step st⟩
      · obtain ⟨w, e4, e5⟩ := r j y u e1 e2 e3
        refine ⟨w, ?_, e5.step st⟩
        show (if y = x then some vv else m y) = some w
        rw [if_neg (by rintro rfl; exact hj (f.nd _ _ _ e1 e))]; exact e4
    · obtain ⟨a, cv, g1, g2, g3, g4, g5, g6⟩ := f.cell j y e1 e2
      refine ⟨a, cv, g1, g2.sameBut sb g4, g3, g4, g5, fun u hu => ?_⟩
      rcases same j y u e1 hu with ⟨rfl, rfl⟩ | ⟨hj, e3⟩
      · rw [e] at e1; cases e1; exact absurd k e2
      · obtain ⟨w, q1, q2⟩ := g6 u e3
        exact ⟨w, q1, q2.step st⟩
  · obtain ⟨a, cv, g1, g2, g3, g4, g5, g6⟩ := f.cell i x e (by rw [k]; simp)
    refine wpAny_storeName_cell f.kind k g1 g2 fun h' n' sb => ?_
    have st : StepX own h₀ σ s.heap σ h' := own_step hw (g5 kc).1 g3 (g5 kc).2 sb (cell_not_imm g2) (fun o _ => by obtain ⟨o', ho, _⟩ := n'; exact ⟨o', ho⟩)
    refine q _ ⟨Eq.refl _, Eq.refl _⟩ st ⟨f.kind, f.glob, f.bi, f.gk, f.vk, ?_, fun j y e1 e2 => ?_, f.inj, f.loc, f.nd, fun a oa => (f.ex a oa).elim fun o e => st.alive a o e⟩
    · obtain ⟨m, n, r⟩ := f.ns
      refine ⟨m, n.sameBut sb (fun h => g4 h.symm), fun j y u e1 e2 e3 => ?_⟩
      rcases same j y u e1 e3 with ⟨rfl, rfl⟩ | ⟨hj, e3⟩
      · rw [e] at e1; cases e1; rw [k] at e2; cases e2
      · obtain ⟨w, e4, e5⟩ := r j y u e1 e2 e3
        exact ⟨w, e4, e5.step st⟩
    · obtain ⟨a', cv', g1', g2', g3', g4', g5', g6'⟩ := f.cell j y e1 e2
      by_cases hya : y = x
      · subst hya
        rw [g1] at g1'; cases g1'
        refine ⟨a, some vv, g1, n', g3, g4, g5', fun u hu => ?_⟩
        rcases same j _ u e1 hu with ⟨rfl, rfl⟩ | ⟨hj, e3⟩
        · exact ⟨vv, rfl, rv.step st⟩
        · exact absurd (f.nd _ _ _ e1 e) hj
      · have na : a' ≠ a := by rintro rfl; exact hya (f.inj _ _ _ g1' g1)
        refine ⟨a', cv', g1', g2'.sameBut sb na, g3', g4', g5', fun u hu => ?_⟩
        rcases same j y u e1 hu with ⟨rfl, rfl⟩ | ⟨hj, e3⟩
        · rw [e] at e1; cases e1; exact absurd rfl hya
        · obtain ⟨w, q1, q2⟩ := g6' u e3
          exact ⟨w, q1, q2.step st⟩
  · exact absurd k nf
end

/-! M7 -/
section
variable {prog : Program} {w : World} {A : Around} {s : Shared} {h₀ : Heap} {mg mb : Str → Option Value} {σ σ' σs : Hp} {c : Cfg} {env : Env} {own : Addr → Prop} {F : Frm} {h h' hs : Heap}

theorem FrOk.move (f : FrOk c env own F h₀ σ h) (kl : ∀ o, h.get? env.locals = some o → h'.get? env.locals = some o) (kc : ∀ x a, env.cells.lookup x = some a → ∀ o, h.get? a = some o → h'.get? a = some o)
    (t : Tups h h') (al : ∀ a, own a → ∃ o, h'.get? a = some o) : FrOk c env own F h₀ σ h' := by
  refine ⟨f.kind, f.glob, f.bi, f.gk, f.vk, ?_, fun i x e n => ?_, f.inj, f.loc, f.nd, al⟩
  · obtain ⟨m, n, r⟩ := f.ns
    obtain ⟨o, es, ep, ho, q⟩ := n
    exact ⟨m, ⟨o, es, ep, kl _ ho, q⟩, fun i x v e1 e2 e3 => by
      obtain ⟨w, e4, e5⟩ := r i x v e1 e2 e3
      exact ⟨w, e4, e5.tups t⟩⟩
  · obtain ⟨a, cv, e1, ⟨o, e2, e2'⟩, e3, e4, e5, e6⟩ := f.cell i x e n
    refine ⟨a, cv, e1, ⟨o, kc _ _ e1 _ e2, e2'⟩, e3, e4, e5, fun v hv => ?_⟩
    obtain ⟨w, q1, q2⟩ := e6 v hv
    exact ⟨w, q1, q2.tups t⟩

/-- objects beside all (iterators) change -/
def Beside (as : List Addr) (h₀ : Heap) (σ : Hp) (hs : Heap) : Prop := ∀ a ∈ as, hs.get? a = none ∧ σ a = none ∧ h₀.get? a = none
theorem W.slip {as : List Addr} (hw : W h₀ σ h) (b : ∀ a ∈ as, σ a = none ∧ h₀.get? a = none) (ni : ∀ a ∈ as, ∀ o, h.get? a = some o → ¬ Imm o) (k : ∀ b o, b ∉ as → h.get? b = some o → h'.get? b = some o) : W h₀ σ h' ∧ Tups h h' := by
  have tups : Tups h h' := fun a o e i => k a o (fun m => ni a m o e i) e
  refine ⟨⟨fun a o e => k a o (fun m => by rw [(b a m).2] at e; cases e) (hw.stays a o e), fun a o e => ?_, hw.above, hw.small⟩, tups⟩
  have na : a ∉ as := fun m => by rw [(b a m).1] at e; cases e
  have x := hw.holds a o e
  cases o with
  | list xs => obtain ⟨vs, n, e2, rr⟩ := x; exact ⟨vs, n, k _ _ na e2, rr.tups tups⟩
  | flist xs => obtain ⟨vs, ⟨o2, e2, r⟩, rr⟩ := x; exact ⟨vs, ⟨o2, k _ _ na e2, r⟩, rr.tups tups⟩
  | iter l i => obtain ⟨o2, e2, r⟩ := x; exact ⟨o2, k _ _ na e2, r⟩
theorem StepX.slip {as : List Addr} (x : StepX own h₀ σs hs σ h) (b : Beside as h₀ σ hs) (ni : ∀ a ∈ as, ∀ o, h.get? a = some o → ¬ Imm o) (k : ∀ b o, b ∉ as → h.get? b = some o → h'.get? b = some o) : StepX own h₀ σs hs σ h' := by
  obtain ⟨w', tups⟩ := x.w.slip (fun a m => (b a m).2) ni k
  have old : ∀ a o, hs.get? a = some o → a ∉ as := fun a o e m => by rw [(b a m).1] at e; cases e
  exact ⟨w', fun a o n m e => k a o (old a o e) (x.keep a o n m e), x.grow, fun a o e i => k a o (old a o e) (x.tups a o e i), fun a o e => by
    obtain ⟨o', e'⟩ := x.alive a o e
    exact ⟨o', k a o' (old a o e) e'⟩⟩

/-- an iterator of the machine, beside the abstract heap -/
def ItRep (h : Heap) (v : Value) (as : List Addr) : It → Prop
  | .lst a i => ∃ I, v = .ref I ∧ as = [I] ∧ h.IsListIter I a i
  | .rng x n c => ∃ I, v = .ref I ∧ as = [I] ∧ IsRangeIter h I x n c
  | .vals vs => ∃ I t k ws, v = .ref I ∧ as = [I] ∧ h.IsTupleIter I t k ∧ h.IsTuple t (ws : List Value).toArray ∧ Reps h (ws.drop k) vs
  | .enm k a => ∃ e I old, v = .ref e ∧ as = [e, I] ∧ e ≠ I ∧ IsEnum h e I k old ∧ h.IsListIter I a k
theorem ItRep.notImm {v : Value} {as : List Addr} {it : It} (r : ItRep h v as it) : ∀ a ∈ as, ∀ o, h.get? a = some o → ¬ Imm o := by
  intro a m o e i
  cases it with
  | lst b k => obtain ⟨I, _, rfl, o', e', c', d'⟩ := r; simp at m; subst m; rw [e] at e'; cases e'; rcases i with ⟨i, _⟩ | ⟨i, _⟩ | ⟨fd, i⟩ <;> simp_all
  | rng x n c => obtain ⟨I, _, rfl, e'⟩ := r; simp at m; subst m; have e2 := e.symm.trans e'; cases e2; rcases i with ⟨i, _⟩ | ⟨i, _⟩ | ⟨fd, i⟩ <;> simp_all
  | vals vs => obtain ⟨I, t, k, ws, _, rfl, ⟨o', e', c', d'⟩, _⟩ := r; simp at m; subst m; rw [e] at e'; cases e'; rcases i with ⟨i, _⟩ | ⟨i, _⟩ | ⟨fd, i⟩ <;> simp_all
  | enm k b =>
    obtain ⟨e1, I, old, _, rfl, _, e', o', e2, c', d'⟩ := r
    simp at m
    rcases m with rfl | rfl
    · have e3 := e.symm.trans e'; cases e3; rcases i with ⟨i, _⟩ | ⟨i, _⟩ | ⟨fd, i⟩ <;> simp_all
    · rw [e] at e2; cases e2; rcases i with ⟨i, _⟩ | ⟨i, _⟩ | ⟨fd, i⟩ <;> simp_all
/-- it stands where its own objects stand -/
theorem ItRep.move {v : Value} {as : List Addr} {it : It} (r : ItRep h v as it) (k : ∀ a ∈ as, ∀ o, h.get? a = some o → h'.get? a = some o) (t : Tups h h') : ItRep h' v as it := by
  cases it with
  | lst b j => obtain ⟨I, rfl, rfl, o', e', q⟩ := r; exact ⟨I, rfl, rfl, o', k I (by simp) _ e', q⟩
  | rng x n c => obtain ⟨I, rfl, rfl, e'⟩ := r; exact ⟨I, rfl, rfl, k I (by simp) _ e'⟩
  | vals vs =>
    obtain ⟨I, t', j, ws, rfl, rfl, ⟨o', e', q⟩, ⟨o2, e2, c2, n2, d2⟩, rr⟩ := r
    exact ⟨I, t', j, ws, rfl, rfl, ⟨o', k I (by simp) _ e', q⟩, ⟨o2, t _ _ e2 (.inl ⟨c2, _, _, d2⟩), c2, n2, d2⟩, rr.tups t⟩
  | enm j b =>
    obtain ⟨e1, I, old, rfl, rfl, hne, e', o', e2, q⟩ := r
    exact ⟨e1, I, old, rfl, rfl, hne, k e1 (by simp) _ e', o', k I (by simp) _ e2, q⟩

/-- the next item -/
theorem next_item {v : Value} {as : List Addr} {it it' : It} {x : V} (hh : A.handled = none) (hw : W h₀ σ s.heap) (r : ItRep s.heap v as it) (b : ∀ a ∈ as, σ a = none ∧ h₀.get? a = none)
    (hn : itNext it σ = some (some (x, it'))) (hk : (∀ k a, it = .enm k a → False)) {Q : Option Value → Shared → Prop} {E : Value → Shared → Prop}
    (q : ∀ y s', Sm s s' → Rep s'.heap y x → ItRep s'.heap v as it' → (∀ b o, b ∉ as → s.heap.get? b = some o → s'.heap.get? b = some o) → Q (some y) s') : wpAny (model prog w) A (pyNext v) Q E s := by
  cases it with
  | lst a i =>
    obtain ⟨I, rfl, rfl, hi⟩ := r
    simp only [itNext] at hn
    cases e : listAt σ a with
    | none => rw [e] at hn; cases hn
    | some xs =>
      rw [e] at hn
      dsimp only at hn
      cases e2 : xs[i]? with
      | none => rw [e2] at hn; cases hn
      | some z =>
        rw [e2] at hn; cases hn
        obtain ⟨vs, hl, rr⟩ := hw.list e
        obtain ⟨y, e3, ry⟩ := rr.get e2
        refine wpAny_pyNext_list_item hi hl (by simpa using e3) fun h' hi' sb => ?_
        have k : ∀ b o, b ∉ [I] → s.heap.get? b = some o → h'.get? b = some o := fun b o n e => sb.extBut b o (by simpa using n) e
        have t := (hw.slip (as := [I]) b (ItRep.notImm (it := .lst a i) ⟨I, rfl, rfl, hi⟩) k).2
        exact q _ _ ⟨Eq.refl _, Eq.refl _⟩ (ry.tups t) ⟨I, rfl, rfl, hi'⟩ k
  | rng a n cc =>
    obtain ⟨I, rfl, rfl, hi⟩ := r
    cases n with
    | zero => simp [itNext] at hn
    | succ n =>
      simp only [itNext] at hn; cases hn
      refine wpAny_pyNext_range_item hi (by omega) fun h' hi' sb => ?_
      have k : ∀ b o, b ∉ [I] → s.heap.get? b = some o → h'.get? b = some o := fun b o n e => sb.extBut b o (by simpa using n) e
      refine q _ _ ⟨Eq.refl _, Eq.refl _⟩ (.int _ _) ⟨I, rfl, rfl, ?_⟩ k
      have : ((n + 1 : Nat) : Int) - 1 = (n : Int) := by omega
      rw [this] at hi'; exact hi'
  | vals vs =>
    obtain ⟨I, t, k0, ws, rfl, rfl, hi, ht, rr⟩ := r
    cases vs with
    | nil => simp [itNext] at hn
    | cons z zs =>
      simp only [itNext] at hn; cases hn
      have hk0 : k0 < ws.length := by
        rcases Nat.lt_or_ge k0 ws.length with h | h
        · exact h
        · rw [List.drop_eq_nil_of_le h] at rr; cases rr
      rw [List.drop_eq_getElem_cons hk0] at rr
      cases rr with
      | cons ry rr => ?_
      refine wpAny_pyNext_tuple_item hi ht (by simp [hk0]; rfl) fun h' hi' sb => ?_
      have k : ∀ b o, b ∉ [I] → s.heap.get? b = some o → h'.get? b = some o := fun b o n e => sb.extBut b o (by simpa using n) e
      have t2 := (hw.slip (as := [I]) b (ItRep.notImm (it := .vals (x :: zs)) ⟨I, t, k0, ws, rfl, rfl, hi, ht, by rw [List.drop_eq_getElem_cons hk0]; exact .cons ry rr⟩) k).2
      refine q _ _ ⟨Eq.refl _, Eq.refl _⟩ (ry.tups t2) ⟨I, t, k0 + 1, ws, rfl, rfl, hi', ?_, rr.tups t2⟩ k
      obtain ⟨o2, e2, c2, n2, d2⟩ := ht
      exact ⟨o2, t2 _ _ e2 (.inl ⟨c2, _, _, d2⟩), c2, n2, d2⟩
  | enm k a => exact (hk _ _ rfl).elim

theorem next_end {v : Value} {as : List Addr} {it : It} (hh : A.handled = none) (hw : W h₀ σ s.heap) (r : ItRep s.heap v as it)
    (hn : itNext it σ = some none) {Q : Option Value → Shared → Prop} {E : Value → Shared → Prop}
    (q : ∀ s', Sm s s' → (∀ b o, b ∉ as → s.heap.get? b = some o → s'.heap.get? b = some o) → Q none s') : wpAny (model prog w) A (pyNext v) Q E s := by
  cases it with
  | lst a i =>
    obtain ⟨I, rfl, rfl, hi⟩ := r
    simp only [itNext] at hn
    cases e : listAt σ a with
    | none => rw [e] at hn; cases hn
    | some xs =>
      rw [e] at hn
      dsimp only at hn
      cases e2 : xs[i]? with
      | some z => rw [e2] at hn; cases hn
      | none =>
        obtain ⟨vs, hl, rr⟩ := hw.list e
        have e3 : vs[i]? = none := by rw [List.getElem?_eq_none_iff] at e2 ⊢; rw [rr.length]; exact e2
        exact wpAny_pyNext_list_end hh hi hl (by simpa using e3) fun h' sb => q _ ⟨Eq.refl _, Eq.refl _⟩ fun b o n e => sb b o (by simpa using n) e
  | rng a n cc =>
    obtain ⟨I, rfl, rfl, hi⟩ := r
    cases n with
    | succ n => simp [itNext] at hn
    | zero => exact wpAny_pyNext_range_end hh hi (by omega) fun h' sb => q _ ⟨Eq.refl _, Eq.refl _⟩ fun b o n e => sb b o (by simpa using n) e
  | vals vs =>
    obtain ⟨I, t, k0, ws, rfl, rfl, hi, ht, rr⟩ := r
    cases vs with
    | cons z zs => simp [itNext] at hn
    | nil =>
      have hk0 : ws.length ≤ k0 := by
        have := rr.length; simp at this; omega
      exact wpAny_pyNext_tuple_end hh hi ht (by simp; exact hk0) fun h' sb => q _ ⟨Eq.refl _, Eq.refl _⟩ fun b o n e => sb b o (by simpa using n) e
  | enm k a =>
    obtain ⟨e1, I, old, rfl, rfl, hne, he, hi⟩ := r
    simp only [itNext] at hn
    cases e : listAt σ a with
    | none => rw [e] at hn; cases hn
    | some xs =>
      rw [e] at hn
      dsimp only at hn
      cases e2 : xs[k]? with
      | some z => rw [e2] at hn; cases hn
      | none =>
        obtain ⟨vs, hl, rr⟩ := hw.list e
        have e3 : vs[k]? = none := by rw [List.getElem?_eq_none_iff] at e2 ⊢; rw [rr.length]; exact e2
        exact wpAny_pyNext_enum_end hh he hi hl (by simpa using e3) fun h' sb => q _ ⟨Eq.refl _, Eq.refl _⟩ fun b o n e => sb b o (by simp at n; exact n.2) e

theorem next_enum {e1 I a : Addr} {k : Nat} {old : Value} {x : V} {it' : It} (hw : W h₀ σ s.heap) (hne : e1 ≠ I) (he : IsEnum s.heap e1 I k old) (hi : s.heap.IsListIter I a k) (b : ∀ a ∈ [e1, I], σ a = none ∧ h₀.get? a = none)
    (hn : itNext (.enm k a) σ = some (some (x, it'))) {elts : List Expr} {x1 : Nat} {pos : Pos} {Q : Option Value → Shared → Prop} {E : Value → Shared → Prop}
    (q : ∀ y s', wpAny (model prog w) A (letOwnedTupleGo (.Tuple elts x1 pos) (.ref e1) y) (fun _ s'' => Sm s s'' ∧ Rep s''.heap y x ∧ ItRep s''.heap (.ref e1) [e1, I] it' ∧ (∀ b o, b ∉ [e1, I] → s.heap.get? b = some o → s''.heap.get? b = some o)) E0 s' → Q (some y) s') :
    wpAny (model prog w) A (pyNext (.ref e1)) Q E s := by
  simp only [itNext] at hn
  cases e : listAt σ a with
  | none => rw [e] at hn; cases hn
  | some xs =>
    rw [e] at hn
    dsimp only at hn
    cases e2 : xs[k]? with
    | none => rw [e2] at hn; cases hn
    | some z =>
      rw [e2] at hn; cases hn
      obtain ⟨vs, hl, rr⟩ := hw.list e
      obtain ⟨y, e3, ry⟩ := rr.get e2
      refine wpAny_pyNext_enum_item he hi hl (by simpa using e3) hne fun h' eo hi' ht hz kk => q _ _ ?_
      have hlt : e1 < s.heap.objs.size := Heap.lt_size he
      refine wpAny_letOwnedTupleGo_enum eo fun h'' he' sb => ?_
      have k2 : ∀ b o, b ∉ [e1, I] → s.heap.get? b = some o → h''.get? b = some o := fun b o n e => by
        simp at n
        exact sb.extBut b o n.1 (kk b o n.1 n.2 e)
      have t := (hw.slip (as := [e1, I]) b (ItRep.notImm (it := .enm k a) ⟨e1, I, old, rfl, rfl, hne, he, hi⟩) k2).2
      refine ⟨⟨Eq.refl _, Eq.refl _⟩, ?_, ⟨e1, I, y, rfl, rfl, hne, ?_, hi'.extBut sb.extBut (Ne.symm hne)⟩, k2⟩
      · refine .tup (vs := [.int k s.toks, y]) ⟨_, sb.extBut _ _ (Nat.ne_of_gt hlt) ht, rfl, _, rfl⟩ (.cons (.int _ _) (.cons (ry.tups t) .nil))
      · have : ((k + 1 : Nat) : Int) = (k : Int) + 1 := by omega
        rw [this]; exact he'
end

/-! M8 -/
section
variable {prog : Program} {w : World} {A : Around} {s : Shared} {h₀ : Heap} {mg mb : Str → Option Value} {σ σ' σs : Hp} {c : Cfg} {env : Env} {own : Addr → Prop} {F : Frm} {h h' hs : Heap}

theorem beside_one (hw : W h₀ σ h) {a : Addr} (e : h.get? a = none) : h.get? a = none ∧ σ a = none ∧ h₀.get? a = none :=
  ⟨e, hw.fresh e, by cases q : h₀.get? a with | none => rfl | some o => rw [hw.stays a o q] at e; cases e⟩

def Started (en : Bool) (h₀ : Heap) (σ : Hp) (s : Shared) (P : It → Hp → Prop) (it : Value) (s' : Shared) : Prop :=
  Sm s s' ∧ ∃ I as, (∀ k a, I = .enm k a → en = true) ∧ ItRep s'.heap it as I ∧ Beside as h₀ σ s.heap ∧ (∀ b o, s.heap.get? b = some o → s'.heap.get? b = some o) ∧ P I σ

theorem start_plain {v : Value} {x : V} {P : It → Hp → Prop} (hw : W h₀ σ s.heap) (r : Rep s.heap v x) (q : itStart .plain x P σ) : wpAny (model prog w) A (pyIter v) (Started false h₀ σ s P) E0 s := by
  unfold itStart at q
  have b1 := beside_one hw (get_push_none s.heap)
  split at q
  · obtain ⟨⟨xs, e⟩, q⟩ := q
    cases r
    obtain ⟨vs, hl, rr⟩ := hw.list e
    exact wpAny_pyIter_list hl ⟨⟨Eq.refl _, Eq.refl _⟩, .lst _ 0, [s.heap.objs.size], (by intro k a e; cases e), ⟨_, rfl, rfl, _, Heap.get?_push_size _ rfl, rfl, rfl⟩, by intro a m; simp at m; subst m; exact b1, fun b o e => Heap.get?_push_of_some _ e, q⟩
  · obtain ⟨ok, q⟩ := q
    cases r with
    | rng hr =>
    refine wpAny_pyIter_range hr (rok_small ok) ⟨⟨Eq.refl _, Eq.refl _⟩, .rng _ _ _, [s.heap.objs.size], (by intro k a e; cases e), ⟨_, rfl, rfl, ?_⟩, by intro a m; simp at m; subst m; exact b1, fun b o e => Heap.get?_push_of_some _ e, q⟩
    rw [rok_size ok]; exact Heap.get?_push_size _ rfl
  · cases r with
    | tup y rr =>
    rename_i a ws
    refine wpAny_pyIter_tuple (items := ws.toArray) y ⟨⟨Eq.refl _, Eq.refl _⟩, .vals _, [s.heap.objs.size], (by intro k a e; cases e), ⟨_, a, 0, ws, rfl, rfl, ⟨_, Heap.get?_push_size _ rfl, rfl, rfl⟩, Heap.IsTuple.push y _, ?_⟩, by intro a m; simp at m; subst m; exact b1, fun b o e => Heap.get?_push_of_some _ e, q⟩
    exact rr.tups fun a o e _ => Heap.get?_push_of_some _ e
  all_goals first | exact q.elim | (exfalso; simp_all)

theorem start_enum {a : Addr} {P : It → Hp → Prop} (hw : W h₀ σ s.heap) (q : itStart .enum (.ref a) P σ) :
    wpAny (model prog w) A (call (.type "enumerate") [.ref a]) (fun v s' => (∀ Q E, Q v s' → wpAny (model prog w) A (pyIter v) Q E s') ∧ Started true h₀ σ s P v s') E0 s := by
  obtain ⟨⟨xs, e⟩, q⟩ := q
  obtain ⟨vs, n, g, r⟩ := hw.mlist e
  refine call_enumerate_1 g fun h' he hi hz k => ⟨fun Q E q => wpAny_pyIter_enum he q, ⟨Eq.refl _, Eq.refl _⟩, .enm 0 _, [s.heap.objs.size + 1, s.heap.objs.size], (fun _ _ _ => rfl), ⟨_, _, _, rfl, rfl, Nat.succ_ne_self _, he, hi⟩, ?_, k, q⟩
  have n1 : s.heap.get? (s.heap.objs.size + 1) = none := by
    cases e : s.heap.get? (s.heap.objs.size + 1) with
    | none => rfl
    | some o => exact absurd (Heap.lt_size e) (Nat.not_lt_of_le (Nat.le_succ _))
  intro a m
  simp at m
  rcases m with rfl | rfl
  · exact beside_one hw n1
  · exact beside_one hw (get_push_none _)

/-- names in order -/
theorem store_all : ∀ {es : List Expr} {is : List Nat}, CGs c es is → ∀ {F : Frm} {s : Shared} {ys : List Value} {xs : List V}, W h₀ σ s.heap → FrOk c env own F h₀ σ s.heap → Reps s.heap ys xs → is.length = xs.length →
    ∀ {Q : Unit → Shared → Prop} {E : Value → Shared → Prop}, (∀ s', Sm s s' → StepX own h₀ σ s.heap σ s'.heap → FrOk c env own (setAll is xs F) h₀ σ s'.heap → Q () s') → wpAny (model prog w) A (assignInOrder ((assignEach es env).map (·.2)) ys) Q E s
  | _, _, .nil, F, s, ys, xs, hw, hf, r, hl, Q, E, q => by
    cases r with
    | nil => exact wpAny_pure (q s .rfl (.refl hw) hf)
    | cons _ _ => simp at hl
  | _, _, .cons (x := x) (p := p) (i := i) (es := es) (is := is) e nf hr, F, s, ys, xs, hw, hf, r, hl, Q, E, q => by
    cases r with
    | nil => simp at hl
    | cons r1 rs =>
      rename_i v x1 vs xs
      show wpAny _ A (do holding vs (assign (.Name x p) env v); assignInOrder ((assignEach es env).map (·.2)) vs) _ _ _
      refine wpAny_bind (wpAny_holding (wpAny_assign_Name (hf.store hw e nf r1 fun s' m st hf' => ?_)))
      refine store_all hr st.w hf' (rs.step st) (by simpa using hl) fun s'' m' st' hf'' => q s'' (m.trans m') (st.trans st') hf''

theorem cgs_len : ∀ {es : List Expr} {is : List Nat}, CGs c es is → (assignEach es env).length = is.length ∧ (assignEach es env).findIdx? (·.1) = none
  | _, _, .nil => ⟨rfl, rfl⟩
  | _, _, .cons (es := es) _ _ hr => by
    have ih := cgs_len hr
    refine ⟨by show (assignEach es env).length + 1 = _; rw [ih.1]; rfl, ?_⟩
    show List.findIdx? _ ((false, _) :: assignEach es env) = none
    rw [List.findIdx?_cons]
    simp [ih.2]

theorem assign_ok {t : Expr} {tg : Tgt} {y : Value} {x : V} {P : Frm → Prop} (hg : CG c t tg) (hh : A.handled = none) (hw : W h₀ σ s.heap) (hf : FrOk c env own F h₀ σ s.heap) (r : Rep s.heap y x) (q : bindT tg x P F σ)
    {Q : Unit → Shared → Prop} {E : Value → Shared → Prop} (k : ∀ s' F1, P F1 → Sm s s' → StepX own h₀ σ s.heap σ s'.heap → FrOk c env own F1 h₀ σ s'.heap → Q () s') :
    wpAny (model prog w) A (assign t env y) Q E s := by
  cases hg with
  | name e nf => exact wpAny_assign_Name (hf.store hw e nf r fun s' m st hf' => k s' _ q m st hf')
  | tup hgs =>
    unfold bindT at q
    split at q
    · rename_i hh2; cases hh2
    · rename_i hh2; cases hh2
      obtain ⟨hl, q⟩ := q
      cases r with
      | tup z rr =>
      obtain ⟨l1, l2⟩ := cgs_len (env := env) hgs
      refine wpAny_assign_Tuple hh z (by rw [l1, hl]; simp [rr.length]) l2 fun h' ext => ?_
      have st : Step h₀ σ s.heap σ h' := hw.extend fun b o e => ext b o (Nat.ne_of_lt (Heap.lt_size e)) e
      refine store_all hgs (s := { s with heap := h' }) st.w (hf.step st) (rr.step st) hl fun s'' m st' hf' => k s'' _ q (Sm.trans ⟨Eq.refl _, Eq.refl _⟩ m) ((Step.any st).trans st') hf'
    · exact q.elim
end

/-! M9 -/
/-! the frame of a comprehension -/
def clGo (env : Env) : List (Str × NameKind) → List (Str × Addr) → List (Str × Addr)
  | [], acc => acc
  | (n, k) :: r, acc => if k == .free then clGo env r ((n, (env.cells.lookup n).getD 0) :: acc) else clGo env r acc
theorem closure_go {env : Env} (f : Str × NameKind → List (Str × Addr) → Sem (ForInStep (List (Str × Addr))))
    (hf : ∀ n k cs, f (n, k) cs = if k == .free then (do let a ← cellOf env n; pure (.yield ((n, a) :: cs))) else pure (.yield cs)) :
    ∀ (names : List (Str × NameKind)) (acc : List (Str × Addr)), (∀ n, (n, NameKind.free) ∈ names → (env.cells.lookup n).isSome = true) → forIn names acc f = pure (clGo env names acc)
  | [], acc, _ => by rw [List.forIn_nil]; rfl
  | (n, k) :: r, acc, h => by
    rw [List.forIn_cons, hf]
    unfold clGo
    by_cases q : (k == NameKind.free) = true
    · rw [if_pos q, if_pos q]
      have e : k = .free := by simpa using q
      subst e
      obtain ⟨a, ha⟩ := Option.isSome_iff_exists.mp (h n (.head _))
      have : cellOf env n = pure a := by unfold cellOf; rw [ha]
      rw [this]
      show (forIn r ((n, a) :: acc) f) = _
      rw [closure_go f hf r _ (fun m hm => h m (.tail _ hm)), ha]; rfl
    · rw [if_neg q, if_neg q]
      show (forIn r acc f) = _
      exact closure_go f hf r _ (fun m hm => h m (.tail _ hm))
theorem closureFor_eq {env : Env} {scope : Scope} (h : ∀ n, (n, NameKind.free) ∈ scope.names → (env.cells.lookup n).isSome = true) : closureFor scope env = pure (clGo env scope.names []) := by
  simp only [closureFor]
  rw [closure_go (env := env) _ (fun n k cs => ?_) scope.names [] h]
  · rfl
  · cases hk : k == NameKind.free <;> simp

theorem clGo_not {env : Env} {x : Str} : ∀ (names : List (Str × NameKind)) (acc : List (Str × Addr)), (x, NameKind.free) ∉ names → (clGo env names acc).lookup x = acc.lookup x
  | [], acc, _ => rfl
  | (n, k) :: r, acc, h => by
    unfold clGo
    split
    · rename_i q
      have e : k = .free := by simpa using q
      subst e
      rw [clGo_not r _ (fun m => h (.tail _ m)), List.lookup_cons]
      have : (x == n) = false := by
        cases q : x == n with
        | false => rfl
        | true => exact absurd (by rw [beq_iff_eq.mp q]; exact .head _) h
      rw [this]
    · exact clGo_not r _ (fun m => h (.tail _ m))
theorem clGo_free {env : Env} {x : Str} : ∀ (names : List (Str × NameKind)) (acc : List (Str × Addr)), (names.map (·.1)).Nodup → (x, NameKind.free) ∈ names → (clGo env names acc).lookup x = some ((env.cells.lookup x).getD 0)
  | (n, k) :: r, acc, nd, h => by
    unfold clGo
    simp only [List.map_cons, List.nodup_cons] at nd
    rcases List.mem_cons.mp h with e | h'
    · cases e
      rw [if_pos (by decide), clGo_not r _ (fun m => nd.1 (List.mem_map_of_mem (f := (·.1)) m)), List.lookup_cons]
      simp
    · split <;> exact clGo_free r _ nd.2 h'
theorem clGo_some {env : Env} {x : Str} {a : Addr} : ∀ (names : List (Str × NameKind)) (acc : List (Str × Addr)), (clGo env names acc).lookup x = some a → acc.lookup x = some a ∨ ((x, NameKind.free) ∈ names ∧ a = (env.cells.lookup x).getD 0)
  | [], acc, h => .inl h
  | (n, k) :: r, acc, h => by
    unfold clGo at h
    split at h
    · rename_i q
      have e : k = .free := by simpa using q
      subst e
      rcases clGo_some r _ h with q | ⟨q1, q2⟩
      · rw [List.lookup_cons] at q
        cases hx : x == n with
        | true => rw [hx] at q; cases q; have := beq_iff_eq.mp hx; subst this; exact .inr ⟨.head _, rfl⟩
        | false => rw [hx] at q; exact .inl q
      · exact .inr ⟨.tail _ q1, q2⟩
    · rcases clGo_some r _ h with q | ⟨q1, q2⟩
      · exact .inl q
      · exact .inr ⟨.tail _ q1, q2⟩

def relK (env : Env) (x : Str) (k : NameKind) : NameKind := if (k == .free && env.scope.kind == .function && env.kindOf x == some .cell) then .cell else k
theorem lookup_relabel {env : Env} {x : Str} : ∀ (names : List (Str × NameKind)),
    (names.map fun (n, k) => if (k == NameKind.free && env.scope.kind == .function && env.kindOf n == some .cell) then (n, NameKind.cell) else (n, k)).lookup x = (names.lookup x).map (relK env x)
  | [] => rfl
  | (n, k) :: r => by
    have ih := lookup_relabel (env := env) (x := x) r
    show List.lookup x ((if (k == NameKind.free && env.scope.kind == .function && env.kindOf n == some .cell) = true then (n, NameKind.cell) else (n, k)) :: _) = _
    cases hx : x == n with
    | true =>
      have := beq_iff_eq.mp hx; subst this
      unfold relK
      by_cases hc : (k == NameKind.free && env.scope.kind == .function && env.kindOf x == some .cell) = true
      · rw [if_pos hc]; simp only [List.lookup_cons, beq_self_eq_true, Option.map_some, if_pos hc]
      · rw [if_neg hc]; simp only [List.lookup_cons, beq_self_eq_true, Option.map_some, if_neg hc]
    | false =>
      by_cases hc : (k == NameKind.free && env.scope.kind == .function && env.kindOf n == some .cell) = true
      · rw [if_pos hc]; simp only [List.lookup_cons, hx]; exact ih
      · rw [if_neg hc]; simp only [List.lookup_cons, hx]; exact ih

theorem lookup_of_nodup {x : Str} {k : NameKind} : ∀ {names : List (Str × NameKind)}, (names.map (·.1)).Nodup → (x, k) ∈ names → names.lookup x = some k
  | (n, k') :: r, nd, h => by
    simp only [List.map_cons, List.nodup_cons] at nd
    rw [List.lookup_cons]
    rcases List.mem_cons.mp h with e | h'
    · cases e; simp
    · have : (x == n) = false := by
        cases q : x == n with
        | false => rfl
        | true => exact absurd (by rw [← beq_iff_eq.mp q]; exact List.mem_map_of_mem (f := (·.1)) h') nd.1
      rw [this]; exact lookup_of_nodup nd.2 h'
theorem names_mem {c : Cfg} {i : Nat} {x : Str} (h : c.names[i]? = some x) : ∃ k, (c.sc.filter fun x => isVar x.2)[i]? = some (x, k) ∧ (x, k) ∈ c.sc ∧ isVar k = true := by
  unfold Cfg.names at h
  rw [List.getElem?_map] at h
  cases e : (c.sc.filter fun x => isVar x.2)[i]? with
  | none => rw [e] at h; cases h
  | some p =>
    rw [e] at h; cases h
    have := List.mem_of_getElem? e
    have := List.mem_filter.mp this
    exact ⟨p.2, rfl, this.1, this.2⟩
theorem getElem_inj {α : Type} {l : List α} (nd : l.Nodup) {i j : Nat} {x : α} (h1 : l[i]? = some x) (h2 : l[j]? = some x) : i = j := by
  obtain ⟨a, b⟩ := List.getElem?_eq_some_iff.mp h1
  obtain ⟨a', b'⟩ := List.getElem?_eq_some_iff.mp h2
  exact (List.getElem_inj nd).mp (b.trans b'.symm)
theorem nodup_names {c : Cfg} (nd : (c.sc.map (·.1)).Nodup) : c.names.Nodup := by
  unfold Cfg.names
  exact List.Nodup.sublist (List.Sublist.map _ List.filter_sublist) nd


/-- the cells of one's own -/
structure OwnCells (names : List (Str × NameKind)) (C : Addr) (h h' : Heap) (A : List (Str × Addr)) : Prop where
  all : ∀ x, names.lookup x = some .cell → (A.lookup x).isSome = true
  mem : ∀ x a, (x, a) ∈ A → (x, NameKind.cell) ∈ names ∧ h'.IsCell a none ∧ h.get? a = none ∧ a ≠ C
  apart : A.Pairwise fun x y => x.2 ≠ y.2
theorem inner_ok {c : Cfg} {env : Env} {own : Addr → Prop} {F : Frm} {h₀ : Heap} {σ : Hp} {h h' : Heap} {scope : Scope} {C : Addr} {A cl : List (Str × Addr)} (hf : FrOk c env own F h₀ σ h) (ok : scOk c scope.names = true) (hk : scope.kind = .function)
    (hcl : cl = A ++ clGo env scope.names []) (hA : OwnCells scope.names C h h' A) (fresh : ∀ a, h.get? a = none → σ a = none ∧ h₀.get? a = none) (k : ∀ b o, h.get? b = some o → h'.get? b = some o) (hC : h.get? C = none) (hn : h'.Ns C fun _ => none) :
    FrOk { sc := scope.names, fns := c.fns } (compEnvC scope cl C env) (fun a => a ∈ C :: A.map (·.2)) (frOf (fmapOf c scope.names) F) h₀ σ h' := by
  simp only [scOk, Bool.and_eq_true, decide_eq_true_eq, List.all_eq_true] at ok
  obtain ⟨nd, ok⟩ := ok
  have t : Tups h h' := fun a o e _ => k a o e
  have kind : ∀ x, (compEnvC scope cl C env).kindOf x = (scope.names.lookup x).map (relK env x) := fun x => lookup_relabel scope.names
  have vark : ∀ (i : Nat) x, (Cfg.mk scope.names c.fns).names[i]? = some x → ∃ kk, (scope.names.filter fun x => isVar x.2)[i]? = some (x, kk) ∧ (x, kk) ∈ scope.names ∧ scope.names.lookup x = some kk ∧ (kk = .local ∨ kk = .free ∨ kk = .cell) := fun i x e => by
    obtain ⟨kk, e1, e2, e3⟩ := names_mem e
    refine ⟨kk, e1, e2, lookup_of_nodup nd e2, ?_⟩
    have := ok _ e2
    cases kk <;> simp_all [isVar]
  have freeOut : ∀ x, (x, NameKind.free) ∈ scope.names → c.names[c.names.idxOf x]? = some x ∧ (env.kindOf x = some .cell ∨ env.kindOf x = some .free) := fun x m => by
    have o := ok _ m
    simp at o
    have hx : x ∈ c.names := o.1.1
    have e : c.names[c.names.idxOf x]? = some x := by
      have hlt := List.idxOf_lt_length_iff.mpr hx
      rw [List.getElem?_eq_getElem hlt, List.getElem_idxOf hlt]
    refine ⟨e, ?_⟩
    rcases hf.vk _ _ e with ⟨q, _⟩ | ⟨_, q⟩ | ⟨_, q⟩
    · exact absurd q o.1.2
    · exact .inl q
    · exact q
  have noA : ∀ x kk, (x, kk) ∈ scope.names → kk ≠ .cell → A.lookup x = none := fun x kk m hkk => by
    cases e : A.lookup x with
    | none => rfl
    | some a =>
      have m2 := (hA.mem x a (mem_of_lookup e)).1
      have l1 := lookup_of_nodup nd m
      have l2 := lookup_of_nodup nd m2
      rw [l1] at l2; cases l2; exact absurd rfl hkk
  have look : ∀ x, cl.lookup x = (A.lookup x).or ((clGo env scope.names []).lookup x) := fun x => by rw [hcl]; exact List.lookup_append
  refine ⟨hk, hf.glob, hf.bi, fun x e => ?_, fun i x e => ?_, ⟨_, hn, fun i x v e1 e2 e3 => ?_⟩, fun i x e1 e2 => ?_, fun x y a e1 e2 => ?_, ⟨.head _, (fresh C hC).1, (fresh C hC).2⟩, fun i j x e1 e2 => getElem_inj (nodup_names nd) e1 e2, fun a e => ?_⟩
  · rw [kind, show scope.names.lookup x = some NameKind.globalImplicit from e]; simp [relK]
  · obtain ⟨kk, _, m, l, q⟩ := vark i x e
    rcases q with rfl | rfl | rfl
    · exact .inl ⟨l, by rw [kind, l]; simp [relK]⟩
    · refine .inr (.inr ⟨l, ?_⟩)
      rw [kind, l]
      rcases (freeOut x m).2 with q | q
      · exact .inl (by simp [relK, hf.kind, q])
      · exact .inr (by simp [relK, q])
    · exact .inr (.inl ⟨l, by rw [kind, l]; simp [relK]⟩)
  · obtain ⟨kk, g, m, l, q⟩ := vark i x e1
    exfalso
    rcases q with rfl | rfl | rfl
    · unfold frOf fmapOf at e3
      rw [List.getElem?_map, List.getElem?_map, g] at e3
      simp at e3
    · rw [kind, l] at e2
      rcases (freeOut x m).2 with q | q
      · simp [relK, hf.kind, q] at e2
      · simp [relK, q] at e2
    · rw [kind, l] at e2
      simp [relK] at e2
  · obtain ⟨kk, g, m, l, q⟩ := vark i x e1
    rcases q with rfl | rfl | rfl
    · exfalso; apply e2; rw [kind, l]; simp [relK]
    · obtain ⟨q1, q2⟩ := freeOut x m
      obtain ⟨a, cv, g1, g2, g3, g4, g5, g6⟩ := hf.cell _ _ q1 (by rcases q2 with q | q <;> rw [q] <;> simp)
      refine ⟨a, cv, ?_, g2.keeps k, g3, ?_, fun hh => ?_, fun v hv => ?_⟩
      · show cl.lookup x = some a
        rw [look, noA x _ m (by simp), clGo_free _ _ nd m, g1]; rfl
      · rintro rfl; obtain ⟨o, ho, _⟩ := g2; rw [hC] at ho; cases ho
      · rw [show ({ sc := scope.names, fns := c.fns } : Cfg).sc.lookup x = some NameKind.free from l] at hh; cases hh
      · unfold frOf fmapOf at hv
        rw [List.getElem?_map, List.getElem?_map, g] at hv
        simp at hv
        obtain ⟨w, w1, w2⟩ := g6 v (by cases q : F[List.idxOf x c.names]? with | none => rw [q] at hv; cases hv | some z => rw [q] at hv; simp at hv; rw [hv])
        exact ⟨w, w1, w2.tups t⟩
    · obtain ⟨a, ha⟩ := Option.isSome_iff_exists.mp (hA.all x l)
      obtain ⟨_, g2, g3, g4⟩ := hA.mem x a (mem_of_lookup ha)
      refine ⟨a, none, ?_, g2, (fresh a g3).1, g4, fun _ => ⟨.tail _ (List.mem_map.mpr ⟨(x, a), mem_of_lookup ha, rfl⟩), (fresh a g3).2⟩, fun v hv => ?_⟩
      · show cl.lookup x = some a
        rw [look, ha]; rfl
      · exfalso
        unfold frOf fmapOf at hv
        rw [List.getElem?_map, List.getElem?_map, g] at hv
        simp at hv
  · have e1' : cl.lookup x = some a := e1
    have e2' : cl.lookup y = some a := e2
    rw [look] at e1' e2'
    have old : ∀ z b, (clGo env scope.names []).lookup z = some b → (∃ o, h.get? b = some o) ∧ env.cells.lookup z = some b := fun z b e => by
      rcases clGo_some _ _ e with q | ⟨m1, q1⟩
      · cases q
      obtain ⟨p1, p2⟩ := freeOut z m1
      obtain ⟨a1, cv, g1, ⟨o, g2, _⟩, _⟩ := hf.cell _ _ p1 (by rcases p2 with q | q <;> rw [q] <;> simp)
      rw [g1] at q1; simp at q1; subst q1
      exact ⟨⟨o, g2⟩, g1⟩
    cases hx : A.lookup x with
    | some a1 =>
      rw [hx] at e1'; simp at e1'; subst e1'
      cases hy : A.lookup y with
      | some a2 => rw [hy] at e2'; simp at e2'; subst e2'; exact name_of_addr hA.apart (mem_of_lookup hx) (mem_of_lookup hy)
      | none =>
        rw [hy] at e2'; simp at e2'
        obtain ⟨⟨o, q⟩, _⟩ := old y _ e2'
        rw [(hA.mem x _ (mem_of_lookup hx)).2.2.1] at q; cases q
    | none =>
      rw [hx] at e1'; simp at e1'
      cases hy : A.lookup y with
      | some a2 =>
        rw [hy] at e2'; simp at e2'; subst e2'
        obtain ⟨⟨o, q⟩, _⟩ := old x _ e1'
        rw [(hA.mem y _ (mem_of_lookup hy)).2.2.1] at q; cases q
      | none =>
        rw [hy] at e2'; simp at e2'
        exact hf.inj x y a (old x a e1').2 (old y a e2').2
  · rcases List.mem_cons.mp e with rfl | e
    · obtain ⟨o, _, _, ho, _⟩ := hn
      exact ⟨o, ho⟩
    · obtain ⟨⟨x, a'⟩, m, rfl⟩ := List.mem_map.mp e
      obtain ⟨o, ho, _⟩ := (hA.mem x a' m).2.1
      exact ⟨o, ho⟩

/-! M10 -/
theorem BI.boot (f : BI) : bootBuiltins f.name = some f.val := by cases f <;> decide +kernel
theorem BI.notName (f : BI) : f.name ≠ ("__name__" : Str) ∧ (f.name == ("__debug__" : Str)) = false := by cases f <;> decide +kernel
def freeNames : List Str := ["len", "min", "max", "sum", "range", "list", "abs", "sorted", "divmod", "reversed", "zip", "iter", "object", "str", "isinstance", "enumerate", "int", "TypeError", "AttributeError", "IndexError"]
theorem BI.mem (f : BI) : f.name ∈ freeNames := by cases f <;> decide +kernel
theorem enum_boot : bootBuiltins ("enumerate" : Str) = some (.type "enumerate") := by decide +kernel

/-- a def of the text that keeps a contract -/
def FnOk (prog : Program) (w : World) (h₀ : Heap) (n : Nat) (fv : Value) (Φ : List V → (V → Hp → Prop) → Hp → Prop) : Prop :=
  ∃ fa o fd, fv = .ref fa ∧ h₀.get? fa = some o ∧ o.data = .func fd ∧ ∀ (A : Around) (s : Shared) (σ : Hp) (vargs : List Value) (args : List V) (Q : V → Hp → Prop), Room A n → W h₀ σ s.heap → Reps s.heap vargs args →
    Φ args Q σ → wpAny (model prog w) A (call (.ref fa) vargs) (PV h₀ σ s Q) E0 s
/-- what the ground must show of the names -/
structure NamesOk (prog : Program) (w : World) (h₀ : Heap) (mg : Str → Option Value) (n : Nat) (fns : List Str) (Φ : Fns) : Prop where
  fr : ∀ x ∈ freeNames, mg x = none
  fn : ∀ (i : Nat) x, fns[i]? = some x → ∃ fv, mg x = some fv ∧ FnOk prog w h₀ n fv (Φ i)

theorem PV.back {h₀ : Heap} {σ σ' : Hp} {s s₁ : Shared} {Q : V → Hp → Prop} {v : Value} {s' : Shared} (p : PV h₀ σ' s₁ Q v s') (st : Step h₀ σ s.heap σ' s₁.heap) (m : Sm s s₁) : PV h₀ σ s Q v s' := by
  obtain ⟨x, σ'', r, ⟨st', m'⟩, q⟩ := p; exact ⟨x, σ'', r, ⟨st.trans st', m.trans m'⟩, q⟩
theorem PB.back {h₀ : Heap} {σ σ' : Hp} {s s₁ : Shared} {Q : Bool → Hp → Prop} {v : Bool} {s' : Shared} (p : PB h₀ σ' s₁ Q v s') (st : Step h₀ σ s.heap σ' s₁.heap) (m : Sm s s₁) : PB h₀ σ s Q v s' := by
  obtain ⟨σ'', ⟨st', m'⟩, q⟩ := p; exact ⟨σ'', ⟨st.trans st', m.trans m'⟩, q⟩
def PVs (h₀ : Heap) (σ : Hp) (s : Shared) (Q : List V → Hp → Prop) (v : List Value) (s' : Shared) : Prop := ∃ x σ', Reps s'.heap v x ∧ (Step h₀ σ s.heap σ' s'.heap ∧ Sm s s') ∧ Q x σ'

theorem PV.on {h₀ : Heap} {σ : Hp} {s s' : Shared} {Q : V → Hp → Prop} {v : Value} {R : Prop} (k : ∀ x σ', Rep s'.heap v x → Step h₀ σ s.heap σ' s'.heap → Sm s s' → Q x σ' → R) (p : PV h₀ σ s Q v s') : R := by
  obtain ⟨x, σ', r, ⟨st, m⟩, q⟩ := p; exact k x σ' r st m q
theorem PVs.on {h₀ : Heap} {σ : Hp} {s s' : Shared} {Q : List V → Hp → Prop} {v : List Value} {R : Prop} (k : ∀ x σ', Reps s'.heap v x → Step h₀ σ s.heap σ' s'.heap → Sm s s' → Q x σ' → R) (p : PVs h₀ σ s Q v s') : R := by
  obtain ⟨x, σ', r, ⟨st, m⟩, q⟩ := p; exact k x σ' r st m q
theorem PB.on {h₀ : Heap} {σ : Hp} {s s' : Shared} {Q : Bool → Hp → Prop} {v : Bool} {R : Prop} (k : ∀ σ', Step h₀ σ s.heap σ' s'.heap → Sm s s' → Q v σ' → R) (p : PB h₀ σ s Q v s') : R := by
  obtain ⟨σ', ⟨st, m⟩, q⟩ := p; exact k σ' st m q
theorem list_slots (m : Meth) : Slot "list" m.name m.id ∧ typeOf (.builtin m.id) = pure (.type "method_descriptor") := by
  cases m
  · exact ⟨PySem.F.slot_list_append, by kernel_rfl⟩
  · exact ⟨PySem.F.slot_list_extend, by kernel_rfl⟩
  · exact ⟨PySem.F.slot_list_pop, by kernel_rfl⟩
  · exact ⟨PySem.F.slot_list_index, by kernel_rfl⟩
  · exact ⟨PySem.F.slot_list_reverse, by kernel_rfl⟩
  · exact ⟨PySem.F.slot_list_sort, by kernel_rfl⟩

section
variable {prog : Program} {w : World} {h₀ : Heap} {mg mb : Str → Option Value} {Φ : Fns} {n : Nat} {fns : List Str}

theorem load_glob (G : Gnd prog h₀ mg mb) {A : Around} {s : Shared} {σ : Hp} {c : Cfg} {env : Env} {own : Addr → Prop} {F : Frm} (hw : W h₀ σ s.heap) (hf : FrOk c env own F h₀ σ s.heap) {x : Str} {p : Pos} {v : Value}
    (k : c.sc.lookup x = some .globalImplicit) (hd : (x == ("__debug__" : Str)) = false) (hv : mg x = some v ∨ (mg x = none ∧ mb x = some v)) {Q : Value → Shared → Prop} {E : Value → Shared → Prop} (q : Q v s) :
    wpAny (model prog w) A (eval (.Name x p) env) Q E s := by
  refine Calls.Name_function_global hf.kind (hf.gk x k) ?_ hd
  rcases hv with e | ⟨e1, e2⟩
  · exact Calls.loadGlobal_global (by rw [hf.glob]; exact G.g.keeps hw.stays) e q
  · exact Calls.loadGlobal_builtin (by rw [hf.glob]; exact G.g.keeps hw.stays) e1 (by rw [hf.bi]; exact G.b.keeps hw.stays) e2 q

/-- where a text stands -/
structure Here (prog : Program) (w : World) (h₀ : Heap) (mg mb : Str → Option Value) (Φ : Fns) (n : Nat) (c : Cfg) (A : Around) (s : Shared) (σ : Hp) (env : Env) (own : Addr → Prop) (F : Frm) : Prop where
  G : Gnd prog h₀ mg mb
  NM : NamesOk prog w h₀ mg n c.fns Φ
  R : Room A n
  w : W h₀ σ s.heap
  f : FrOk c env own F h₀ σ s.heap
theorem Here.step {c : Cfg} {A : Around} {s s' : Shared} {σ σ' : Hp} {env : Env} {own : Addr → Prop} {F : Frm} (X : Here prog w h₀ mg mb Φ n c A s σ env own F) (st : Step h₀ σ s.heap σ' s'.heap) : Here prog w h₀ mg mb Φ n c A s' σ' env own F := ⟨X.G, X.NM, X.R, st.w, X.f.step st⟩
end
/-- an expression is what its walk says -/
def CE (c : Cfg) (e : Expr) (p : PE) : Prop := ∀ {prog : Program} {w : World} {h₀ : Heap} {mg mb : Str → Option Value} {Φ : Fns} {n : Nat} {A : Around} {s : Shared} {σ : Hp} {env : Env} {own : Addr → Prop} {F : Frm} {Q : V → Hp → Prop},
  Here prog w h₀ mg mb Φ n c A s σ env own F → vE Φ p Q F σ → wpAny (model prog w) A (eval e env) (PV h₀ σ s Q) E0 s
/-- a test -/
def CT (c : Cfg) (e : Expr) (p : PE) : Prop := ∀ {prog : Program} {w : World} {h₀ : Heap} {mg mb : Str → Option Value} {Φ : Fns} {n : Nat} {A : Around} {s : Shared} {σ : Hp} {env : Env} {own : Addr → Prop} {F : Frm} {P : Bool → Hp → Prop},
  Here prog w h₀ mg mb Φ n c A s σ env own F → vT Φ p P F σ → wpAny (model prog w) A (isTrue e env (eval e env)) (PB h₀ σ s P) E0 s
inductive CEs (c : Cfg) : List Expr → List PE → Prop
  | nil : CEs c [] []
  | cons {e : Expr} {a : PE} {es : List Expr} {as : List PE} : CE c e a → CEs c es as → (∀ env, starEach (e :: es) env = (false, eval e env) :: starEach es env) → CEs c (e :: es) (a :: as)
inductive CO (c : Cfg) : Option Expr → Option PE → Prop
  | none : CO c none none
  | some {e : Expr} {a : PE} : CE c e a → CO c (some e) (some a)
inductive CTs (c : Cfg) : List Expr → List PE → Prop
  | nil : CTs c [] []
  | cons {e : Expr} {a : PE} {es : List Expr} {as : List PE} : CT c e a → CTs c es as → CTs c (e :: es) (a :: as)
section
variable {prog : Program} {w : World} {h₀ : Heap} {mg mb : Str → Option Value} {Φ : Fns} {n : Nat} {fns : List Str}

theorem star_plain {c : Cfg} {env : Env} {pos : Pos} : ∀ {es : List Expr} {as : List PE}, CEs c es as → (backTo pos (starEach es env)).any (·.1) = false
  | _, _, .nil => rfl
  | _, _, .cons (es := es) _ h hs => by
    rw [hs env]
    show (false || (backTo pos (starEach es env)).any (·.1)) = false
    rw [star_plain h]; rfl

theorem evalArgs_ces {c : Cfg} {es : List Expr} {as : List PE} {env : Env} {pos : Pos} {M : Model} {A : Around} {s : Shared} {E : Value → Shared → Prop} {f : Value} {Q : Args → Shared → Prop} (h : CEs c es as)
    (q : wpAny M A (spliced (backTo pos (starEach es env))) (fun vs s' => Q ⟨vs, []⟩ s') E s) : wpAny M A (evalArgs f true (backTo pos (starEach es env)) []) Q E s := by
  cases h with
  | nil =>
    have q' : wpAny M A (spliced []) (fun vs s' => Q ⟨vs, []⟩ s') E s := q
    show wpAny M A (evalArgs f true [] []) Q E s
    unfold evalArgs
    show wpAny M A (spliced [] >>= _) Q E s
    refine wpAny_bind (wpAny_mono q' (fun vs s' h' => wpAny_bind (wpAny_pure ?_)) fun _ _ x => x)
    refine wpAny_holding ?_
    exact wpAny_bind (wpAny_pure (wpAny_bind (wpAny_pure (wpAny_pure h'))))
  | cons h1 h2 hs =>
    rw [hs env] at q ⊢
    exact Calls.evalArgs_plain q
end

/-! M11 -/
theorem StepX.drop {own : Addr → Prop} {h₀ : Heap} {σ σ' : Hp} {h h' : Heap} (x : StepX own h₀ σ h σ' h') (n : ∀ a, own a → h.get? a = none) : Step h₀ σ h σ' h' :=
  ⟨x.w, fun a o m _ e => x.keep a o m (fun q => by rw [n a q] at e; cases e) e, x.grow, x.tups, x.alive⟩
theorem Beside.of_grow {as : List Addr} {h₀ : Heap} {σ σ' : Hp} {hb h : Heap} (b : Beside as h₀ σ hb) (g : Grow σ h σ') (e : ∀ a ∈ as, ∃ o, h.get? a = some o) : Beside as h₀ σ' hb := fun a m => by
  obtain ⟨o, q⟩ := e a m
  exact ⟨(b a m).1, g.none q (b a m).2.1, (b a m).2.2⟩
theorem ItRep.there {h : Heap} {v : Value} {as : List Addr} {it : It} (r : ItRep h v as it) : ∀ a ∈ as, ∃ o, h.get? a = some o := by
  intro a m
  cases it with
  | lst b k => obtain ⟨I, _, rfl, o', e', _⟩ := r; simp at m; subst m; exact ⟨_, e'⟩
  | rng x n c => obtain ⟨I, _, rfl, e'⟩ := r; simp at m; subst m; exact ⟨_, e'⟩
  | vals vs => obtain ⟨I, t, k, ws, _, rfl, ⟨o', e', _⟩, _⟩ := r; simp at m; subst m; exact ⟨_, e'⟩
  | enm k b =>
    obtain ⟨e1, I, old, _, rfl, _, e', o', e2, _⟩ := r
    simp at m
    rcases m with rfl | rfl
    · exact ⟨_, e'⟩
    · exact ⟨_, e2⟩

def Sub0 (F F' : Frm) : Prop := ∀ (i : Nat) v, F[i]? = some (some v) → F'[i]? = some (some v)
theorem FrOk.weak {c : Cfg} {env : Env} {own : Addr → Prop} {F F' : Frm} {h₀ : Heap} {σ : Hp} {h : Heap} (f : FrOk c env own F' h₀ σ h) (s : Sub0 F F') : FrOk c env own F h₀ σ h :=
  ⟨f.kind, f.glob, f.bi, f.gk, f.vk, (by obtain ⟨m, a, b⟩ := f.ns; exact ⟨m, a, fun i x v e1 e2 e3 => b i x v e1 e2 (s i v e3)⟩),
   (fun i x e1 e2 => by obtain ⟨a, cv, g1, g2, g3, g4, g5, g6⟩ := f.cell i x e1 e2; exact ⟨a, cv, g1, g2, g3, g4, g5, fun v hv => g6 v (s i v hv)⟩), f.inj, f.loc, f.nd, f.ex⟩

/-- slots that hold nothing -/
def Tgt.free (t : Tgt) (F : Frm) : Prop := match t with | .name i => ∀ v, F[i]? ≠ some (some v) | .tup is => ∀ i ∈ is, ∀ v, F[i]? ≠ some (some v)
theorem sub_set {F : Frm} {i : Nat} {x : V} (h : ∀ v, F[i]? ≠ some (some v)) : Sub0 F (F.set i (some x)) := fun j v e => by
  by_cases q : i = j
  · subst q; exact absurd e (h v)
  · rw [List.getElem?_set_ne q]; exact e
theorem sub_setAll : ∀ (is : List Nat) (xs : List V) (F G : Frm), (∀ i ∈ is, ∀ v, F[i]? ≠ some (some v)) → Sub0 F G → Sub0 F (setAll is xs G)
  | [], _, F, G, _, h => by simpa [setAll] using h
  | i :: is, [], F, G, _, h => by simpa [setAll] using h
  | i :: is, x :: xs, F, G, hn, h => by
    unfold setAll
    refine sub_setAll is xs F _ (fun j m => hn j (.tail _ m)) fun j v e => ?_
    by_cases q : i = j
    · subst q; exact absurd e (hn _ (.head _) v)
    · rw [List.getElem?_set_ne q]; exact h j v e
theorem bind_sub {t : Tgt} {x : V} {P : Frm → Prop} {F : Frm} {σ : Hp} (h : bindT t x P F σ) (f : t.free F) : bindT t x (fun F1 => P F1 ∧ Sub0 F F1) F σ := by
  unfold bindT at h ⊢
  split at h
  · exact ⟨h, sub_set f⟩
  · exact ⟨h.1, h.2, sub_setAll _ _ _ _ f (fun _ _ e => e)⟩
  · exact h
theorem inner_free_at {c : Cfg} {scope : Scope} {F : Frm} (ok : scOk c scope.names = true) {i : Nat} {x : Str} (e : (Cfg.mk scope.names c.fns).names[i]? = some x) (nf : (Cfg.mk scope.names c.fns).sc.lookup x ≠ some .free) :
    ∀ v, (frOf (fmapOf c scope.names) F)[i]? ≠ some (some v) := by
  intro v h
  simp only [scOk, Bool.and_eq_true, decide_eq_true_eq, List.all_eq_true] at ok
  obtain ⟨kk, g, m, l⟩ := names_mem e
  have lk := lookup_of_nodup ok.1 m
  have hk : kk ≠ .free := by rintro rfl; exact nf lk
  unfold frOf fmapOf at h
  rw [List.getElem?_map, List.getElem?_map, g] at h
  simp [hk] at h
theorem inner_free {c : Cfg} {scope : Scope} {F : Frm} (ok : scOk c scope.names = true) {t : Expr} {tg : Tgt} (h : CG { sc := scope.names, fns := c.fns } t tg) : tg.free (frOf (fmapOf c scope.names) F) := by
  cases h with
  | name e nf => exact inner_free_at ok e nf
  | tup hg =>
    show ∀ i ∈ _, _
    exact go hg
where
  go : ∀ {es : List Expr} {is : List Nat}, CGs { sc := scope.names, fns := c.fns } es is → ∀ i ∈ is, ∀ v, (frOf (fmapOf c scope.names) F)[i]? ≠ some (some v)
  | _, _, .nil, i, m => by cases m
  | _, _, .cons e nf hr, i, m => by
    rcases List.mem_cons.mp m with rfl | m
    · exact inner_free_at ok e nf
    · exact go hr i m

section
variable {prog : Program} {w : World} {A : Around} {R : Result → Shared → Prop} {s : Shared}
theorem compLoop_gen {elt target iter : Expr} {ifs : List Expr} {scope : Scope} {pos : Pos} {it acc : Value} {env : Env} (I : Nat → Shared → Prop)
    (turn : ∀ n s, I n s → wpAny (model prog w) A (pyNext it) (fun r s₁ => match r with
      | none => R (.ok .next) s₁
      | some v => wpAny (model prog w) A (letOwnedTupleGo target it v) (fun _ s₁' => wpAny (model prog w) A (assign target env v) (fun _ s₂ =>
          wpAny (model prog w) A (forIn ifs true fun c r => if r = true then do let ok ← isTrue c env (eval c env); pure (ForInStep.yield ok) else pure (ForInStep.yield r)) (fun ok s₃ =>
            if ok = true then wpAny (model prog w) A (eval elt env) (fun x s₄ =>
              wpAny (model prog w) A (call (.builtin "list.append") [acc, x]) (fun _ s₅ => ∃ m, m < n ∧ I m s₅) E0 s₄) E0 s₃
            else ∃ m, m < n ∧ I m s₃) E0 s₂) E0 s₁') E0 s₁) E0 s)
    (n : Nat) (h : I n s) :
    codeAny (model prog w) A (.compLoop (.ListComp elt [⟨target, iter, ifs, 0⟩] scope pos) 0 it acc env) R s := by
  refine codeAny_loop rfl I (fun n s hI => ?_) n h
  show wpAny _ A ((compTurn (.ListComp elt [⟨target, iter, ifs, 0⟩] scope pos) 0 it acc env).onRaise (fun x => do noteFrame x env; theTreesLotGoes x)) _ _ s
  refine wpAny_noted ?_
  rw [compTurn_list]
  have e0 : ∀ (E : Value → Shared → Prop) e s, E0 e s → E e s := fun _ _ _ f => f.elim
  refine wpAny_bind (wpAny_standAt (wpAny_bind (wpAny_mono (turn n s hI) (fun r s₁ h₁ => ?_) (e0 _))))
  cases r with
  | none => exact wpAny_pure h₁
  | some v =>
    refine wpAny_bind (wpAny_mono h₁ (fun _ s₁' h₁' => ?_) (e0 _))
    refine wpAny_bind (wpAny_mono h₁' (fun _ s₂ h₂ => wpAny_bind (wpAny_mono h₂ (fun ok s₃ h₃ => ?_) (e0 _))) (e0 _))
    cases ok with
    | true =>
      simp only [if_true] at h₃ ⊢
      exact wpAny_bind (wpAny_bind (wpAny_mono h₃ (fun x s₄ h₄ => wpAny_bind (wpAny_mono h₄ (fun _ s₅ h₅ => wpAny_pure (wpAny_pure ⟨rfl, h₅⟩)) (e0 _))) (e0 _)))
    | false =>
      simp only [Bool.false_eq_true, if_false] at h₃ ⊢
      exact wpAny_pure ⟨rfl, h₃⟩
end

/-! M12 -/
theorem letGo_at {prog : Program} {w : World} {A : Around} {s : Shared} {t : Expr} {I : Addr} {o : Obj} {T : String} {vs : Array Value} {y : Value} {Q : Unit → Shared → Prop} {E : Value → Shared → Prop} (e : s.heap.get? I = some o) (hc : o.cls = .type T) (hd : o.data = .fields vs)
    (hT : ["enumerate", "zip", "dict_itemiterator", "dict_reverseitemiterator", "odict_iterator", "itertools.zip_longest", "itertools.pairwise"].contains T = false) (q : Q () s) : wpAny (model prog w) A (letOwnedTupleGo t (.ref I) y) Q E s := by
  have key : wpAny (model prog w) A (do
      let (.ref r, .ref a) := (Value.ref I, y) | return
      let o ← load r
      match o.cls, o.data with
      | .type n, .fields vs =>
        if ["enumerate", "zip", "dict_itemiterator", "dict_reverseitemiterator", "odict_iterator", "itertools.zip_longest", "itertools.pairwise"].contains n && vs[0]? == some (rawInt a) then
          rule "for.unpacks-the-owned-tuple"
          updateField r 0 .none
      | _, _ => pure ()) Q E s := by
    cases y with
    | ref a =>
      refine wpAny_bind (wpAny_load e ?_)
      rw [hc, hd]
      dsimp only
      rw [hT]
      exact wpAny_pure q
    | _ => exact wpAny_pure q
  unfold letOwnedTupleGo
  split
  · exact key
  · exact key
  · exact wpAny_pure q
theorem letGo_it {prog : Program} {w : World} {A : Around} {s : Shared} {t : Expr} {iv : Value} {as : List Addr} {it : It} {y : Value} {Q : Unit → Shared → Prop} {E : Value → Shared → Prop} (r : ItRep s.heap iv as it) (hk : (∀ k a, it = .enm k a → False)) (q : Q () s) :
    wpAny (model prog w) A (letOwnedTupleGo t iv y) Q E s := by
  cases it with
  | lst b k => obtain ⟨I, rfl, rfl, o', e', c', d'⟩ := r; exact letGo_at e' c' d' (by decide) q
  | rng x n c => obtain ⟨I, rfl, rfl, e'⟩ := r; exact letGo_at e' rfl rfl (by decide) q
  | vals vs => obtain ⟨I, t, k, ws, rfl, rfl, ⟨o', e', c', d'⟩, _⟩ := r; exact letGo_at e' c' d' (by decide) q
  | enm k b => exact (hk _ _ rfl).elim
theorem pyIter_self {prog : Program} {w : World} {A : Around} {s : Shared} {iv : Value} {as : List Addr} {it : It} {Q : Value → Shared → Prop} {E : Value → Shared → Prop} (hh : A.handled = none) (r : ItRep s.heap iv as it) (q : Q iv s) :
    wpAny (model prog w) A (pyIter iv) Q E s := by
  cases it with
  | lst b k => obtain ⟨I, rfl, rfl, hi⟩ := r; exact wpAny_pyIter_listiter hi q
  | rng x n c =>
    obtain ⟨I, rfl, rfl, hi⟩ := r
    exact (Walks.range hh I x c n).self 0 s Q E (by simpa using hi) q
  | vals vs =>
    obtain ⟨I, t, k, ws, rfl, rfl, hi, ht, _⟩ := r
    have hne : t ≠ I := by
      rintro rfl
      obtain ⟨o, e, c, _⟩ := hi
      obtain ⟨o', e', c', _⟩ := ht
      rw [e] at e'; cases e'; rw [c] at c'; simp at c'
    exact (Walks.tuple hh I t hne ws.toArray).self k s Q E ⟨hi, ht⟩ q
  | enm k b => obtain ⟨e1, I, old, rfl, rfl, hne, he, hi⟩ := r; exact wpAny_pyIter_enum he q
theorem next_kind {it it' : It} {σ : Hp} {x : V} (hn : itNext it σ = some (some (x, it'))) (hk : (∀ k a, it = .enm k a → False)) : (∀ k a, it' = .enm k a → False) := by
  intro k a e
  subst e
  cases it with
  | lst b j =>
    simp only [itNext] at hn
    split at hn
    · split at hn <;> simp at hn
    · cases hn
  | rng x n c => cases n <;> simp [itNext] at hn
  | vals vs => cases vs <;> simp [itNext] at hn
  | enm k b => exact hk _ _ rfl

/-- what iterators beside the abstract heap are -/
structure Stand (as : List Addr) (P : Heap → Prop) : Prop where
  move : ∀ {h h' : Heap}, P h → (∀ a ∈ as, ∀ o, h.get? a = some o → h'.get? a = some o) → Tups h h' → P h'
  notImm : ∀ {h : Heap}, P h → ∀ a ∈ as, ∀ o, h.get? a = some o → ¬ Imm o
  there : ∀ {h : Heap}, P h → ∀ a ∈ as, ∃ o, h.get? a = some o
abbrev ItAt (iv : Value) (as : List Addr) (I : It) (h : Heap) : Prop := ItRep h iv as I
theorem stand_it {iv : Value} {as : List Addr} {I : It} : Stand as (ItAt iv as I) := ⟨fun x k t => ItRep.move x k t, fun x => ItRep.notImm x, fun x => ItRep.there x⟩
/-- how a comprehension stands amid its turns -/
structure CSt (c : Cfg) (env : Env) (Cs : List Addr) (D : Addr) (as : List Addr) (P : Heap → Prop) (F0 : Frm) (h₀ : Heap) (σb : Hp) (hb : Heap) (acc : List V) (σ : Hp) (h : Heap) : Prop where
  it : P h
  sd : Stand as P
  lst : ∃ vs k, h.get? D = some (LObj vs k) ∧ Reps h vs acc
  fr : FrOk c env (fun a => a ∈ Cs) F0 h₀ σ h
  st : Step h₀ σb hb σ h
  bD : hb.get? D = none ∧ σ D = none ∧ h₀.get? D = none
  bC : Beside Cs h₀ σ hb
  bI : Beside as h₀ σ hb
  ne : D ∉ Cs ∧ D ∉ as ∧ ∀ a ∈ Cs, a ∉ as
  cl : ∀ y a, env.cells.lookup y = some a → a ∉ as ∧ a ≠ D ∧ (a ∈ Cs ∨ ∃ o, hb.get? a = some o)

section
variable {prog : Program} {w : World} {A : Around} {s : Shared} {c : Cfg} {env : Env} {Cs : List Addr} {D : Addr} {as : List Addr} {P P' : Heap → Prop} {F0 F1 : Frm} {h₀ : Heap} {σb σ σ' : Hp} {hb h h' : Heap} {acc : List V}

theorem CSt.step (x : CSt c env Cs D as P F0 h₀ σb hb acc σ h) (y : Step h₀ σ h σ' h') : CSt c env Cs D as P F0 h₀ σb hb acc σ' h' := by
  obtain ⟨vs, k, e, r⟩ := x.lst
  refine ⟨x.sd.move x.it (fun a m o e => y.keeps a o (none_mut (x.bI a m).2.1) e) y.tups, x.sd, ⟨vs, k, y.keeps D _ (none_mut x.bD.2.1) e, r.step y⟩, x.fr.step y, x.st.trans y, ⟨x.bD.1, y.grow.none e x.bD.2.1, x.bD.2.2⟩, x.bC.of_grow y.grow (fun a m => x.fr.ex a m), x.bI.of_grow y.grow (x.sd.there x.it), x.ne, x.cl⟩
/-- the iterator has moved on -/
theorem CSt.moved (x : CSt c env Cs D as P F0 h₀ σb hb acc σ h) (k : ∀ b o, b ∉ as → h.get? b = some o → h'.get? b = some o) (it' : P' h') (sd' : Stand as P') : CSt c env Cs D as P' F0 h₀ σb hb acc σ h' := by
  have t := (x.st.w.slip (fun a m => (x.bI a m).2) (x.sd.notImm x.it) k).2
  have st := StepX.slip x.st x.bI (x.sd.notImm x.it) k
  refine ⟨it', sd', ?_, ?_, st, x.bD, x.bC, x.bI, x.ne, x.cl⟩
  · obtain ⟨vs, j, e, r⟩ := x.lst
    exact ⟨vs, j, k D _ x.ne.2.1 e, r.tups t⟩
  · refine x.fr.move (fun o e => k _ o (x.ne.2.2 _ x.fr.loc.1) e) (fun y a e o e2 => k a o (x.cl y a e).1 e2) t (fun a m => ?_)
    obtain ⟨o, e⟩ := x.fr.ex a m
    exact ⟨o, k a o (x.ne.2.2 a m) e⟩
/-- the target is bound -/
theorem CSt.bound (x : CSt c env Cs D as P F0 h₀ σb hb acc σ h) (y : StepX (fun a => a ∈ Cs) h₀ σ h σ h') (f : FrOk c env (fun a => a ∈ Cs) F1 h₀ σ h') : CSt c env Cs D as P F1 h₀ σb hb acc σ h' := by
  obtain ⟨vs, k, e, r⟩ := x.lst
  refine ⟨x.sd.move x.it (fun a m o e => y.keep a o (none_mut (x.bI a m).2.1) (fun q => x.ne.2.2 a q m) e) y.tups, x.sd, ⟨vs, k, y.keep D _ (none_mut x.bD.2.1) x.ne.1 e, r.step y⟩, f, ?_, x.bD, x.bC, x.bI, x.ne, x.cl⟩
  exact StepX.drop ((Step.any x.st).trans y) fun a q => (x.bC a q).1
/-- an item is laid down -/
theorem CSt.append (x : CSt c env Cs D as P F1 h₀ σb hb acc σ s.heap) (sub : Sub0 F0 F1) {y : V} {v : Value} (r : Rep s.heap v y) (hb' : acc.length < BIG) {Q : Value → Shared → Prop} {E : Value → Shared → Prop}
    (q : ∀ s', Sm s s' → CSt c env Cs D as P F0 h₀ σb hb (acc ++ [y]) σ s'.heap → Q .none s') : wpAny (model prog w) A (call (.builtin "list.append") [.ref D, v]) Q E s := by
  obtain ⟨vs, k, e, rr⟩ := x.lst
  have hlen := rr.length
  refine call_meets PySem.F.slot_list_append ⟨_, e, rfl⟩ PySem.F.entry_list_append (PySem.F.args_list_append_2 _ _) (AutoListH.list_append_list_val_0 _ vs.toArray k _ (by simp; exact big_line (by omega))) ⟨e, ?_⟩
  have kk : ∀ b o, b ∉ [D] → s.heap.get? b = some o → (s.heap.update D (Obj.mapSeq fun x => x.push v)).get? b = some o := fun b o n e => (Heap.SameBut.update ..).extBut b o (by simpa using n) e
  have ni : ∀ a ∈ [D], ∀ o, s.heap.get? a = some o → ¬ Imm o := fun a m o e' i => by
    simp at m; subst m; rw [e] at e'; cases e'
    rcases i with i | i | i <;> simp [LObj] at i
  have bD : Beside [D] h₀ σ hb := fun a m => by simp at m; subst m; exact x.bD
  have t := (x.st.w.slip (fun a m => (bD a m).2) ni kk).2
  have nd : ∀ a ∈ Cs, a ∉ [D] := fun a m m' => by simp at m'; subst m'; exact x.ne.1 m
  refine q _ ⟨Eq.refl _, Eq.refl _⟩ ⟨x.sd.move x.it (fun a m o e => kk a o (by simp; rintro rfl; exact x.ne.2.1 m) e) t, x.sd, ?_, ?_, StepX.slip x.st bD ni kk, x.bD, x.bC, x.bI, x.ne, x.cl⟩
  · obtain ⟨m, g⟩ := LObj.update e (fun x => x.push v)
    refine ⟨_, m, g, ?_⟩
    have : ((fun x : Array Value => x.push v) vs.toArray).toList = vs ++ [v] := by simp
    rw [this]
    exact (rr.tups t).append (.cons (r.tups t) .nil)
  · refine (x.fr.weak sub).move (fun o e => kk _ o (nd _ x.fr.loc.1) e) (fun y a e o e2 => kk a o (by simp; exact (x.cl y a e).2.1) e2) t (fun a m => ?_)
    obtain ⟨o, e⟩ := x.fr.ex a m
    exact ⟨o, kk a o (nd a m) e⟩
theorem CSt.weak (x : CSt c env Cs D as P F1 h₀ σb hb acc σ h) (sub : Sub0 F0 F1) : CSt c env Cs D as P F0 h₀ σb hb acc σ h := ⟨x.it, x.sd, x.lst, x.fr.weak sub, x.st, x.bD, x.bC, x.bI, x.ne, x.cl⟩
end

/-- cells laid behind those of the closure -/
theorem cellsFrom_app : ∀ (names : List (Str × NameKind)) (n : Nat) (a b : List (Str × Addr)), cellsFrom n names (a ++ b) = cellsFrom n names a ++ b
  | [], n, a, b => rfl
  | (x, k) :: r, n, a, b => by
    unfold cellsFrom; split
    · exact cellsFrom_app r (n + 1) ((x, n) :: a) b
    · exact cellsFrom_app r n a b
theorem cells_mem {x : Str} {a : Addr} : ∀ (names : List (Str × NameKind)) (n : Nat) (acc : List (Str × Addr)), (x, a) ∈ cellsFrom n names acc → (x, a) ∈ acc ∨ (x, NameKind.cell) ∈ names
  | [], n, acc, h => .inl h
  | (y, k) :: r, n, acc, h => by
    unfold cellsFrom at h
    split at h
    · rename_i hk
      have e : k = .cell := by simpa using hk
      subst e
      rcases cells_mem r _ _ h with q | q
      · rcases List.mem_cons.mp q with q | q
        · cases q; exact .inr (.head _)
        · exact .inl q
      · exact .inr (.tail _ q)
    · rcases cells_mem r _ _ h with q | q
      · exact .inl q
      · exact .inr (.tail _ q)
theorem newEnv_cells {M : Model} {A : Around} {E : Value → Shared → Prop} {s : Shared} {scope : Scope} {globals : Addr} {cl : List (Str × Addr)} {qual : Str} {outer : Env} {Q : Env → Shared → Prop}
    (hQ : ∀ h' Ac, h'.Ns s.heap.objs.size (fun _ => none) → (∀ b o, s.heap.get? b = some o → h'.get? b = some o) → OwnCells scope.names s.heap.objs.size s.heap h' Ac →
      Q { scope, locals := s.heap.objs.size, globals, cells := Ac ++ cl, qual, func := none, code := outer.code, frame := outer.frame, builtins := outer.builtins } { s with heap := h' }) :
    wpAny M A (newFunctionEnv scope globals cl [] qual none .none (some outer)) Q E s := by
  simp only [newFunctionEnv, Option.isSome_some, if_true]
  refine wpAny_bind (wpAny_alloc ?_)
  refine wpAny_bind (wpAny_layCells _ (fun name kind cells => by cases hkc : kind == NameKind.cell <;> simp [hkc]) _ _ _ _ ?_)
  refine wpAny_bind ?_
  rw [List.forIn_nil]
  refine wpAny_pure (wpAny_pure ?_)
  have sz : ({ s with heap := s.heap.push { cls := .type "dict", data := .dict #[] } } : Shared).heap.objs.size = s.heap.objs.size + 1 := Heap.size_push ..
  rw [sz]
  have e0 : cellsFrom (s.heap.objs.size + 1) scope.names cl = cellsFrom (s.heap.objs.size + 1) scope.names [] ++ cl := cellsFrom_app scope.names _ [] cl
  rw [e0]
  have ok := cellsFrom_ok scope.names (s.heap.push { cls := .type "dict", data := .dict #[] }) (s.heap.objs.size + 1) [] ⟨fun _ _ hm => (nomatch hm), List.Pairwise.nil⟩ (by rw [Heap.size_push]; exact Nat.le_refl _)
  rw [Heap.size_push] at ok
  have hns : (s.heap.push { cls := .type "dict", data := .dict #[] }).Ns s.heap.objs.size (fun _ => none) := Heap.Ns.new ..
  refine hQ _ _ (hns.keeps (pushCells_keeps scope.names _)) (fun b o e => pushCells_keeps scope.names _ b o (Heap.get?_push_of_some _ e)) ⟨fun x e => cellsFrom_some _ _ _ (.inl e), fun x a m => ?_, ok.apart⟩
  obtain ⟨h1, h2⟩ := ok.empty x a m
  refine ⟨(cells_mem _ _ _ m).resolve_left (by simp), h1, ?_, Nat.ne_of_gt h2⟩
  cases q : s.heap.get? a with
  | none => rfl
  | some o => exact absurd (Heap.lt_size q) (Nat.not_lt_of_le (Nat.le_of_succ_le h2))

section
variable {prog : Program} {w : World} {A : Around} {s : Shared} {c : Cfg} {env : Env} {own : Addr → Prop} {as : List Addr} {iv : Value} {F : Frm} {h₀ : Heap} {σ : Hp} {hb : Heap} {I : It}

def CompInv (Φ : Fns) (fm : List (Option Nat)) (elt : PE) (t : Tgt) (ifs : List PE) (Q : V → Hp → Prop) (F : Frm) (Inv : Nat → It → List V → Hp → Prop) : Prop :=
  ∀ n I acc σ, Inv n I acc σ →
        match itNext I σ with
        | none => False
        | some none => newL acc Q σ
        | some (some (x, I')) => bindT t x (fun F1 => vTs Φ ifs (fun b σ => if b then vE Φ elt (fun y σ => acc.length < BIG ∧ ∃ m, m < n ∧ Inv m I' (acc ++ [y]) σ) F1 σ else ∃ m, m < n ∧ Inv m I' acc σ) F1 σ)
            (frOf fm F) σ

/-- the frame of a comprehension, laid; then the turns -/
theorem comp_setup {elt t it : Expr} {ifs : List Expr} {rest : List Comprehension} {scope : Scope} {pos : Pos}
    (hh : A.handled = none) (ok : scOk c scope.names = true) (hk : scope.kind = .function)
    (hwb : W h₀ σ hb) (hf : FrOk c env own F h₀ σ hb) (ko : ∀ b o, hb.get? b = some o → s.heap.get? b = some o) (hit : ItRep s.heap iv as I) (bes : Beside as h₀ σ hb)
    {RR : Value → Addr → Result → Shared → Prop}
    (turns : ∀ env' Cs D s₃, Sm s s₃ → CSt { sc := scope.names, fns := c.fns } env' Cs D as (ItAt iv as I) (frOf (fmapOf c scope.names) F) h₀ σ hb [] σ s₃.heap →
      codeAny (model prog w) A (.compLoop (.ListComp elt (⟨t, it, ifs, 0⟩ :: rest) scope pos) 0 iv (.ref D) env') (RR (.ref D) env'.locals) s₃) :
    wpAny (model prog w) A (newList []) (fun acc s₃ => wpAny (model prog w) A (newFunctionEnv scope env.globals (clGo env scope.names []) [] env.qual none .none (some env)) (fun cenv s₄ =>
      codeAny (model prog w) A (.compStart (.ListComp elt (⟨t, it, ifs, 0⟩ :: rest) scope pos) 0 iv acc { cenv with scope := relabel scope env }) (RR acc cenv.locals) s₄) E0 s₃) E0 s := by
  have okk := ok
  simp only [scOk, Bool.and_eq_true, decide_eq_true_eq, List.all_eq_true] at okk
  refine wpAny_newObj_type (newEnv_cells (fun h₁ Ac hns₁ old₁ own₁ => ?_))
  dsimp only at hns₁ old₁ own₁ ⊢
  generalize hH2 : s.heap.push { cls := .type "list", dict := none, data := .seq ([] : List Value).toArray } = H2 at hns₁ old₁ own₁ ⊢
  have hC : H2.objs.size = s.heap.objs.size + 1 := by rw [← hH2, Heap.size_push]
  have hDC : s.heap.objs.size ≠ H2.objs.size := by rw [hC]; exact Nat.ne_of_lt (Nat.lt_succ_self _)
  have below : ∀ b o, s.heap.get? b = some o → b ≠ H2.objs.size ∧ b ≠ s.heap.objs.size := fun b o e => ⟨by rw [hC]; exact Nat.ne_of_lt (Nat.lt_succ_of_lt (Heap.lt_size e)), Nat.ne_of_lt (Heap.lt_size e)⟩
  have old2 : ∀ b o, s.heap.get? b = some o → H2.get? b = some o := fun b o e => hH2 ▸ Heap.get?_push_of_some _ e
  have old : ∀ b o, s.heap.get? b = some o → h₁.get? b = some o := fun b o e => old₁ b o (old2 b o e)
  have gD2 : H2.get? s.heap.objs.size = some (LObj [] 0) := hH2 ▸ Heap.get?_push_size _ rfl
  have hacc : h₁.get? s.heap.objs.size = some (LObj [] 0) := old₁ _ _ gD2
  have sD : s.heap.get? s.heap.objs.size = none := get_push_none _
  have sC : s.heap.get? H2.objs.size = none := by
    cases e : s.heap.get? H2.objs.size with
    | none => rfl
    | some o => exact absurd rfl (below _ _ e).1
  have back : ∀ a, s.heap.get? a = none → hb.get? a = none := fun a e => by
    cases q : hb.get? a with
    | none => rfl
    | some o => rw [ko a o q] at e; cases e
  have back2 : ∀ a, H2.get? a = none → s.heap.get? a = none := fun a e => by
    cases q : s.heap.get? a with
    | none => rfl
    | some o => rw [old2 a o q] at e; cases e
  have st0 : Step h₀ σ hb σ h₁ := hwb.extend fun b o e => old b o (ko b o e)
  have bD := beside_one hwb (back _ sD)
  have own1 : OwnCells scope.names H2.objs.size hb h₁ Ac := ⟨own₁.all, fun x a m => ⟨(own₁.mem x a m).1, (own₁.mem x a m).2.1, back _ (back2 _ (own₁.mem x a m).2.2.1), (own₁.mem x a m).2.2.2⟩, own₁.apart⟩
  have fr1 : FrOk { sc := scope.names, fns := c.fns } (compEnvC scope (Ac ++ clGo env scope.names []) H2.objs.size env) (fun a => a ∈ H2.objs.size :: Ac.map (·.2)) (frOf (fmapOf c scope.names) F) h₀ σ h₁ :=
    inner_ok hf ok hk rfl own1 (fun a e => (beside_one hwb e).2) (fun b o e => old b o (ko b o e)) (back _ sC) hns₁
  have bCs : Beside (H2.objs.size :: Ac.map (·.2)) h₀ σ hb := fun a m => by
    rcases List.mem_cons.mp m with rfl | m
    · exact beside_one hwb (back _ sC)
    · obtain ⟨⟨x, a'⟩, m2, rfl⟩ := List.mem_map.mp m
      exact beside_one hwb (own1.mem x a' m2).2.2.1
  have notAs : ∀ a, s.heap.get? a = none → a ∉ as := fun a e m => by obtain ⟨o, q⟩ := hit.there _ m; rw [e] at q; cases q
  have cellNew : ∀ x a, (x, a) ∈ Ac → s.heap.get? a = none ∧ a ≠ s.heap.objs.size := fun x a m => ⟨back2 _ (own₁.mem x a m).2.2.1, by rintro rfl; rw [(own₁.mem x _ m).2.2.1] at gD2; cases gD2⟩
  have x0 : CSt { sc := scope.names, fns := c.fns } (compEnvC scope (Ac ++ clGo env scope.names []) H2.objs.size env) (H2.objs.size :: Ac.map (·.2)) s.heap.objs.size as (ItAt iv as I) (frOf (fmapOf c scope.names) F) h₀ σ hb [] σ h₁ := by
    refine ⟨ItRep.move hit (fun a m o e => old a o e) (fun a o e _ => old a o e), stand_it, ⟨[], 0, hacc, .nil⟩, fr1, st0, bD, bCs, bes, ⟨fun m => ?_, notAs _ sD, fun a m => ?_⟩, fun y a e => ?_⟩
    · rcases List.mem_cons.mp m with e | m
      · exact hDC e
      · obtain ⟨⟨x, a'⟩, m, e⟩ := List.mem_map.mp m
        exact (cellNew x a' m).2 e
    · rcases List.mem_cons.mp m with rfl | m
      · exact notAs _ sC
      · obtain ⟨⟨x, a'⟩, m2, rfl⟩ := List.mem_map.mp m
        exact notAs _ (cellNew x a' m2).1
    · have e' : (Ac ++ clGo env scope.names []).lookup y = some a := e
      rw [List.lookup_append] at e'
      cases hA : Ac.lookup y with
      | some a2 =>
        rw [hA] at e'; simp at e'; subst e'
        exact ⟨notAs _ (cellNew y _ (mem_of_lookup hA)).1, (cellNew y _ (mem_of_lookup hA)).2, .inl (.tail _ (List.mem_map.mpr ⟨_, mem_of_lookup hA, rfl⟩))⟩
      | none =>
        rw [hA] at e'; simp at e'
        rcases clGo_some _ _ e' with q | ⟨m, q⟩
        · cases q
        · have o := okk.2 _ m
          simp at o
          have hx : y ∈ c.names := o.1.1
          have e' : c.names[c.names.idxOf y]? = some y := by
            have hlt := List.idxOf_lt_length_iff.mpr hx
            rw [List.getElem?_eq_getElem hlt, List.getElem_idxOf hlt]
          have nl : env.kindOf y ≠ some .local := by
            rcases hf.vk _ _ e' with ⟨q, _⟩ | ⟨_, q⟩ | ⟨_, q | q⟩
            · exact absurd q o.1.2
            all_goals rw [q]; simp
          obtain ⟨a', cv, g1, ⟨ob, g2, _⟩, _⟩ := hf.cell _ _ e' nl
          rw [g1] at q; simp at q; subst q
          refine ⟨fun m => ?_, fun e => ?_, .inr ⟨_, g2⟩⟩
          · rw [(bes a m).1] at g2; cases g2
          · subst e; rw [bD.1] at g2; cases g2
  have loop : ∀ s₃ : Shared, s₃.heap = h₁ → Sm s s₃ →
      codeAny (model prog w) A (.compLoop (.ListComp elt (⟨t, it, ifs, 0⟩ :: rest) scope pos) 0 iv (.ref s.heap.objs.size) (compEnvC scope (Ac ++ clGo env scope.names []) H2.objs.size env)) (RR (.ref s.heap.objs.size) H2.objs.size) s₃ :=
    fun s₃ e₃ m₃ => turns _ _ _ s₃ m₃ (by rw [e₃]; exact x0)
  exact codeAny_compStart_list (loop _ rfl ⟨Eq.refl _, Eq.refl _⟩) (pyIter_self hh x0.it (loop _ rfl ⟨Eq.refl _, Eq.refl _⟩))
/-- what is there when a comprehension's turns are over -/
def CompEnd (h₀ : Heap) (σ : Hp) (hb : Heap) (s : Shared) (Q : V → Hp → Prop) (RR : Value → Addr → Result → Shared → Prop) : Prop :=
  ∀ D C s' σ' acc vs k m, Sm s s' → newL acc Q σ' → s'.heap.get? D = some (LObj vs k) → Reps s'.heap vs acc → s'.heap.Ns C m → Step h₀ σ hb σ' s'.heap → hb.get? D = none → hb.get? C = none → D ≠ C → σ' D = none → σ' C = none → RR (.ref D) C (.ok .next) s'
theorem CSt.over {env' : Env} {Cs : List Addr} {D : Addr} {F0 : Frm} {acc : List V} {σ' : Hp} {s' s'' : Shared} {Q : V → Hp → Prop} {RR : Value → Addr → Result → Shared → Prop} {cc : Cfg} {P : Heap → Prop} (x : CSt cc env' Cs D as P F0 h₀ σ hb acc σ' s'.heap) (mI : Sm s s'') (kk : ∀ b o, b ∉ as → s'.heap.get? b = some o → s''.heap.get? b = some o)
    (q : newL acc Q σ') (hRR : CompEnd h₀ σ hb s Q RR) : RR (.ref D) env'.locals (.ok .next) s'' := by
  have b : Beside as h₀ σ' hb := x.bI
  have t2 := (x.st.w.slip (fun a m => (b a m).2) (x.sd.notImm x.it) kk).2
  have st := StepX.slip x.st b (x.sd.notImm x.it) kk
  obtain ⟨vs, j, e, r⟩ := x.lst
  obtain ⟨mm, nn, _⟩ := x.fr.ns
  obtain ⟨o, es, ep, ho, qq⟩ := nn
  have hl := x.fr.loc.1
  exact hRR _ _ s'' σ' acc vs j mm mI q (kk _ _ x.ne.2.1 e) (r.tups t2) ⟨o, es, ep, kk _ _ (x.ne.2.2 _ hl) ho, qq⟩ st x.bD.1 (x.bC _ hl).1 (fun e => x.ne.1 (e ▸ hl)) x.bD.2.1 (x.bC _ hl).2.1
theorem comp_tail {Φ : Fns} {elt t it : Expr} {ifs : List Expr} {scope : Scope} {pos : Pos} {pelt : PE} {tg : Tgt} {pifs : List PE} {Q : V → Hp → Prop} {Inv : Nat → It → List V → Hp → Prop}
    (hh : A.handled = none) (ok : scOk c scope.names = true) (hk : scope.kind = .function) (hg : CG { sc := scope.names, fns := c.fns } t tg)
    (hel : ∀ {s : Shared} {σ : Hp} {env : Env} {own : Addr → Prop} {F : Frm} {Q : V → Hp → Prop}, W h₀ σ s.heap → FrOk { sc := scope.names, fns := c.fns } env own F h₀ σ s.heap → vE Φ pelt Q F σ → wpAny (model prog w) A (eval elt env) (PV h₀ σ s Q) E0 s)
    (hif : ∀ {s : Shared} {σ : Hp} {env : Env} {own : Addr → Prop} {F : Frm} {Q : Bool → Hp → Prop}, W h₀ σ s.heap → FrOk { sc := scope.names, fns := c.fns } env own F h₀ σ s.heap → vTs Φ pifs Q F σ →
      wpAny (model prog w) A (forIn ifs true fun c r => if r = true then do let ok ← isTrue c env (eval c env); pure (ForInStep.yield ok) else pure (ForInStep.yield r)) (PB h₀ σ s Q) E0 s)
    (hen : ∀ k a, I = .enm k a → ∃ elts x1 p, t = .Tuple elts x1 p)
    (hwb : W h₀ σ hb) (hf : FrOk c env own F h₀ σ hb) (ko : ∀ b o, hb.get? b = some o → s.heap.get? b = some o) (hit : ItRep s.heap iv as I) (bes : Beside as h₀ σ hb)
    {n : Nat} (hi : Inv n I [] σ) (hinv : CompInv Φ (fmapOf c scope.names) pelt tg pifs Q F Inv) {RR : Value → Addr → Result → Shared → Prop}
    (hRR : CompEnd h₀ σ hb s Q RR) :
    wpAny (model prog w) A (newList []) (fun acc s₃ => wpAny (model prog w) A (newFunctionEnv scope env.globals (clGo env scope.names []) [] env.qual none .none (some env)) (fun cenv s₄ =>
      codeAny (model prog w) A (.compStart (.ListComp elt [⟨t, it, ifs, 0⟩] scope pos) 0 iv acc { cenv with scope := relabel scope env }) (RR acc cenv.locals) s₄) E0 s₃) E0 s := by
  have fre := inner_free (F := F) ok hg
  refine comp_setup hh ok hk hwb hf ko hit bes fun env' Cs D s₃ m₃ x0 => ?_
  refine compLoop_gen (fun n s' => ∃ I acc σ', Sm s s' ∧ Inv n I acc σ' ∧ (∀ k a, I = .enm k a → ∃ elts x1 p, t = .Tuple elts x1 p) ∧
    CSt { sc := scope.names, fns := c.fns } env' Cs D as (ItAt iv as I) (frOf (fmapOf c scope.names) F) h₀ σ hb acc σ' s'.heap) (fun n s' hI => ?_) n ⟨I, [], σ, m₃, hi, hen, x0⟩
  obtain ⟨I, acc, σ', mI, hi, hen, x⟩ := hI
  have q := hinv n I acc σ' hi
  split at q
  · exact q.elim
  · rename_i hn
    refine next_end hh x.st.w x.it hn fun s'' mE kk => ?_
    exact x.over (mI.trans mE) kk q hRR
  · rename_i xx I' hn
    have q2 := bind_sub q fre
    have rest : ∀ y s₂, Sm s s₂ → Rep s₂.heap y xx → CSt { sc := scope.names, fns := c.fns } env' Cs D as (ItAt iv as I') (frOf (fmapOf c scope.names) F) h₀ σ hb acc σ' s₂.heap →
        (∀ k a, I' = .enm k a → ∃ elts x1 p, t = .Tuple elts x1 p) →
        wpAny (model prog w) A (assign t env' y) (fun _ s₂ =>
        wpAny (model prog w) A (forIn ifs true fun c r => if r = true then do let ok ← isTrue c env' (eval c env'); pure (ForInStep.yield ok) else pure (ForInStep.yield r)) (fun ok s₃ =>
          if ok = true then wpAny (model prog w) A (eval elt env') (fun x s₄ =>
            wpAny (model prog w) A (call (.builtin "list.append") [.ref D, x]) (fun _ s₅ => ∃ m, m < n ∧ ∃ I acc σ', Sm s s₅ ∧ Inv m I acc σ' ∧ (∀ k a, I = .enm k a → ∃ elts x1 p, t = .Tuple elts x1 p) ∧
    CSt { sc := scope.names, fns := c.fns } env' Cs D as (ItAt iv as I) (frOf (fmapOf c scope.names) F) h₀ σ hb acc σ' s₅.heap) E0 s₄) E0 s₃
          else ∃ m, m < n ∧ ∃ I acc σ', Sm s s₃ ∧ Inv m I acc σ' ∧ (∀ k a, I = .enm k a → ∃ elts x1 p, t = .Tuple elts x1 p) ∧
    CSt { sc := scope.names, fns := c.fns } env' Cs D as (ItAt iv as I) (frOf (fmapOf c scope.names) F) h₀ σ hb acc σ' s₃.heap) E0 s₂) E0 s₂ := by
      intro y s₂ m2 ry x2 hen'
      refine assign_ok hg hh x2.st.w x2.fr ry q2 fun s₃ F1 ⟨qF, sub⟩ m3 stx f1 => ?_
      have x3 := x2.bound stx f1
      refine wpAny_mono (hif x3.st.w x3.fr qF) (fun ok s₄ ⟨σ4, ⟨st4, m4⟩, q4⟩ => ?_) fun _ _ f => f
      have x4 := x3.step st4
      cases ok with
      | true =>
        simp only [if_true] at q4 ⊢
        refine wpAny_mono (hel x4.st.w x4.fr q4) (fun v s₅ ⟨y5, σ5, r5, ⟨st5, m5⟩, hl, m, hm, q5⟩ => ?_) fun _ _ f => f
        exact (x4.step st5).append sub r5 hl fun s₆ m6 x6 => ⟨m, hm, I', _, σ5, ((((m2.trans m3).trans m4).trans m5).trans m6), q5, hen', x6⟩
      | false =>
        simp only [Bool.false_eq_true, if_false] at q4 ⊢
        obtain ⟨m, hm, q5⟩ := q4
        exact ⟨m, hm, I', acc, σ4, (m2.trans m3).trans m4, q5, hen', x4.weak sub⟩
    have bb : ∀ a ∈ as, σ' a = none ∧ h₀.get? a = none := fun a m => (x.bI a m).2
    cases I with
    | enm k0 a0 =>
      obtain ⟨elts, x1, p, rfl⟩ := hen _ _ rfl
      obtain ⟨e1, I1, old', rfl, rfl, hne, he, hi'⟩ := x.it
      refine next_enum x.st.w hne he hi' bb hn (elts := elts) (x1 := x1) (pos := p) fun y s₂ hy => ?_
      refine wpAny_mono hy (fun _ s₃ ⟨mm, ry, it', kk⟩ => rest y s₃ (mI.trans mm) ry (x.moved kk it' stand_it) (fun _ _ _ => ⟨_, _, _, rfl⟩)) fun _ _ f => f
    | lst a0 i0 =>
      have hk' : ∀ k a, It.lst a0 i0 = It.enm k a → False := by intro k a e; cases e
      refine next_item hh x.st.w x.it bb hn hk' fun y s₂ mm ry it' kk => ?_
      exact letGo_it it' (next_kind hn hk') (rest y s₂ (mI.trans mm) ry (x.moved kk it' stand_it) (fun k a e => (next_kind hn hk' k a e).elim))
    | rng a0 n0 c0 =>
      have hk' : ∀ k a, It.rng a0 n0 c0 = It.enm k a → False := by intro k a e; cases e
      refine next_item hh x.st.w x.it bb hn hk' fun y s₂ mm ry it' kk => ?_
      exact letGo_it it' (next_kind hn hk') (rest y s₂ (mI.trans mm) ry (x.moved kk it' stand_it) (fun k a e => (next_kind hn hk' k a e).elim))
    | vals vs0 =>
      have hk' : ∀ k a, It.vals vs0 = It.enm k a → False := by intro k a e; cases e
      refine next_item hh x.st.w x.it bb hn hk' fun y s₂ mm ry it' kk => ?_
      exact letGo_it it' (next_kind hn hk') (rest y s₂ (mI.trans mm) ry (x.moved kk it' stand_it) (fun k a e => (next_kind hn hk' k a e).elim))
end

/-! M13 -/
set_option linter.unusedSimpArgs false

section
variable {prog : Program} {w : World} {h₀ : Heap} {mg mb : Str → Option Value} {Φ : Fns} {n : Nat} {fns : List Str}

theorem callee_bi {c : Cfg} {es : List Expr} {as : List PE} {env : Env} {pos : Pos} {M : Model} {A : Around} {s : Shared} {E : Value → Shared → Prop} (f : BI) {Q : Value → Shared → Prop} (h : CEs c es as)
    (q : wpAny M A (spliced (backTo pos (starEach es env))) (fun vs s' => wpAny M A (call f.val vs) Q E s') E s) : wpAny M A (callWith pos f.val [] (backTo pos (starEach es env)) []) Q E s := by
  cases hf : f.isType with
  | true => cases f <;> first | (simp [BI.isType] at hf; done) | exact PyProof.Rows.callWith_type (star_plain h) (evalArgs_ces h q)
  | false => cases f <;> first | (simp [BI.isType] at hf; done) | exact Calls.callWith_builtin (star_plain h) (evalArgs_ces h q)

theorem few_ok {c : Cfg} {es : List Expr} {as : List PE} {env : Env} {pos : Pos} (h : CEs c es as) (hl : es.length < 15) :
    ((backTo pos (starEach es env)).all (fun x => !x.1) && (backToKw pos (keywordEach [] env)).all (fun x => x.1.isSome) && decide (es.length + ([] : List Keyword).length + (if ([] : List Keyword).isEmpty then 0 else 1) < 30)) = true := by
  have h1 := star_plain (env := env) (pos := pos) h
  rw [List.any_eq_false] at h1
  have h2 : (backTo pos (starEach es env)).all (fun x => !x.1) = true := by
    rw [List.all_eq_true]; intro x hx; have := h1 x hx; simpa using this
  rw [h2]
  show (true && true && decide (es.length + 0 + 0 < 30)) = true
  simp; omega

theorem isPart_of {h : Heap} {v : Value} {x : V} {P : Option Int → Prop} (r : Rep h v x) (q : partV x P) : ∃ k, IsPart v k ∧ P k := by
  unfold partV at q
  split at q
  · cases r; exact ⟨none, .none, q⟩
  · cases r; exact ⟨some _, .int _ _, q⟩
  · exact q.elim

theorem opSlice_ok {A : Around} {s : Shared} {σ : Hp} {Q : V → Hp → Prop} {vo vl vh vs : Value} {o lo hi st : V} {value slice : Expr} (ro : Rep s.heap vo o) (rl : Rep s.heap vl lo) (rh : Rep s.heap vh hi) (rs : Rep s.heap vs st) (hw : W h₀ σ s.heap) (q : opSlice o lo hi st Q σ)
    (hs : ∀ o i, ∃ ops, subscripted slice false o i = operate ops (getItem o i)) :
    wpAny (model prog w) A (subscriptTail value slice vo (.ref s.heap.objs.size)) (PV h₀ σ s Q) E0 { s with heap := s.heap.push { cls := .type "slice", data := .fields #[vl, vh, vs] } } := by
  unfold opSlice at q
  split at q
  · obtain ⟨xs, e, q⟩ := q
    cases ro
    obtain ⟨l, pl, q⟩ := isPart_of rl q
    obtain ⟨h, ph, q⟩ := isPart_of rh q
    obtain ⟨st', ps, h0, q⟩ := isPart_of rs q
    obtain ⟨ws, hl, r⟩ := hw.list e
    have hb := hw.len e
    have hlen := r.length
    obtain ⟨ops, hs⟩ := hs (.ref _) (.ref s.heap.objs.size)
    have k1 : ∀ b o, s.heap.get? b = some o → (s.heap.push { cls := .type "slice", data := .fields #[vl, vh, vs] }).get? b = some o := fun b o e => Heap.get?_push_of_some _ e
    have hl' := hl.push { cls := .type "slice", data := .fields #[vl, vh, vs] }
    refine tail_any (T := "list") hl'.typeIs slot_list_getitem.lookup (wpAny_getItem_list_slice hl' (Heap.IsSliceOf.new _ _ _ _) pl ph ps h0 ?_ (by simp; exact big_line (by omega))) hs
    have st1 : Step h₀ σ s.heap σ _ := hw.extend k1
    refine PV.back (s' := _) (s₁ := { s with heap := s.heap.push { cls := .type "slice", data := .fields #[vl, vh, vs] } }) (PV.push (s := { s with heap := s.heap.push { cls := .type "slice", data := .fields #[vl, vh, vs] } }) (n := 0) (vs := (slicePick ws.toArray l h st').toList) (tk := s.toks) st1.w ?_ q) st1 ⟨Eq.refl _, Eq.refl _⟩
    unfold slicePick pickL
    simp only [List.size_toArray, hlen, List.getElem?_toArray]
    exact (r.tups fun a o e _ => k1 a o e).filterMap _
  · exact q.elim

theorem scOk_names {c : Cfg} {scope : Scope} (ok : scOk c scope.names = true) : ∀ x ∈ scope.names, x.2 = NameKind.local → scope.names.lookup x.1 = some NameKind.local := fun x m e => by
  simp only [scOk, Bool.and_eq_true, decide_eq_true_eq, List.all_eq_true] at ok
  exact lookup_of_nodup ok.1 (by rw [← e]; exact m)
theorem clos_ok {c : Cfg} {scope : Scope} {env : Env} {own : Addr → Prop} {F : Frm} {σ : Hp} {h : Heap} (ok : scOk c scope.names = true) (hf : FrOk c env own F h₀ σ h) : closureFor scope env = pure (clGo env scope.names []) :=
  closureFor_eq (fun x m => by
    simp only [scOk, Bool.and_eq_true, decide_eq_true_eq, List.all_eq_true] at ok
    have o := ok.2 _ m
    simp at o
    have e' : c.names[c.names.idxOf x]? = some x := by
      have hlt := List.idxOf_lt_length_iff.mpr o.1.1
      exact (List.getElem?_eq_getElem hlt).trans (congrArg some (List.getElem_idxOf hlt))
    have nl : env.kindOf x ≠ some .local := by
      rcases hf.vk _ _ e' with ⟨q, _⟩ | ⟨_, q⟩ | ⟨_, q | q⟩
      · exact absurd q o.1.2
      all_goals rw [q]; simp
    obtain ⟨a', cv, g1, _⟩ := hf.cell _ _ e' nl
    rw [g1]; rfl)

def PVh (h₀ : Heap) (σ : Hp) (h : Heap) (Q : V → Hp → Prop) (v : Value) (s' : Shared) : Prop := ∃ x σ', Rep s'.heap v x ∧ Step h₀ σ h σ' s'.heap ∧ Q x σ'
theorem PVh.lift {σ σ' : Hp} {s : Shared} {h : Heap} {Q : V → Hp → Prop} {v : Value} {s' : Shared} (p : PVh h₀ σ' h Q v s') (st : Step h₀ σ s.heap σ' h) (m : Sm s s') : PV h₀ σ s Q v s' := by
  obtain ⟨x, σ'', r, st', q⟩ := p; exact ⟨x, σ'', r, ⟨st.trans st', m⟩, q⟩
/-- the list of a comprehension comes under σ -/
theorem comp_adopt {σ σ' : Hp} {hb : Heap} {s' : Shared} {D C : Addr} {acc : List V} {vs : List Value} {k : Nat} {m : Str → Option Value} {Q : V → Hp → Prop} {h'' : Heap} {tk : Nat} (hwb : W h₀ σ hb) (hq : newL acc Q σ') (gD : s'.heap.get? D = some (LObj vs k)) (rv : Reps s'.heap vs acc)
    (nC : s'.heap.Ns C m) (st : Step h₀ σ hb σ' s'.heap) (nD : hb.get? D = none) (nC' : hb.get? C = none) (hDC : D ≠ C) (sD : σ' D = none) (sC : σ' C = none) (sb : Heap.SameBut C s'.heap h'') :
    PVh h₀ σ hb Q (.ref D) { s' with heap := h'' } := by
  have kk : ∀ b o, b ∉ [C] → s'.heap.get? b = some o → h''.get? b = some o := fun b o n e => sb.extBut b o (by simpa using n) e
  have h0C : h₀.get? C = none := (beside_one hwb nC').2.2
  have ni : ∀ a ∈ [C], ∀ o, s'.heap.get? a = some o → ¬ Imm o := fun a m' o e => by simp at m'; subst m'; exact ns_not_imm nC o e
  have bC : Beside [C] h₀ σ' hb := fun a m' => by simp at m'; subst m'; exact ⟨nC', sC, h0C⟩
  have t2 := (st.w.slip (fun a m' => (bC a m').2) ni kk).2
  have st' := StepX.slip st bC ni kk
  have hD : Holds h'' D (.list acc) := ⟨vs, k, kk D _ (by simpa using hDC) gD, rv.tups t2⟩
  have wD := st'.w.adopt (beside_one hwb nD).2.2 hD hq.1
  refine ⟨_, _, .ref D, ⟨wD, st'.keep, fun a => ?_, st'.tups, st'.alive⟩, hq.2 D sD⟩
  by_cases qa : a = D
  · subst qa; exact ⟨fun _ => .inr nD, fun _ => .inr nD⟩
  · have := st'.grow a
    unfold Mut at this ⊢
    rw [upd_ne _ _ qa]; exact this

theorem rr_none {A : Around} {s : Shared} {σ : Hp} {hb : Heap} {Q : V → Hp → Prop} (hwb : W h₀ σ hb) {QQ : Value → Shared → Prop} (hQQ : ∀ v s', PVh h₀ σ hb Q v s' → Sm s s' → QQ v s') :
    CompEnd h₀ σ hb s Q (fun acc C => compPost (model prog w) A E0 none QQ acc C) := by
  intro D C s' σ' acc vs k m mm hq gD rv nC st nD nC' hDC sD sC
  exact ⟨m, nC, fun h'' sb => hQQ _ _ (comp_adopt (tk := 0) hwb hq gD rv nC st nD nC' hDC sD sC sb) (mm.trans ⟨Eq.refl _, Eq.refl _⟩)⟩

/-- the arguments of a call, one after the other -/
theorem sEs {c : Cfg} : ∀ {es : List Expr} {ps : List PE}, CEs c es ps → ∀ {A : Around} {s : Shared} {σ : Hp} {env : Env} {own : Addr → Prop} {F : Frm} {pos : Pos} {Q : List V → Hp → Prop},
    Here prog w h₀ mg mb Φ n c A s σ env own F → vEs Φ ps Q F σ → wpAny (model prog w) A (spliced (backTo pos (starEach es env))) (PVs h₀ σ s Q) E0 s
  | _, _, .nil, A, s, σ, env, own, F, pos, Q, X, v => Calls.spliced_nil ⟨_, σ, .nil, ⟨.refl X.w, .rfl⟩, v⟩
  | _, _, .cons he hs hst, A, s, σ, env, own, F, pos, Q, X, v => by
    rw [hst env]
    refine Calls.spliced_cons (wpAny_mono (he X v) (fun a s₁ => PV.on fun x σ₁ rx st m₁ q => wpAny_mono (sEs hs (X.step st) q) (fun vs s₂ => PVs.on fun xs σ₂ rs st₂ m₂ q₂ => ?_) fun _ _ f => f) fun _ _ f => f)
    exact ⟨_, σ₂, .cons (rx.step st₂) rs, ⟨st.trans st₂, m₁.trans m₂⟩, q₂⟩
theorem sO {c : Cfg} {e : Option Expr} {p : Option PE} (h : CO c e p) {A : Around} {s : Shared} {σ : Hp} {env : Env} {own : Addr → Prop} {F : Frm} {Q : V → Hp → Prop}
    (X : Here prog w h₀ mg mb Φ n c A s σ env own F) (v : vO Φ p Q F σ) : wpAny (model prog w) A (evalPart e env) (PV h₀ σ s Q) E0 s := by
  cases h with
  | none => exact wpAny_pure (PV.same' X.w .none v)
  | some h => exact h X v
theorem sTs {c : Cfg} : ∀ {es : List Expr} {ps : List PE}, CTs c es ps → ∀ {A : Around} {s : Shared} {σ : Hp} {env : Env} {own : Addr → Prop} {F : Frm} {Q : Bool → Hp → Prop},
    Here prog w h₀ mg mb Φ n c A s σ env own F → vTs Φ ps Q F σ →
    wpAny (model prog w) A (forIn es true fun c r => if r = true then do let ok ← isTrue c env (eval c env); pure (ForInStep.yield ok) else pure (ForInStep.yield r)) (PB h₀ σ s Q) E0 s
  | _, _, .nil, A, s, σ, env, own, F, Q, X, v => wpAny_pure ⟨σ, ⟨.refl X.w, .rfl⟩, v⟩
  | _, _, .cons (es := es) h hs, A, s, σ, env, own, F, Q, X, v => by
    rw [List.forIn_cons]
    simp only [if_true]
    refine wpAny_bind (wpAny_bind (wpAny_mono (h X v) (fun b s₁ => PB.on fun σ₁ st m₁ q => wpAny_pure ?_) fun _ _ f => f))
    cases b with
    | true => exact wpAny_mono (sTs hs (X.step st) q) (fun _ _ pb => pb.back st m₁) fun _ _ f => f
    | false =>
      have : ∀ es : List Expr, (forIn es false fun c r => if r = true then do let ok ← isTrue c env (eval c env); pure (ForInStep.yield ok) else pure (ForInStep.yield r)) = (pure false : Sem Bool) := fun es => by
        induction es with
        | nil => rfl
        | cons e es ih => rw [List.forIn_cons]; exact ih
      dsimp only
      rw [this]
      exact wpAny_pure ⟨σ₁, ⟨st, m₁⟩, q⟩
end
/-- an iterable -/
def CI (c : Cfg) (e : Expr) (k : IK) (a : PE) : Prop := (∀ env x, foldedSetIterable e env x = pure x) ∧ ∀ {prog : Program} {w : World} {h₀ : Heap} {mg mb : Str → Option Value} {Φ : Fns} {n : Nat} {A : Around} {s : Shared} {σ : Hp} {env : Env} {own : Addr → Prop} {F : Frm} {P : It → Hp → Prop},
  Here prog w h₀ mg mb Φ n c A s σ env own F → vE Φ a (fun x σ => itStart k x P σ) F σ → wpAny (model prog w) A (eval e env) (fun v s₁ => wpAny (model prog w) A (pyIter v) (fun it s₂ => ∃ σ₁ s₀, Step h₀ σ s.heap σ₁ s₀.heap ∧ Sm s s₀ ∧ Started (k == .enum) h₀ σ₁ s₀ P it s₂) E0 s₁) E0 s
/-- the parts of a comprehension -/
structure CompOk (c : Cfg) (elt t it : Expr) (k : IK) (ifs : List Expr) (scope : Scope) (a b : PE) (tg : Tgt) (as : List PE) (fm : List (Option Nat)) : Prop where
  ok : scOk c scope.names = true
  kind : scope.kind = .function
  fm : fm = fmapOf c scope.names
  ci : CI c it k b
  en : k = .enum → ∃ is, tg = .tup is
  cg : CG { sc := scope.names, fns := c.fns } t tg
  ce : CE { sc := scope.names, fns := c.fns } elt a
  ct : CTs { sc := scope.names, fns := c.fns } ifs as
section
variable {c : Cfg} {p q : Pos}
theorem CE.int {i : Int} {k : Nat} : CE c (.Constant (.int i) k p) (.int i) := fun X v => wpAny_Constant_int (PV.same X.w (.int _ _) v _)
theorem look_some {F : Frm} {i : Nat} {K : V → Prop} (h : look F i K) : ∃ v, F[i]? = some (some v) ∧ K v := by
  unfold look at h
  split at h
  · rename_i u hu; exact ⟨u, hu, h⟩
  · exact h.elim
theorem CE.var {x : Str} {i : Nat} (e : c.names[i]? = some x) (hd : (x == ("__debug__" : Str)) = false) (hcd : (x == ("__classdict__" : Str)) = false) : CE c (.Name x p) (.var i) := by
  intro prog w h₀ mg mb Φ n A s σ env own F Q X v
  obtain ⟨u, hu, v⟩ := look_some v
  exact wpAny_Name (X.f.load e hu hcd fun w r => PV.same' X.w r v) hd
theorem CE.bin {l r : Expr} {op : Operator} {a b : PE} (hl : CE c l a) (hr : CE c r b) : CE c (.BinOp l op r p) (.bin op a b) := by
  intro prog w h₀ mg mb Φ n A s σ env own F Q X v
  refine wpAny_BinOp (wpAny_mono (hl X v) (fun a s₁ => PV.on fun x σ₁ rx st m₁ q => wpAny_mono (hr (X.step st) q) (fun b s₂ => PV.on fun y σ₂ ry st₂ m₂ q₂ => ?_) fun _ _ f => f) fun _ _ f => f)
  exact wpAny_mono (opBin_ok X.G X.R st₂.w (rx.step st₂) ry q₂) (fun _ _ pv => pv.back (st.trans st₂) (m₁.trans m₂)) fun _ _ f => f
theorem CE.neg {e : Expr} {a : PE} (he : CE c e a) : CE c (.UnaryOp .USub e p) (.neg a) := by
  intro prog w h₀ mg mb Φ n A s σ env own F Q X v
  refine UnaryOp_ (wpAny_mono (he X v) (fun a s₁ => PV.on fun x σ₁ rx st m₁ q => ?_) fun _ _ f => f)
  unfold negQ at q
  split at q
  · cases rx; exact neg_int ⟨_, σ₁, .int _ _, ⟨st, m₁⟩, q⟩
  · exact q.elim
theorem CE.cmp {l r : Expr} {op : CmpOp} {a b : PE} (hl : CE c l a) (hr : CE c r b) (hm : behindInMarks op r = false) : CE c (.Compare l [op] [r] p) (.cmp op a b) := by
  intro prog w h₀ mg mb Φ n A s σ env own F Q X v
  refine wpAny_Compare1 (wpAny_mono (hl X v) (fun a s₁ => PV.on fun x σ₁ rx st m₁ q => wpAny_mono (hr (X.step st) q) (fun b s₂ => PV.on fun y σ₂ ry st₂ m₂ q₂ => ?_) fun _ _ f => f) fun _ _ f => f) hm
  exact wpAny_mono (opCmp_ok X.R (rx.step st₂) ry st₂.w q₂) (fun _ _ pv => pv.back (st.trans st₂) (m₁.trans m₂)) fun _ _ f => f
theorem CE.ite {t l r : Expr} {a b d : PE} (ht : CT c t a) (hl : CE c l b) (hr : CE c r d) : CE c (.IfExp t l r p) (.ite a b d) := by
  intro prog w h₀ mg mb Φ n A s σ env own F Q X v
  refine IfExp_ (wpAny_mono (ht X v) (fun b s₁ => PB.on fun σ₁ st m₁ q => ?_) fun _ _ f => f)
  cases b with
  | true => exact wpAny_mono (hl (X.step st) q) (fun _ _ pv => pv.back st m₁) fun _ _ f => f
  | false => exact wpAny_mono (hr (X.step st) q) (fun _ _ pv => pv.back st m₁) fun _ _ f => f
theorem CE.sub {o i : Expr} {a b : PE} (ho : CE c o a) (hi : CE c i b) (hs : ∀ o v, subscripted i false o v = operate [o, v] (getItem o v)) : CE c (.Subscript o i p) (.sub a b) := by
  intro prog w h₀ mg mb Φ n A s σ env own F Q X v
  refine Subscript_ (wpAny_mono (ho X v) (fun a s₁ => PV.on fun x σ₁ rx st m₁ q => wpAny_mono (hi (X.step st) q) (fun b s₂ => PV.on fun y σ₂ ry st₂ m₂ q₂ => ?_) fun _ _ f => f) fun _ _ f => f)
  exact wpAny_mono (q₂.go (rx.step st₂) ry st₂.w hs) (fun _ _ pv => pv.back (st.trans st₂) (m₁.trans m₂)) fun _ _ f => f
theorem CE.slice {o : Expr} {lo hi ste : Option Expr} {a : PE} {l h st' : Option PE} (ho : CE c o a) (hlo : CO c lo l) (hhi : CO c hi h) (hst : CO c ste st') : CE c (.Subscript o (.Slice lo hi ste p) q) (.slice a l h st') := by
  intro prog w h₀ mg mb Φ n A s σ env own F Q X v
  refine Subscript_ (wpAny_mono (ho X v) (fun a s₁ => PV.on fun x σ₁ rx st m₁ q => ?_) fun _ _ f => f)
  have X1 := X.step st
  refine wpAny_Slice (wpAny_mono (sO hlo X1 q) (fun l s₂ => PV.on fun lx σ₂ lr st₂ m₂ q₂ => wpAny_mono (sO hhi (X1.step st₂) q₂) (fun h s₃ => PV.on fun hx σ₃ hr st₃ m₃ q₃ =>
    wpAny_mono (sO hst ((X1.step st₂).step st₃) q₃) (fun sv s₄ => PV.on fun sx σ₄ sr st₄ m₄ q₄ => ?_) fun _ _ f => f) fun _ _ f => f) fun _ _ f => f)
  have all := ((st.trans st₂).trans st₃).trans st₄
  exact wpAny_mono (opSlice_ok (((rx.step st₂).step st₃).step st₄) ((lr.step st₃).step st₄) (hr.step st₄) sr st₄.w q₄ (fun o i => by cases ste with | none => exact ⟨_, rfl⟩ | some e => exact ⟨_, rfl⟩)) (fun _ _ pv => pv.back all (((m₁.trans m₂).trans m₃).trans m₄)) fun _ _ f => f
theorem CE.list {es : List Expr} {as : List PE} (hs : CEs c es as) : CE c (.List es p) (.list as) := by
  intro prog w h₀ mg mb Φ n A s σ env own F Q X v
  refine wpAny_List_spliced (wpAny_mono (sEs hs X v) (fun vs s₁ => PVs.on fun xs σ₁ rs st m₁ q => ?_) fun _ _ f => f)
  have hl := rs.length
  exact ⟨big_line (by rw [hl]; exact q.1), PV.back (PV.push (n := 0) st.w rs q _) st m₁⟩
theorem CE.tuple {es : List Expr} {k : Nat} {as : List PE} (hs : CEs c es as) : CE c (.Tuple es k p) (.tuple as) := by
  intro prog w h₀ mg mb Φ n A s σ env own F Q X v
  refine wpAny_Tuple_spliced (wpAny_mono (sEs hs X v) (fun vs s₁ ⟨xs, σ₁, rs, ⟨st, m₁⟩, hb, q⟩ => ?_) fun _ _ f => f)
  have hl := rs.length
  have k : ∀ b o, s₁.heap.get? b = some o → (s₁.heap.push { cls := .type "tuple", data := .seq vs.toArray }).get? b = some o := fun b o e => Heap.get?_push_of_some _ e
  exact ⟨big_line (by rw [hl]; exact hb), _, σ₁, .tup (vs := vs) ⟨_, Heap.get?_push_size _ rfl, rfl, 0, rfl⟩ (rs.tups fun a o e _ => k a o e), ⟨st.trans (st.w.extend k), m₁.trans ⟨Eq.refl _, Eq.refl _⟩⟩, q⟩
theorem CE.call {x : Str} {f : BI} {es : List Expr} {as : List PE} (hn : f.name = x) (hk : c.sc.lookup x = some .globalImplicit) (hs : CEs c es as) : CE c (.Call (.Name x p) es [] q) (.call f as) := by
  intro prog w h₀ mg mb Φ n A s σ env own F Q X v
  subst hn
  refine Call_Name rfl (load_glob X.G X.w X.f hk f.notName.2 (.inr ⟨X.NM.fr _ f.mem, (X.G.boot _ f.notName.1).trans f.boot⟩) ?_)
  refine callee_bi f hs (wpAny_mono (sEs hs X v) (fun vs s₁ => PVs.on fun xs σ₁ rs st m₁ q => ?_) fun _ _ f => f)
  exact wpAny_mono ((opCall_ok q).go X.G X.R rs st.w) (fun _ _ pv => pv.back st m₁) fun _ _ f => f
theorem CE.ucall {x : Str} {i : Nat} {es : List Expr} {as : List PE} (hn : c.fns[i]? = some x) (hd : (x == ("__debug__" : Str)) = false) (hk : c.sc.lookup x = some .globalImplicit) (hlen : es.length < 15) (hs : CEs c es as) : CE c (.Call (.Name x p) es [] q) (.ucall i as) := by
  intro prog w h₀ mg mb Φ n A s σ env own F Q X v
  obtain ⟨fv, e1, fa, o, fd, rfl, e2, e3, call⟩ := X.NM.fn i _ hn
  refine Call_Name rfl (load_glob X.G X.w X.f hk hd (.inl e1) ?_)
  refine callWith_function_kw (o := o) (fd := fd) (evalArgs_ces hs (wpAny_mono (sEs hs X v) (fun vs s₁ => PVs.on fun xs σ₁ rs st m₁ q => ?_) fun _ _ f => f))
  exact ⟨⟨st.w.stays _ _ e2, e3⟩, wpAny_mono (call A s₁ σ₁ vs xs Q X.R st.w rs q) (fun _ _ pv => pv.back st m₁) fun _ _ f => f⟩
theorem CE.meth {o : Expr} {x : Str} {m : Meth} {es : List Expr} {ap : Pos} {a : PE} {as : List PE} (hn : m.name = x) (hl : (ap.endLine == q.line) = true) (hlen : es.length < 15) (ha : ∀ env, attributeBase o x env (eval o env) = eval o env)
    (ho : CE c o a) (hs : CEs c es as) : CE c (.Call (.Attribute o x ap) es [] q) (.meth m a as) := by
  intro prog w h₀ mg mb Φ n A s σ env own F Q X v
  subst hn
  refine wpAny_Call_method (T := "list") (id := m.id) (ha env) ?_ hl PySem.F.plainAttrs_list (list_slots m).1 (list_slots m).2 (wpAny_mono (ho X v) (fun ov s₁ ⟨x, σ₁, rx, ⟨st, m₁⟩, ⟨b, xs, eb, eσ⟩, q⟩ => ?_) fun _ _ f => f)
  · exact few_ok hs hlen
  · subst eb
    cases rx
    obtain ⟨vs, k, g, r⟩ := st.w.mlist eσ
    refine ⟨⟨_, g, rfl⟩, fun a e => ⟨_, by cases e; exact g, rfl⟩, ?_⟩
    refine Calls.callWith_builtin (star_plain hs) (evalArgs_ces hs (wpAny_mono (sEs hs (X.step st) q) (fun vs s₂ => PVs.on fun ys σ₂ rs st₂ m₂ q₂ => ?_) fun _ _ f => f))
    exact wpAny_mono (q₂.go X.G X.R (.ref _) rs st₂.w) (fun _ _ pv => pv.back (st.trans st₂) (m₁.trans m₂)) fun _ _ f => f
theorem CE.comp {elt t it : Expr} {k : IK} {ifs : List Expr} {scope : Scope} {a b : PE} {tg : Tgt} {as : List PE} {fm : List (Option Nat)} (C : CompOk c elt t it k ifs scope a b tg as fm) : CE c (.ListComp elt [⟨t, it, ifs, 0⟩] scope p) (.comp fm a tg k b as) := by
  intro prog w h₀ mg mb Φ n A s σ env own F Q X v
  rw [eval_ListComp]
  refine wpAny_comprehension_free (use := .none) rfl (C.ci.1 env) (clos_ok C.ok X.f) C.kind (scOk_names C.ok) (wpAny_mono (C.ci.2 X v) (fun x s₁ h => ?_) fun _ _ f => f)
  refine wpAny_mono h (fun it s₂ ⟨σ₁, s₀, st, m₁, m₂, I, as, ne, hit, bes, ko, Inv, ⟨n0, hi⟩, hinv⟩ => ?_) fun _ _ f => f
  have hfm := C.fm
  subst hfm
  exact comp_tail (Inv := Inv) X.R.handled C.ok C.kind C.cg (fun hw hf v => C.ce ⟨X.G, X.NM, X.R, hw, hf⟩ v) (fun hw hf v => sTs C.ct ⟨X.G, X.NM, X.R, hw, hf⟩ v)
    (fun k' a' e => by
      have hk := ne k' a' e
      obtain ⟨is, rfl⟩ := C.en (by simpa using hk)
      cases C.cg; exact ⟨_, _, _, rfl⟩) st.w (X.f.step st) ko hit bes hi hinv (rr_none st.w (fun _ s' pv m₃ => PVh.lift pv st (m₁.trans (m₂.trans m₃))))
theorem CI.plain {e : Expr} {a : PE} (h : CE c e a) (hf : ∀ env x, foldedSetIterable e env x = pure x) : CI c e .plain a := by
  refine ⟨hf, fun {prog w h₀ mg mb Φ n A s σ env own F P} X v => ?_⟩
  exact wpAny_mono (h X v) (fun v s₁ => PV.on fun x σ₁ rx st m₁ q => wpAny_mono (start_plain st.w rx q) (fun it s₂ sd => ⟨σ₁, s₁, st, m₁, sd⟩) fun _ _ f => f) fun _ _ f => f
theorem CI.enum {x : Str} {e : Expr} {a : PE} (hn : x = "enumerate") (hk : c.sc.lookup x = some .globalImplicit) (h : CE c e a) (hst : ∀ env, starEach [e] env = [(false, eval e env)]) : CI c (.Call (.Name x p) [e] [] q) .enum a := by
  subst hn
  refine ⟨fun _ _ => rfl, fun {prog w h₀ mg mb Φ n A s σ env own F P} X v => ?_⟩
  have hces : CEs c [e] [a] := .cons h .nil hst
  refine Call_Name rfl (load_glob X.G X.w X.f hk (by decide) (.inr ⟨X.NM.fr _ (by decide +kernel), (X.G.boot _ (by decide)).trans enum_boot⟩) ?_)
  refine PyProof.Rows.callWith_type (star_plain hces) (evalArgs_ces hces ?_)
  rw [hst env]
  refine Calls.spliced_cons (wpAny_mono (h X v) (fun v s₁ => PV.on fun x σ₁ rx st m₁ q => Calls.spliced_nil ?_) fun _ _ f => f)
  have : ∃ b, x = .ref b := by
    unfold itStart at q
    split at q <;> first | exact ⟨_, rfl⟩ | (exfalso; simp_all; done) | exact q.elim | simp_all
  obtain ⟨b, rfl⟩ := this
  cases rx
  exact wpAny_mono (start_enum st.w q) (fun it s₂ ⟨self, sd⟩ => self _ _ ⟨σ₁, s₁, st, m₁, sd⟩) fun _ _ f => f
theorem CT.not {e : Expr} {a : PE} (h : CT c e a) : CT c (.UnaryOp .Not e p) (.not a) := by
  intro prog w h₀ mg mb Φ n A s σ env own F P X v
  exact isTrue_not (h X v)
theorem CT.and {l r : Expr} {a b : PE} (hl : CT c l a) (hr : CT c r b) : CT c (.BoolOp .And [l, r] p) (.and a b) := by
  intro prog w h₀ mg mb Φ n A s σ env own F P X v
  refine isTrue_and (wpAny_mono (hl X v) (fun b s₁ => PB.on fun σ₁ st m₁ q => ?_) fun _ _ f => f)
  cases b with
  | true =>
    refine isTrue_and (wpAny_mono (hr (X.step st) q) (fun b s₂ q₂ => ?_) fun _ _ f => f)
    have := q₂.back st m₁
    cases b with
    | true => exact isTrue_and_nil this
    | false => exact this
  | false => exact ⟨σ₁, ⟨st, m₁⟩, q⟩
theorem CT.cmp {l r : Expr} {op : CmpOp} {a b : PE} (hl : CE c l a) (hr : CE c r b) (hm : behindInMarks op r = false) : CT c (.Compare l [op] [r] p) (.cmp op a b) := by
  intro prog w h₀ mg mb Φ n A s σ env own F P X v
  refine wpAny_isTrue_Compare1 (wpAny_mono (hl X v) (fun a s₁ => PV.on fun x σ₁ rx st m₁ q => wpAny_mono (hr (X.step st) q) (fun b s₂ => PV.on fun y σ₂ ry st₂ m₂ q₂ => ?_) fun _ _ f => f) fun _ _ f => f) hm
  exact wpAny_mono (opCmp_ok X.R (rx.step st₂) ry st₂.w q₂) (fun v s₃ => PV.on fun z σ₃ rz st₃ m₃ q₃ => wpAny_mono (truth_ok rz st₃.w q₃) (fun _ _ pb => pb.back ((st.trans st₂).trans st₃) ((m₁.trans m₂).trans m₃)) fun _ _ f => f) fun _ _ f => f
end

/-! M14 -/
def FlRep (h : Heap) : Flow → Fl → Prop
  | .next, .next => True
  | .brk, .brk => True
  | .cont, .cont => True
  | .ret v, .ret x => Rep h v x
  | _, _ => False
def PSt (c : Cfg) (env : Env) (own : Addr → Prop) (h₀ : Heap) (σ : Hp) (s : Shared) (Q : Fl → Frm → Hp → Prop) (f : Flow) (s' : Shared) : Prop :=
  ∃ fl F' σ', FlRep s'.heap f fl ∧ (StepX own h₀ σ s.heap σ' s'.heap ∧ Sm s s') ∧ FrOk c env own F' h₀ σ' s'.heap ∧ Q fl F' σ'
theorem PSt.back {c : Cfg} {env : Env} {own : Addr → Prop} {h₀ : Heap} {σ σ' : Hp} {s s₁ : Shared} {Q : Fl → Frm → Hp → Prop} {f : Flow} {s' : Shared} (x : PSt c env own h₀ σ' s₁ Q f s') (st : StepX own h₀ σ s.heap σ' s₁.heap) (m : Sm s s₁) : PSt c env own h₀ σ s Q f s' := by
  obtain ⟨fl, F', σ'', a, ⟨b, m'⟩, d, e⟩ := x; exact ⟨fl, F', σ'', a, ⟨st.trans b, m.trans m'⟩, d, e⟩
theorem PSt.next {c : Cfg} {env : Env} {own : Addr → Prop} {h₀ : Heap} {σ σ' : Hp} {s : Shared} {F : Frm} {Q : Fl → Frm → Hp → Prop} {s' : Shared} (st : StepX own h₀ σ s.heap σ' s'.heap) (m : Sm s s') (f : FrOk c env own F h₀ σ' s'.heap) (q : Q .next F σ') : PSt c env own h₀ σ s Q .next s' :=
  ⟨.next, F, σ', trivial, ⟨st, m⟩, f, q⟩

/-- how a for stands amid its turns -/
structure FSt (c : Cfg) (env : Env) (own : Addr → Prop) (as : List Addr) (iv : Value) (h₀ : Heap) (σb : Hp) (hb : Heap) (I : It) (F : Frm) (σ : Hp) (h : Heap) : Prop where
  it : ItRep h iv as I
  fr : FrOk c env own F h₀ σ h
  st : StepX own h₀ σb hb σ h
  bes : Beside as h₀ σ hb
  no : ∀ a ∈ as, ¬ own a
  cl : ∀ (i : Nat) y a, c.names[i]? = some y → env.kindOf y ≠ some .local → env.cells.lookup y = some a → ∃ o, hb.get? a = some o
  lc : ∃ o, hb.get? env.locals = some o

section
variable {prog : Program} {w : World} {A : Around} {s : Shared} {c : Cfg} {env : Env} {own : Addr → Prop} {as : List Addr} {iv : Value} {F F1 : Frm} {h₀ : Heap} {σb σ σ' : Hp} {hb h h' : Heap} {I I' : It}

/-- a frame where only the cells that it names count -/
theorem FrOk.move' (f : FrOk c env own F h₀ σ h) (kl : ∀ o, h.get? env.locals = some o → h'.get? env.locals = some o) (kc : ∀ (i : Nat) x a, c.names[i]? = some x → env.kindOf x ≠ some .local → env.cells.lookup x = some a → ∀ o, h.get? a = some o → h'.get? a = some o)
    (t : Tups h h') (al : ∀ a, own a → ∃ o, h'.get? a = some o) : FrOk c env own F h₀ σ h' := by
  refine ⟨f.kind, f.glob, f.bi, f.gk, f.vk, ?_, fun i x e n => ?_, f.inj, f.loc, f.nd, al⟩
  · obtain ⟨m, n, r⟩ := f.ns
    obtain ⟨o, es, ep, ho, q⟩ := n
    exact ⟨m, ⟨o, es, ep, kl _ ho, q⟩, fun i x v e1 e2 e3 => by
      obtain ⟨w, e4, e5⟩ := r i x v e1 e2 e3
      exact ⟨w, e4, e5.tups t⟩⟩
  · obtain ⟨a, cv, e1, ⟨o, e2, e2'⟩, e3, e4, e5, e6⟩ := f.cell i x e n
    refine ⟨a, cv, e1, ⟨o, kc _ _ _ e n e1 _ e2, e2'⟩, e3, e4, e5, fun v hv => ?_⟩
    obtain ⟨w, q1, q2⟩ := e6 v hv
    exact ⟨w, q1, q2.tups t⟩
theorem FSt.stepX (x : FSt c env own as iv h₀ σb hb I F σ h) (y : StepX own h₀ σ h σ' h') (f : FrOk c env own F1 h₀ σ' h') : FSt c env own as iv h₀ σb hb I F1 σ' h' := by
  have kp : ∀ a ∈ as, ∀ o, h.get? a = some o → h'.get? a = some o := fun a m o e => y.keep a o (none_mut (x.bes a m).2.1) (x.no a m) e
  exact ⟨x.it.move kp y.tups, f, x.st.trans y, x.bes.of_grow y.grow x.it.there, x.no, x.cl, x.lc⟩
theorem FSt.moved (x : FSt c env own as iv h₀ σb hb I F σ h) (k : ∀ b o, b ∉ as → h.get? b = some o → h'.get? b = some o) (it' : ItRep h' iv as I') : FSt c env own as iv h₀ σb hb I' F σ h' := by
  have t := (x.st.w.slip (fun a m => (x.bes a m).2) x.it.notImm k).2
  have nh : ∀ a, (∃ o, hb.get? a = some o) → a ∉ as := fun a ⟨o, e⟩ m => by rw [(x.bes a m).1] at e; cases e
  refine ⟨it', ?_, StepX.slip x.st x.bes x.it.notImm k, x.bes, x.no, x.cl, x.lc⟩
  refine x.fr.move' (fun o e => k _ o (nh _ x.lc) e) (fun i y a e1 e2 e3 o e => k a o (nh a (x.cl i y a e1 e2 e3)) e) t (fun a m => ?_)
  obtain ⟨o, e⟩ := x.fr.ex a m
  exact ⟨o, k a o (fun m' => x.no a m' m) e⟩
theorem FSt.over (x : FSt c env own as iv h₀ σb hb I F σ h) (k : ∀ b o, b ∉ as → h.get? b = some o → h'.get? b = some o) : StepX own h₀ σb hb σ h' ∧ FrOk c env own F h₀ σ h' := by
  have t := (x.st.w.slip (fun a m => (x.bes a m).2) x.it.notImm k).2
  have nh : ∀ a, (∃ o, hb.get? a = some o) → a ∉ as := fun a ⟨o, e⟩ m => by rw [(x.bes a m).1] at e; cases e
  refine ⟨StepX.slip x.st x.bes x.it.notImm k, ?_⟩
  refine x.fr.move' (fun o e => k _ o (nh _ x.lc) e) (fun i y a e1 e2 e3 o e => k a o (nh a (x.cl i y a e1 e2 e3)) e) t (fun a m => ?_)
  obtain ⟨o, e⟩ := x.fr.ex a m
  exact ⟨o, k a o (fun m' => x.no a m' m) e⟩
theorem FSt.start (hw : W h₀ σ hb) (hf : FrOk c env own F h₀ σ hb) (it : ItRep h iv as I) (bes : Beside as h₀ σ hb) (ko : ∀ b o, hb.get? b = some o → h.get? b = some o) : FSt c env own as iv h₀ σ hb I F σ h := by
  have st := hw.extend ko
  refine ⟨it, hf.step st, Step.any st, bes, fun a m q => ?_, fun i y a e1 e2 e3 => ?_, ?_⟩
  · obtain ⟨o, e⟩ := hf.ex a q; rw [(bes a m).1] at e; cases e
  · obtain ⟨a', cv, g1, ⟨o, g2, _⟩, _⟩ := hf.cell i y e1 e2
    rw [e3] at g1; cases g1; exact ⟨o, g2⟩
  · obtain ⟨m, ⟨o, _, _, ho, _⟩, _⟩ := hf.ns; exact ⟨o, ho⟩
end

section
variable {prog : Program} {w : World} {h₀ : Heap} {mg mb : Str → Option Value} {Φ : Fns} {n : Nat} {fns : List Str}

def ForInv (Φ : Fns) (t : Tgt) (b : List PS) (Q : Fl → Frm → Hp → Prop) (Inv : Nat → It → Frm → Hp → Prop) : Prop := ∀ n I F σ, Inv n I F σ →
        match itNext I σ with
        | none => False
        | some none => Q .next F σ
        | some (some (x, I')) => bindT t x (fun F1 => vSs Φ b (fun fl F σ => match fl with
          | .next => ∃ m, m < n ∧ Inv m I' F σ
          | .cont => ∃ m, m < n ∧ Inv m I' F σ
          | .brk => Q .next F σ
          | .ret v => Q (.ret v) F σ) F1 σ) F σ

theorem for_loop {A : Around} {s : Shared} {c : Cfg} {env : Env} {own : Addr → Prop} {as : List Addr} {iv : Value} {F : Frm} {σ : Hp} {sb : Shared} {I : It} {t : Expr} {tg : Tgt} {l : List Stmt} {b : List PS} {Q : Fl → Frm → Hp → Prop} {Inv : Nat → It → Frm → Hp → Prop}
    (hh : A.handled = none) (hg : CG c t tg)
    (hbd : ∀ {s : Shared} {σ : Hp} {F : Frm} {Q : Fl → Frm → Hp → Prop}, W h₀ σ s.heap → FrOk c env own F h₀ σ s.heap → vSs Φ b Q F σ → wpAny (model prog w) A (execs l env) (PSt c env own h₀ σ s Q) E0 s)
    (hen : ∀ k a, I = .enm k a → ∃ elts x1 p, t = .Tuple elts x1 p) (x0 : FSt c env own as iv h₀ σ sb.heap I F σ s.heap) (mb : Sm sb s) {n : Nat} (hi : Inv n I F σ) (hinv : ForInv Φ tg b Q Inv) {R : Result → Shared → Prop}
    (hR : ∀ f s', PSt c env own h₀ σ sb Q f s' → R (.ok f) s') : codeAny (model prog w) A (.forLoop t iv l [] env) R s := by
  have e0 : ∀ (E : Value → Shared → Prop) e s, E0 e s → E e s := fun _ _ _ f => f.elim
  refine codeAny_forLoop_any (fun n s' => ∃ I F σ', Sm sb s' ∧ Inv n I F σ' ∧ (∀ k a, I = .enm k a → ∃ elts x1 p, t = .Tuple elts x1 p) ∧ FSt c env own as iv h₀ σ sb.heap I F σ' s'.heap) (fun n s' hI => ?_) n ⟨I, F, σ, mb, hi, hen, x0⟩
  obtain ⟨I, F, σ', mI, hi, hen, x⟩ := hI
  have q := hinv n I F σ' hi
  split at q
  · exact q.elim
  · rename_i hn
    refine next_end hh x.st.w x.it hn fun s'' mE kk => wpAny_execs_nil ?_
    obtain ⟨st, fr⟩ := x.over kk
    exact hR _ _ ⟨.next, F, σ', trivial, ⟨st, mI.trans mE⟩, fr, q⟩
  · rename_i xx I' hn
    have rest : ∀ y s₂, Sm sb s₂ → Rep s₂.heap y xx → FSt c env own as iv h₀ σ sb.heap I' F σ' s₂.heap → (∀ k a, I' = .enm k a → ∃ elts x1 p, t = .Tuple elts x1 p) →
        wpAny (model prog w) A (assign t env y) (fun _ s₂ => wpAny (model prog w) A (execs l env) (fun f s₃ => match f with
            | .next | .cont => ∃ m, m < n ∧ ∃ I F σ', Sm sb s₃ ∧ Inv m I F σ' ∧ (∀ k a, I = .enm k a → ∃ elts x1 p, t = .Tuple elts x1 p) ∧ FSt c env own as iv h₀ σ sb.heap I F σ' s₃.heap
            | .brk => R (.ok .next) s₃
            | .ret v => R (.ok (.ret v)) s₃) (notedBy (model prog w) A env fun e s' => R (.error e) s') s₂) (notedBy (model prog w) A env fun e s' => R (.error e) s') s₂ := by
      intro y s₂ m2 ry x2 hen'
      refine assign_ok hg hh x2.st.w x2.fr ry q fun s₃ F1 qF m3 stx f1 => ?_
      have x3 := x2.stepX stx f1
      refine wpAny_mono (hbd x3.st.w x3.fr qF) (fun f s₄ ⟨fl, F4, σ4, rf, ⟨st4, m4⟩, fr4, q4⟩ => ?_) (e0 _)
      have x4 := x3.stepX st4 fr4
      have mm := (m2.trans m3).trans m4
      cases f with
      | next => cases fl <;> first | exact rf.elim | (obtain ⟨m, hm, q5⟩ := q4; exact ⟨m, hm, I', F4, σ4, mm, q5, hen', x4⟩)
      | cont => cases fl <;> first | exact rf.elim | (obtain ⟨m, hm, q5⟩ := q4; exact ⟨m, hm, I', F4, σ4, mm, q5, hen', x4⟩)
      | brk => cases fl <;> first | exact rf.elim | exact hR _ _ ⟨.next, F4, σ4, trivial, ⟨x4.st, mm⟩, x4.fr, q4⟩
      | ret v => cases fl <;> first | exact rf.elim | exact hR _ _ ⟨.ret _, F4, σ4, rf, ⟨x4.st, mm⟩, x4.fr, q4⟩
    have bb : ∀ a ∈ as, σ' a = none ∧ h₀.get? a = none := fun a m => (x.bes a m).2
    cases I with
    | enm k0 a0 =>
      obtain ⟨elts, x1, p, rfl⟩ := hen _ _ rfl
      obtain ⟨e1, I1, old', rfl, rfl, hne, he, hi'⟩ := x.it
      refine next_enum x.st.w hne he hi' bb hn (elts := elts) (x1 := x1) (pos := p) fun y s₂ hy => ?_
      refine wpAny_mono hy (fun _ s₃ ⟨mm, ry, it', kk⟩ => rest y s₃ (mI.trans mm) ry (x.moved kk it') (fun _ _ _ => ⟨_, _, _, rfl⟩)) (e0 _)
    | lst a0 i0 =>
      have hk' : ∀ k a, It.lst a0 i0 = It.enm k a → False := by intro k a e; cases e
      refine next_item hh x.st.w x.it bb hn hk' fun y s₂ mm ry it' kk => ?_
      exact letGo_it it' (next_kind hn hk') (rest y s₂ (mI.trans mm) ry (x.moved kk it') (fun k a e => (next_kind hn hk' k a e).elim))
    | rng a0 n0 c0 =>
      have hk' : ∀ k a, It.rng a0 n0 c0 = It.enm k a → False := by intro k a e; cases e
      refine next_item hh x.st.w x.it bb hn hk' fun y s₂ mm ry it' kk => ?_
      exact letGo_it it' (next_kind hn hk') (rest y s₂ (mI.trans mm) ry (x.moved kk it') (fun k a e => (next_kind hn hk' k a e).elim))
    | vals vs0 =>
      have hk' : ∀ k a, It.vals vs0 = It.enm k a → False := by intro k a e; cases e
      refine next_item hh x.st.w x.it bb hn hk' fun y s₂ mm ry it' kk => ?_
      exact letGo_it it' (next_kind hn hk') (rest y s₂ (mI.trans mm) ry (x.moved kk it') (fun k a e => (next_kind hn hk' k a e).elim))
end

/-! M15 -/
section
variable {prog : Program} {w : World} {h₀ : Heap} {mg mb : Str → Option Value} {Φ : Fns} {n : Nat} {fns : List Str}

theorem rr_some {A : Around} {s : Shared} {c : Cfg} {env : Env} {own : Addr → Prop} {F : Frm} {σ : Hp} {sb : Shared} {Q : Fl → Frm → Hp → Prop} {x : Str} {xp : Pos} {i : Nat} (hx : c.names[i]? = some x) (nf : c.sc.lookup x ≠ some .free)
    (hh : A.handled = none) (msb : Sm sb s) (hwb : W h₀ σ sb.heap) (hf : FrOk c env own F h₀ σ sb.heap) {QQ : Value → Shared → Prop} (hQQ : ∀ v s', PSt c env own h₀ σ sb Q .next s' → QQ v s') :
    CompEnd h₀ σ sb.heap s (fun v σ => bindT (.name i) v (fun F' => Q .next F' σ) F σ) (fun acc C => compPost (model prog w) A E0 (some (assign (.Name x xp) env)) QQ acc C) := by
  intro D C s' σ' acc vs k m mm hq gD rv nC st nD nC' hDC sD sC
  have hD : Holds s'.heap D (.list acc) := ⟨vs, k, gD, rv⟩
  have wD := st.w.adopt (beside_one hwb nD).2.2 hD hq.1
  have st2 : Step h₀ σ sb.heap (upd σ' D (.list acc)) s'.heap := by
    refine ⟨wD, st.keep, fun a => ?_, st.tups, st.alive⟩
    by_cases qa : a = D
    · subst qa; exact ⟨fun _ => .inr nD, fun _ => .inr nD⟩
    · have := st.grow a
      unfold Mut at this ⊢
      rw [upd_ne _ _ qa]; exact this
  have fr := hf.step st2
  have q := hq.2 D sD
  show wpAny _ A (assign (.Name x xp) env (.ref D)) _ _ s'
  refine assign_ok (CG.name hx nf) hh wD fr (.ref D) q fun s'' F1 q1 m2 stx f1 => ?_
  have sC2 : upd σ' D (.list acc) C = none := by rw [upd_ne _ _ (Ne.symm hDC)]; exact sC
  have noC : ¬ own C := fun h => by obtain ⟨o, e⟩ := hf.ex C h; rw [nC'] at e; cases e
  have nC2 : s''.heap.Ns C m := by obtain ⟨o, es, ep, ho, r⟩ := nC; exact ⟨o, es, ep, stx.keep C o (none_mut sC2) noC ho, r⟩
  refine ⟨m, nC2, fun h'' sbt => hQQ _ _ ?_⟩
  have kk : ∀ b o, b ∉ [C] → s''.heap.get? b = some o → h''.get? b = some o := fun b o n e => sbt.extBut b o (by simpa using n) e
  have h0C : h₀.get? C = none := (beside_one hwb nC').2.2
  have ni : ∀ a ∈ [C], ∀ o, s''.heap.get? a = some o → ¬ Imm o := fun a m' o e => by simp at m'; subst m'; exact ns_not_imm nC2 o e
  have bC : Beside [C] h₀ (upd σ' D (.list acc)) sb.heap := fun a m' => by simp at m'; subst m'; exact ⟨nC', sC2, h0C⟩
  have all := (Step.any (own := own) st2).trans stx
  have t2 := (all.w.slip (fun a m' => (bC a m').2) ni kk).2
  have all' := StepX.slip all bC ni kk
  have nh : ∀ a, (∃ o, sb.heap.get? a = some o) → a ∉ [C] := fun a ⟨o, e⟩ m => by simp at m; subst m; rw [nC'] at e; cases e
  refine ⟨.next, F1, _, trivial, ⟨all', (msb.trans mm).trans (m2.trans ⟨Eq.refl _, Eq.refl _⟩)⟩, ?_, q1⟩
  refine f1.move' (fun o e => kk _ o (nh _ ?_) e) (fun j y a e1 e2 e3 o e => kk a o (nh a ?_) e) t2 (fun a m' => ?_)
  · obtain ⟨m, ⟨o, _, _, ho, _⟩, _⟩ := hf.ns; exact ⟨o, ho⟩
  · obtain ⟨a', cv, g1, ⟨o, g2, _⟩, _⟩ := hf.cell j y e1 e2
    rw [e3] at g1; cases g1; exact ⟨o, g2⟩
  · obtain ⟨o, e⟩ := f1.ex a m'
    exact ⟨o, kk a o (nh a (hf.ex a m')) e⟩

end
/-- a statement is what its walk says -/
def CS (c : Cfg) (e : Stmt) (p : PS) : Prop := ∀ {prog : Program} {w : World} {h₀ : Heap} {mg mb : Str → Option Value} {Φ : Fns} {n : Nat} {A : Around} {s : Shared} {σ : Hp} {env : Env} {own : Addr → Prop} {F : Frm} {Q : Fl → Frm → Hp → Prop},
  Here prog w h₀ mg mb Φ n c A s σ env own F → vS Φ p Q F σ → wpAny (model prog w) A (exec e env) (PSt c env own h₀ σ s Q) E0 s
def CSs (c : Cfg) (e : List Stmt) (p : List PS) : Prop := ∀ {prog : Program} {w : World} {h₀ : Heap} {mg mb : Str → Option Value} {Φ : Fns} {n : Nat} {A : Around} {s : Shared} {σ : Hp} {env : Env} {own : Addr → Prop} {F : Frm} {Q : Fl → Frm → Hp → Prop},
  Here prog w h₀ mg mb Φ n c A s σ env own F → vSs Φ p Q F σ → wpAny (model prog w) A (execs e env) (PSt c env own h₀ σ s Q) E0 s
section
variable {c : Cfg} {p q : Pos}
theorem CSs.nil : CSs c [] [] := fun X v => wpAny_execs_nil (.next (.refl X.w) .rfl X.f v)
theorem CSs.cons {s : Stmt} {a : PS} {ss : List Stmt} {as : List PS} (h : CS c s a) (hs : CSs c ss as) : CSs c (s :: ss) (a :: as) := by
  intro prog w h₀ mg mb Φ n A s σ env own F Q X v
  refine wpAny_execs_cons (wpAny_mono (h X v) (fun f s₁ ⟨fl, F₁, σ₁, rf, ⟨st, m₁⟩, fr, q⟩ => ?_) fun _ _ f => f)
  have q := q.go
  cases f with
  | next => cases fl <;> first | exact rf.elim | exact wpAny_mono (hs ⟨X.G, X.NM, X.R, st.w, fr⟩ q) (fun _ _ pv => pv.back st m₁) fun _ _ f => f
  | cont => cases fl <;> first | exact rf.elim | exact ⟨.cont, F₁, σ₁, rf, ⟨st, m₁⟩, fr, q⟩
  | brk => cases fl <;> first | exact rf.elim | exact ⟨.brk, F₁, σ₁, rf, ⟨st, m₁⟩, fr, q⟩
  | ret v => cases fl <;> first | exact rf.elim | exact ⟨.ret _, F₁, σ₁, rf, ⟨st, m₁⟩, fr, q⟩
theorem CS.expr {e : Expr} {a : PE} (he : CE c e a) (hs : ∀ env, swapsWith e none p.line env = pure false) : CS c (.Expr e p) (.expr a) := by
  intro prog w h₀ mg mb Φ n A s σ env own F Q X v
  refine wpAny_Expr_any (wpAny_mono (he X v) (fun y s₁ => PV.on fun z σ₁ rz st m₁ q => .next (Step.any st) m₁ (X.f.step st) q) fun _ _ f => f) ?_ (hs env)
  unfold interactive; rw [X.f.kind]; rfl
theorem CS.assign {x : Str} {i : Nat} {e : Expr} {a : PE} (hx : c.names[i]? = some x) (nf : c.sc.lookup x ≠ some .free) (he : CE c e a) (hs : ∀ env, swapsWith e (some (.Name x q)) p.line env = pure false) : CS c (.Assign [.Name x q] e p) (.assign (.name i) a) := by
  intro prog w h₀ mg mb Φ n A s σ env own F Q X v
  refine wpAny_Assign_Name (wpAny_mono (he X v) (fun y s₁ => PV.on fun z σ₁ rz st m₁ q => ?_) fun _ _ f => f) (hs env)
  exact (X.f.step st).store st.w hx nf rz fun s' m' st' hf' => .next ((Step.any st).trans st') (m₁.trans m') hf' q
theorem CS.assignC {x : Str} {i : Nat} {elt t it : Expr} {k : IK} {ifs : List Expr} {scope : Scope} {cp : Pos} {a b : PE} {tg : Tgt} {as : List PE} {fm : List (Option Nat)} (hx : c.names[i]? = some x) (nf : c.sc.lookup x ≠ some .free) (C : CompOk c elt t it k ifs scope a b tg as fm) :
    CS c (.Assign [.Name x q] (.ListComp elt [⟨t, it, ifs, 0⟩] scope cp) p) (.assign (.name i) (.comp fm a tg k b as)) := by
  intro prog w h₀ mg mb Φ n A s σ env own F Q X v
  obtain ⟨bb, hb⟩ : ∃ bb, swapsWith (.ListComp elt [⟨t, it, ifs, 0⟩] scope cp) (some (.Name x q)) p.line env = pure bb := ⟨_, rfl⟩
  cases bb with
  | false =>
    refine wpAny_Assign_Name (wpAny_mono (CE.comp C X v) (fun y s₁ => PV.on fun z σ₁ rz st m₁ q => ?_) fun _ _ f => f) hb
    exact (X.f.step st).store st.w hx nf rz fun s' m' st' hf' => .next ((Step.any st).trans st') (m₁.trans m') hf' q
  | true =>
    rw [exec_Assign_Name_used _ _ _ _ hb]
    refine wpAny_bind (wpAny_standAt (wpAny_bind ?_))
    show wpAny _ A (do let _ ← comprehension (.ListComp elt [⟨t, it, ifs, 0⟩] scope cp) scope env _ (newList []) false (eval it env) (some (PySem.assign (.Name x q) env))) _ _ s
    have key : wpAny (model prog w) A (comprehension (.ListComp elt [⟨t, it, ifs, 0⟩] scope cp) scope env (firstIterPos [⟨t, it, ifs, 0⟩] cp) (newList []) false (eval it env) (some (PySem.assign (.Name x q) env))) (fun _ s' => PSt c env own h₀ σ s Q .next s') E0 s := by
      refine wpAny_comprehension_free (use := some (PySem.assign (.Name x q) env)) rfl (C.ci.1 env) (clos_ok C.ok X.f) C.kind (scOk_names C.ok) (wpAny_mono (C.ci.2 X v) (fun x s₁ h => ?_) fun _ _ f => f)
      refine wpAny_mono h (fun it s₂ ⟨σ₁, s₀, st, m₁, m₂, I, as, ne, hit, bes, ko, Inv, ⟨n0, hi⟩, hinv⟩ => ?_) fun _ _ f => f
      have hfm := C.fm
      subst hfm
      exact comp_tail (Inv := Inv) X.R.handled C.ok C.kind C.cg (fun hw hf v => C.ce ⟨X.G, X.NM, X.R, hw, hf⟩ v) (fun hw hf v => sTs C.ct ⟨X.G, X.NM, X.R, hw, hf⟩ v)
        (fun k' a' e => by
          have hk := ne k' a' e
          obtain ⟨is, rfl⟩ := C.en (by simpa using hk)
          cases C.cg; exact ⟨_, _, _, rfl⟩) st.w (X.f.step st) ko hit bes hi hinv (rr_some (Q := Q) hx nf X.R.handled m₂ st.w (X.f.step st) (fun _ _ pv => pv.back (Step.any st) m₁))
    exact wpAny_bind (wpAny_mono key (fun _ s' hq => wpAny_pure (wpAny_pure hq)) fun _ _ e => e)
theorem CS.setitem {o i e : Expr} {a b d : PE} (ho : CE c o a) (hi : CE c i b) (he : CE c e d) (hs : ∀ env, swapsWith e (some (.Subscript o i q)) p.line env = pure false) : CS c (.Assign [.Subscript o i q] e p) (.setitem a b d) := by
  intro prog w h₀ mg mb Φ n A s σ env own F Q X v
  refine wpAny_Assign_Subscript (wpAny_mono (he X v) (fun y s₁ => PV.on fun z σ₁ rz st m₁ q => wpAny_mono (ho (X.step st) q) (fun ov s₂ => PV.on fun oz σ₂ roz st₂ m₂ q₂ =>
    wpAny_mono (hi ((X.step st).step st₂) q₂) (fun iv s₃ => PV.on fun iz σ₃ riz st₃ m₃ q₃ => ?_) fun _ _ f => f) fun _ _ f => f) fun _ _ f => f) (hs env)
  refine wpAny_mono (q₃.go (roz.step st₃) riz ((rz.step st₂).step st₃) st₃.w) (fun _ s₄ ⟨σ₄, ⟨st₄, m₄⟩, q₄⟩ => ?_) fun _ _ f => f
  exact .next (Step.any (((st.trans st₂).trans st₃).trans st₄)) (((m₁.trans m₂).trans m₃).trans m₄) ((((X.f.step st).step st₂).step st₃).step st₄) q₄
theorem CS.ifs {t : Expr} {l r : List Stmt} {a : PE} {b d : List PS} (ht : CT c t a) (hl : CSs c l b) (hr : CSs c r d) : CS c (.If t l r p) (.ifs a b d) := by
  intro prog w h₀ mg mb Φ n A s σ env own F Q X v
  refine wpAny_If (wpAny_mono (ht X v) (fun b s₁ => PB.on fun σ₁ st m₁ q => ?_) fun _ _ f => f)
  cases b with
  | true => exact wpAny_mono (hl (X.step st) q) (fun _ _ pv => pv.back (Step.any st) m₁) fun _ _ f => f
  | false => exact wpAny_mono (hr (X.step st) q) (fun _ _ pv => pv.back (Step.any st) m₁) fun _ _ f => f
theorem CS.whil {t : Expr} {l : List Stmt} {a : PE} {b : List PS} (ht : CT c t a) (hl : CSs c l b) : CS c (.While t l [] p) (.whil a b) := by
  intro prog w h₀ mg mb Φ n A s σ env own F Q X v
  obtain ⟨Inv, ⟨n0, hi⟩, hinv⟩ := v
  have e0 : ∀ (E : Value → Shared → Prop) e s, E0 e s → E e s := fun _ _ _ f => f.elim
  refine wpAny_While (codeAny_whileLoop (fun n s' => ∃ F σ', Inv n F σ' ∧ FrOk c env own F h₀ σ' s'.heap ∧ StepX own h₀ σ s.heap σ' s'.heap ∧ Sm s s') (fun n s' hI => ?_) n0 ⟨F, σ, hi, X.f, .refl X.w, .rfl⟩)
  obtain ⟨F, σ', hi, hf', st', mI⟩ := hI
  refine wpAny_mono (ht ⟨X.G, X.NM, X.R, st'.w, hf'⟩ (hinv n F σ' hi)) (fun b s₂ => PB.on fun σ₂ st₂ m₂ q => ?_) (e0 _)
  have all := st'.trans (Step.any st₂)
  cases b with
  | false => exact wpAny_execs_nil (PSt.next all (mI.trans m₂) (hf'.step st₂) q)
  | true =>
    simp only [if_true] at q ⊢
    refine wpAny_mono (hl ⟨X.G, X.NM, X.R, st₂.w, hf'.step st₂⟩ q) (fun f s₃ ⟨fl, F₃, σ₃, rf, ⟨st₃, m₃⟩, fr₃, q₃⟩ => ?_) (e0 _)
    have all3 := all.trans st₃
    have mm := (mI.trans m₂).trans m₃
    cases f with
    | next => cases fl <;> first | exact rf.elim | (obtain ⟨m, hm, q5⟩ := q₃; exact ⟨m, hm, F₃, σ₃, q5, fr₃, all3, mm⟩)
    | cont => cases fl <;> first | exact rf.elim | (obtain ⟨m, hm, q5⟩ := q₃; exact ⟨m, hm, F₃, σ₃, q5, fr₃, all3, mm⟩)
    | brk => cases fl <;> first | exact rf.elim | exact ⟨.next, F₃, σ₃, trivial, ⟨all3, mm⟩, fr₃, q₃⟩
    | ret v => cases fl <;> first | exact rf.elim | exact ⟨.ret _, F₃, σ₃, rf, ⟨all3, mm⟩, fr₃, q₃⟩
theorem CS.for {t it : Expr} {l : List Stmt} {tg : Tgt} {k : IK} {a : PE} {b : List PS} (hg : CG c t tg) (hci : CI c it k a) (hen : k = .enum → ∃ is, tg = .tup is) (hl : CSs c l b) : CS c (.For t it l [] p) (.for tg k a b) := by
  intro prog w h₀ mg mb Φ n A s σ env own F Q X v
  refine wpAny_For (wpAny_mono (hci.2 X v) (fun x s₁ h => wpAny_mono h (fun it s₂ ⟨σ₁, s₀, st, m₁, m₂, I, as, ne, hit, bes, ko, Inv, ⟨n0, hi⟩, hinv⟩ => ?_) fun _ _ f => f) fun _ _ f => f) (hci.1 env)
  exact for_loop (Inv := Inv) X.R.handled hg (fun hw hf v => hl ⟨X.G, X.NM, X.R, hw, hf⟩ v)
    (fun k' a' e => by
      have hk := ne k' a' e
      obtain ⟨is, rfl⟩ := hen (by simpa using hk)
      cases hg; exact ⟨_, _, _, rfl⟩) (.start st.w (X.f.step st) hit bes ko) m₂ hi hinv (fun f s' pv => pv.back (Step.any st) m₁)
theorem CS.ret {e : Expr} {a : PE} (he : CE c e a) : CS c (.Return (some e) p) (.ret a) := by
  intro prog w h₀ mg mb Φ n A s σ env own F Q X v
  exact wpAny_Return_some (wpAny_mono (he X v) (fun y s₁ => PV.on fun z σ₁ rz st m₁ q => ⟨.ret z, F, σ₁, rz, ⟨Step.any st, m₁⟩, X.f.step st, q⟩) fun _ _ f => f)
theorem CS.brk : CS c (.Break p) .brk := by
  intro prog w h₀ mg mb Φ n A s σ env own F Q X v
  exact wpAny_Break ⟨.brk, F, σ, trivial, ⟨.refl X.w, .rfl⟩, X.f, v⟩
theorem CS.cont : CS c (.Continue p) .cont := by
  intro prog w h₀ mg mb Φ n A s σ env own F Q X v
  exact wpAny_Continue ⟨.cont, F, σ, trivial, ⟨.refl X.w, .rfl⟩, X.f, v⟩
end

/-! M16 -/
theorem bindL_eq {kindOf : Str → Option NameKind} {x : Str} (hk : kindOf x = some .local) : ∀ (ps : List Str) (vs : List Value) (m : Str → Option Value), ps.Nodup → bindL kindOf (ps.zip vs) m x = ((ps.zip vs).lookup x).or (m x)
  | [], _, m, _ => rfl
  | p :: ps, [], m, _ => rfl
  | p :: ps, v :: vs, m, nd => by
    simp only [List.nodup_cons] at nd
    show bindL kindOf (ps.zip vs) (if kindOf p = some .local then fun y => if y = p then some v else m y else m) x = _
    rw [bindL_eq hk ps vs _ nd.2, List.zip_cons_cons, List.lookup_cons]
    by_cases e : x = p
    · subst e
      have : (ps.zip vs).lookup x = none := by
        rw [List.lookup_eq_none_iff]
        intro q hq
        have := List.of_mem_zip hq
        simp; rintro rfl; exact nd.1 this.1
      rw [this]; simp [hk]
    · have : (x == p) = false := by simpa using e
      rw [this]
      by_cases hp : kindOf p = some .local
      · simp [hp, e]
      · simp [hp]
theorem bindC_eq {kindOf : Str → Option NameKind} {x : Str} (hk : kindOf x ≠ some .local) : ∀ (ps : List Str) (vs : List Value) (m : Str → Option Value), ps.Nodup → bindC kindOf (ps.zip vs) m x = ((ps.zip vs).lookup x).or (m x)
  | [], _, m, _ => rfl
  | p :: ps, [], m, _ => rfl
  | p :: ps, v :: vs, m, nd => by
    simp only [List.nodup_cons] at nd
    show bindC kindOf (ps.zip vs) (if kindOf p = some .local then m else fun y => if y = p then some v else m y) x = _
    rw [bindC_eq hk ps vs _ nd.2, List.zip_cons_cons, List.lookup_cons]
    by_cases e : x = p
    · subst e
      have : (ps.zip vs).lookup x = none := by
        rw [List.lookup_eq_none_iff]
        intro q hq
        have := List.of_mem_zip hq
        simp; rintro rfl; exact nd.1 this.1
      rw [this]; simp [hk]
    · have : (x == p) = false := by simpa using e
      rw [this]
      by_cases hp : kindOf p = some .local
      · simp [hp]
      · simp [hp, e]
theorem zip_rep {h : Heap} {x : Str} {u : V} : ∀ {ps : List Str} {vs : List Value} {xs : List V}, Reps h vs xs → (ps.zip xs).lookup x = some u → ∃ w, (ps.zip vs).lookup x = some w ∧ Rep h w u
  | [], _, _, _, e => by simp at e
  | p :: ps, _, _, .nil, e => by simp at e
  | p :: ps, _, _, .cons r rs, e => by
    simp only [List.zip_cons_cons, List.lookup_cons] at e ⊢
    split at e
    · cases e; exact ⟨_, rfl, r⟩
    · exact zip_rep rs e

def initF (c : Cfg) (params : List Str) (args : List V) : Frm := c.names.map fun x => (params.zip args).lookup x
/-- the answer of a def -/
def retV (Q : V → Hp → Prop) (fl : Fl) (F : Frm) (σ : Hp) : Prop := match fl with | .ret v => Q v σ | .next => Q .none σ | _ => False
def bodyV (Φ : Fns) (c : Cfg) (params : List Str) (ps : List PS) (args : List V) (Q : V → Hp → Prop) (σ : Hp) : Prop :=
  args.length = params.length ∧ vSs Φ ps (retV Q) (initF c params args) σ

/-- what a def of the text must be -/
structure DefOk (fd : FuncData) (fns : List Str) (params : List Str) (body : List Stmt) (ps : List PS) : Prop where
  bdy : fd.body = .stmts body
  bind : ∀ vals : List Value, vals.length = params.length → bindArgs fd ⟨vals, []⟩ = pure (params.zip vals)
  clo : fd.closure = []
  glob : fd.globals = mainGlobals
  bi : fd.builtins = builtinsNs
  co : fd.scope.isCoroutine = false
  gen : fd.scope.isGenerator = false
  kind : fd.scope.kind = .function
  nd : (fd.scope.names.map (·.1)).Nodup
  noFree : ∀ x ∈ fd.scope.names, x.2 ≠ .free
  pk : ∀ x ∈ params, fd.scope.names.lookup x = some .local ∨ fd.scope.names.lookup x = some .cell
  pnd : params.Nodup
  cs : CSs { sc := fd.scope.names, fns := fns } body ps

theorem cellsFrom_look {x : Str} : ∀ (names : List (Str × NameKind)) (n : Nat) (acc : List (Str × Addr)), names.lookup x = some .cell ∨ (acc.lookup x).isSome = true → ((cellsFrom n names acc).lookup x).isSome = true := fun names n acc h => cellsFrom_some names n acc h
section
variable {prog : Program} {w : World} {h₀ : Heap} {mg mb : Str → Option Value} {Φ : Fns} {n : Nat} {fns : List Str}

/-- the frame of a call -/
theorem call_frame {fd : FuncData} {params : List Str} {body : List Stmt} {ps : List PS} (D : DefOk fd fns params body ps) {fa : Addr} {s s₁ : Shared} {σ : Hp} (hw : W h₀ σ s.heap) {vargs : List Value} {args : List V} (ra : Reps s.heap vargs args) (hl : args.length = params.length)
    (x : InCallC s (callEnvC fd s.heap.objs.size fa).locals (bindL (callEnvC fd s.heap.objs.size fa).kindOf (params.zip vargs) fun _ => none) (callEnvC fd s.heap.objs.size fa).cells (bindC (callEnvC fd s.heap.objs.size fa).kindOf (params.zip vargs) fun _ => none) s₁) :
    FrOk { sc := fd.scope.names, fns := fns } (callEnvC fd s.heap.objs.size fa) (fun a => s.heap.get? a = none ∧ ∃ o, s₁.heap.get? a = some o) (initF { sc := fd.scope.names, fns := fns } params args) h₀ σ s₁.heap := by
  have ko : ∀ b o, s.heap.get? b = some o → s₁.heap.get? b = some o := x.toInCall.keep
  have t : Tups s.heap s₁.heap := fun a o e _ => ko a o e
  have kindOf : ∀ y, (callEnvC fd s.heap.objs.size fa).kindOf y = fd.scope.names.lookup y := fun _ => rfl
  have hL : s.heap.get? s.heap.objs.size = none := get_push_none _
  have vark : ∀ (i : Nat) y, (Cfg.mk fd.scope.names fns).names[i]? = some y → ∃ kk, fd.scope.names.lookup y = some kk ∧ (kk = .local ∨ kk = .cell) := fun i y e => by
    obtain ⟨kk, e1, e2, e3⟩ := names_mem e
    refine ⟨kk, lookup_of_nodup D.nd e2, ?_⟩
    have := D.noFree _ e2
    cases kk <;> simp_all [isVar]
  have initAt : ∀ (i : Nat) y (v : V), (Cfg.mk fd.scope.names fns).names[i]? = some y → (initF { sc := fd.scope.names, fns := fns } params args)[i]? = some (some v) → ∃ w, (params.zip vargs).lookup y = some w ∧ Rep s₁.heap w v := fun i y v e1 e2 => by
    unfold initF at e2
    rw [List.getElem?_map, e1] at e2
    simp at e2
    obtain ⟨w, q1, q2⟩ := zip_rep ra e2
    exact ⟨w, q1, q2.tups t⟩
  refine ⟨D.kind, D.glob, D.bi, fun y e => e, fun i y e => ?_, ⟨_, x.toInCall.ns, fun i y v e1 e2 e3 => ?_⟩, fun i y e1 e2 => ?_, fun y z a e1 e2 => ?_, ⟨⟨hL, ?_⟩, hw.fresh hL, (beside_one hw hL).2.2⟩, fun i j y e1 e2 => getElem_inj (nodup_names D.nd) e1 e2, fun a e => e.2⟩
  · obtain ⟨kk, l, q⟩ := vark i y e
    rcases q with rfl | rfl
    · exact .inl ⟨l, l⟩
    · exact .inr (.inl ⟨l, l⟩)
  · obtain ⟨w, q1, q2⟩ := initAt i y v e1 e3
    refine ⟨w, ?_, q2⟩
    rw [bindL_eq e2 _ _ _ D.pnd, q1]; rfl
  · obtain ⟨kk, l, q⟩ := vark i y e1
    rcases q with rfl | rfl
    · exact absurd l e2
    · have hs := cellsFrom_look (x := y) fd.scope.names (s.heap.objs.size + 1) [] (.inl l)
      obtain ⟨a, ha⟩ := Option.isSome_iff_exists.mp hs
      have ic := x.cell y a ha
      have above := x.above y a (mem_of_lookup ha)
      have na : s.heap.get? a = none := by
        cases q : s.heap.get? a with
        | none => rfl
        | some o =>
          have h1 := Heap.lt_size q
          have h2 : s.heap.objs.size < a := above
          exact absurd (Nat.lt_trans h1 h2) (Nat.lt_irrefl _)
      refine ⟨a, _, ha, ic, hw.fresh na, fun e => absurd (e ▸ above) (Nat.lt_irrefl _), fun _ => ⟨⟨na, ?_⟩, (beside_one hw na).2.2⟩, fun v hv => ?_⟩
      · obtain ⟨o, ho, _⟩ := ic; exact ⟨o, ho⟩
      · obtain ⟨w, q1, q2⟩ := initAt i y v e1 hv
        refine ⟨w, ?_, q2⟩
        rw [bindC_eq e2 _ _ _ D.pnd, q1]; rfl
  · exact name_of_addr x.apart (mem_of_lookup e1) (mem_of_lookup e2)
  · obtain ⟨o, _, _, ho, _⟩ := x.toInCall.ns; exact ⟨o, ho⟩

theorem fn_ok (G : Gnd prog h₀ mg mb) (NM : NamesOk prog w h₀ mg n fns Φ) {fd : FuncData} {params : List Str} {body : List Stmt} {ps : List PS} (D : DefOk fd fns params body ps) {fa : Addr} {o : Obj} (ho : h₀.get? fa = some o) (hd : o.data = .func fd)
    (hcd : h₀.CodeRec fd.code fd.qualname) : FnOk prog w h₀ (n + 1) (.ref fa) (bodyV Φ { sc := fd.scope.names, fns := fns } params ps) := by
  refine ⟨fa, o, fd, rfl, ho, hd, fun A s σ vargs args Q R hw ra ⟨hl, v⟩ => ?_⟩
  have hlv : vargs.length = params.length := by rw [ra.length, hl]
  refine wpAny_call (codeAny_call_cells (by have := R.depth; show A.depth < 1000; omega) (hw.stays _ _ ho) hd (G.nolimit.keeps hw.stays) (hcd.keeps hw.stays) D.bdy (D.bind vargs hlv) D.clo (fun x hx => ?_) (fun s₁ ic => ?_) D.co D.gen D.kind)
  · have hm := (List.of_mem_zip hx).1
    rcases D.pk _ hm with q | q
    · exact .inl q
    · exact .inr ⟨q, cellsFrom_look _ _ _ (.inl q)⟩
  · have ko : ∀ b o, s.heap.get? b = some o → s₁.heap.get? b = some o := ic.toInCall.keep
    have fr := call_frame D (fa := fa) hw ra hl ic
    have st0 := hw.extend ko
    have m₁ : Sm s s₁ := by obtain ⟨h1, tk, e⟩ := ic.toInCall.same; rw [e]; exact ⟨rfl, rfl⟩
    have R' : Room (A.deeper (callEnvC fd s.heap.objs.size fa)) n := by
      obtain ⟨env, l, e, _⟩ := R.env
      refine ⟨R.handled, by have := R.depth; show A.depth + 1 + n ≤ 800; omega, by have := R.units; show A.units + 3 + 4 * n ≤ 9000; omega, ⟨callEnvC fd s.heap.objs.size fa, env :: l, ?_, D.gen, D.co, D.bi, D.glob⟩⟩
      show A.frames.map _ = _
      rw [e]; rfl
    refine wpAny_mono (D.cs ⟨G, NM, R', st0.w, fr⟩ v) (fun f s' ⟨fl, F', σ', rf, ⟨st, m₂⟩, fr', q⟩ => ?_) fun _ _ f => f.elim
    have all : Step h₀ σ s.heap σ' s'.heap := StepX.drop ((Step.any st0).trans st) fun a q => q.1
    cases f with
    | next =>
      cases fl with
      | next => exact ⟨.none, σ', .none, ⟨all, m₁.trans m₂⟩, q⟩
      | _ => exact rf.elim
    | brk =>
      cases fl with
      | brk => exact q.elim
      | _ => exact rf.elim
    | cont =>
      cases fl with
      | cont => exact q.elim
      | _ => exact rf.elim
    | ret v =>
      cases fl with
      | ret x => exact ⟨x, σ', rf, ⟨all, m₁.trans m₂⟩, q⟩
      | _ => exact rf.elim

/-- a contract that says enough -/
theorem FnOk.mono {fv : Value} {Φ₁ Φ₂ : List V → (V → Hp → Prop) → Hp → Prop} {n m : Nat} (h : FnOk prog w h₀ n fv Φ₁) (hm : n ≤ m) (i : ∀ args Q σ, Φ₂ args Q σ → Φ₁ args Q σ) : FnOk prog w h₀ m fv Φ₂ := by
  obtain ⟨fa, o, fd, e, a, b, call⟩ := h
  exact ⟨fa, o, fd, e, a, b, fun A s σ vargs args Q R hw ra v => call A s σ vargs args Q (R.le hm) hw ra (i _ _ _ v)⟩
end

/-! M17 -/
section
variable {prog : Program} {w : World} {h₀ : Heap} {mg mb : Str → Option Value} {Φ : Fns} {n : Nat} {fns : List Str}

/-- the law's own call -/
theorem law_code (G : Gnd prog h₀ mg mb) (NM : NamesOk prog w h₀ mg n fns Φ) (hn : n ≤ 400) {fd : FuncData} {params : List Str} {body : List Stmt} {ps : List PS} (D : DefOk fd fns params body ps) {fa : Addr} {o : Obj} (ho : h₀.get? fa = some o) (hd : o.data = .func fd)
    (hcd : h₀.CodeRec fd.code fd.qualname) {s : Shared} {σ : Hp} {vargs : List Value} {args : List V} {Q : V → Hp → Prop} (hw : W h₀ σ s.heap) (ra : Reps s.heap vargs args) (v : bodyV Φ { sc := fd.scope.names, fns := fns } params ps args Q σ)
    {R : Result → Shared → Prop} (hR : ∀ x s', PV h₀ σ s Q x s' → R (.ok (.ret x)) s') : codeAny (model prog w) callerA (.call (.ref fa) ⟨vargs, []⟩) R s := by
  obtain ⟨hl, v⟩ := v
  have hlv : vargs.length = params.length := by rw [ra.length, hl]
  refine codeAny_call_cells (by decide) (hw.stays _ _ ho) hd (G.nolimit.keeps hw.stays) (hcd.keeps hw.stays) D.bdy (D.bind vargs hlv) D.clo (fun x hx => ?_) (fun s₁ ic => ?_) D.co D.gen D.kind
  · have hm := (List.of_mem_zip hx).1
    rcases D.pk _ hm with q | q
    · exact .inl q
    · exact .inr ⟨q, cellsFrom_look _ _ _ (.inl q)⟩
  · have ko : ∀ b o, s.heap.get? b = some o → s₁.heap.get? b = some o := ic.toInCall.keep
    have fr := call_frame D (fa := fa) hw ra hl ic
    have st0 := hw.extend ko
    have m₁ : Sm s s₁ := by obtain ⟨h1, tk, e⟩ := ic.toInCall.same; rw [e]; exact ⟨rfl, rfl⟩
    have R' : Room (callerA.deeper (callEnvC fd s.heap.objs.size fa)) n := by
      refine ⟨rfl, ?_, ?_, ⟨callEnvC fd s.heap.objs.size fa, [], rfl, D.gen, D.co, D.bi, D.glob⟩⟩
      · show 1 + 300 + 1 + n ≤ 800; omega
      · show 4 + 3 + 4 * n ≤ 9000; omega
    refine wpAny_mono (D.cs ⟨G, NM, R', st0.w, fr⟩ v) (fun f s' ⟨fl, F', σ', rf, ⟨st, m₂⟩, fr', q⟩ => ?_) fun _ _ f => f.elim
    have all : Step h₀ σ s.heap σ' s'.heap := StepX.drop ((Step.any st0).trans st) fun a q => q.1
    cases f with
    | next =>
      cases fl with
      | next => exact hR _ _ ⟨.none, σ', .none, ⟨all, m₁.trans m₂⟩, q⟩
      | _ => exact rf.elim
    | brk =>
      cases fl with
      | brk => exact q.elim
      | _ => exact rf.elim
    | cont =>
      cases fl with
      | cont => exact q.elim
      | _ => exact rf.elim
    | ret v =>
      cases fl with
      | ret x => exact hR _ _ ⟨x, σ', rf, ⟨all, m₁.trans m₂⟩, q⟩
      | _ => exact rf.elim

/-- the script lies in the ground -/
def scriptHp (l : Addr) (ns : List Int) : Hp := fun a => if a = l then some (.flist (ns.map .int)) else none
theorem script_w {l : Addr} {vs : List Value} {ns : List Int} (hl : h₀.IsList l vs.toArray) (hi : IntsAre vs ns) (hb : ns.length ≤ 63) : W h₀ (scriptHp l ns) h₀ := by
  refine ⟨fun _ _ e => e, fun a o e => ?_, fun a ⟨o, e, m⟩ => ?_, fun a o e => ?_⟩
  · unfold scriptHp at e; split at e
    · rename_i q; subst q; cases e
      refine ⟨vs, hl, ?_⟩
      clear hl hb
      induction hi with
      | nil => exact .nil
      | cons n t _ ih => exact .cons (.int _ _) ih
    · cases e
  · unfold scriptHp at e; split at e
    · cases e; cases m
    · cases e
  · unfold scriptHp at e; split at e
    · cases e; show (ns.map V.int).length ≤ BIG; simp; unfold BIG; omega
    · cases e

theorem ground_of {p : Program} {loose : List Str} {mean : ExcName → Option Value} {h : Heap} (T : Top p loose mean mg mb h) (hi : importsNone p = true) (ht : prog.given.tree = none) : Gnd prog h mg mb :=
  ⟨T.g, T.b, T.nolimit, T.seer hi, ht, T.builtins⟩
end

/-! Lt1 -/
open PySem PySem.W PyProof.Rows PySem.SeqAt PySem.MeetsSeq PySem.MeetsSeq2 PySem.MeetsSeq3 PySem.SeqRoads2
open PySem.AutoSeq1 (wpAny_loadPart')
def LtAt (A : Around) (s : Shared) (y x : Value) (b : Bool) : Prop :=
  ∀ (prog : Program) (w : World) (E : Value → Shared → Prop) (Q : Value → Shared → Prop), Q (.bool b) s → wpAny (model prog w) A (richCompare .Lt y x) Q E s
inductive LexAt (A : Around) (s : Shared) : List Value → List Value → Bool → Prop
  | nil (ys : List Value) : LexAt A s [] ys (decide (0 < ys.length))
  | short (x : Value) (xs : List Value) : LexAt A s (x :: xs) [] false
  | eq {x y : Value} {xs ys : List Value} {r : Bool} : EqAt A s x y true → LexAt A s xs ys r → LexAt A s (x :: xs) (y :: ys) r
  | lt {x y : Value} {xs ys : List Value} {r : Bool} : EqAt A s x y false → LtAt A s x y r → LexAt A s (x :: xs) (y :: ys) r
theorem tuple_ltAt (l b : Addr) (items items2 : Array Value) (n n2 : Nat) (dd dd2 : Option Addr) (sl sl2 : Array (Option Value)) (r : Bool) :
    Meets (Builtin.«tuple.__lt__» ⟨[.ref l, .ref b], []⟩)
      (fun A R s => s.heap.get? l = some { cls := .type "tuple", dict := dd, data := .seq items n, slots := sl } ∧ s.heap.get? b = some { cls := .type "tuple", dict := dd2, data := .seq items2 n2, slots := sl2 } ∧
        LexAt A.in1 s items.toList items2.toList r ∧ R (.ok (.ret (.bool r))) s) :=
  .of_wp fun prog w A R s h => by
    obtain ⟨hp, g, d, tk, os⟩ := s; obtain ⟨hl, hb, hx, h⟩ := h
    have f2 := AutoSeq1.sub_tuple_tuple
    wp_walk using wpAny_loadPart' hl, wpAny_loadPart' hb, wpAny_forIn_list _ (fun rest b s' => b.1 = none ∧ s' = ⟨hp, g, d, tk, os⟩ ∧ ∃ xs ys, rest = xs.zip ys ∧ items.size + ys.length = items2.size + xs.length ∧ LexAt A.in1 ⟨hp, g, d, tk, os⟩ xs ys r) _
    case turn =>
      rintro ⟨y, x⟩ rest b s' ⟨hb', rfl, xs, ys, hz, hsz, lx⟩
      cases lx with
      | nil => simp at hz
      | short => simp at hz
      | eq he lx =>
        simp only [List.zip_cons_cons, List.cons.injEq, Prod.mk.injEq] at hz
        obtain ⟨⟨rfl, rfl⟩, rfl⟩ := hz
        refine wpAny_bind (he prog w _ _ ?_)
        wp_walk
        exact ⟨rfl, rfl, _, _, rfl, by simp at hsz; omega, lx⟩
      | lt he lt =>
        simp only [List.zip_cons_cons, List.cons.injEq, Prod.mk.injEq] at hz
        obtain ⟨⟨rfl, rfl⟩, rfl⟩ := hz
        refine wpAny_bind (he prog w _ _ ?_)
        have lt' : ∀ {E : Value → Shared → Prop} {Q : Value → Shared → Prop}, Q (.bool r) ⟨hp, g, d, tk, os⟩ → wpAny (model prog w) A.in1 (richCompare .Lt y x) Q E ⟨hp, g, d, tk, os⟩ := fun h => lt prog w _ _ h
        wp_walk using lt'
        exact ⟨_, rfl, h⟩
    case fin =>
      rintro ⟨b1, b2⟩ s' ⟨hb', rfl, xs, ys, hz, hsz, lx⟩
      simp only at hb'
      subst hb'
      have e : decide (items.size < items2.size) = r := by
        cases lx with
        | nil => simp at hsz ⊢; omega
        | short => simp at hsz ⊢; omega
        | eq => simp at hz
        | lt => simp at hz
      wp_walk
      refine ⟨_, rfl, ?_⟩
      show R (.ok (.ret (.bool (decide (items.size < items2.size))))) _
      rw [e]; exact h
    case h =>
      exact ⟨rfl, rfl, items.toList, items2.toList, rfl, by simp; omega, hx⟩
theorem LtAt.tuples {A : Around} {s : Shared} {l b : Addr} {items items2 : Array Value} {r : Bool} (hl : s.heap.IsTuple l items) (hb : s.heap.IsTuple b items2) (hu : A.units < cLine)
    (he : LexAt A.in1 s items.toList items2.toList r) : LtAt A s (.ref l) (.ref b) r := fun prog w E Q h => by
  obtain ⟨⟨cls, dd, data, sl⟩, ho, hc, n, hd⟩ := id hl
  obtain ⟨⟨cls2, dd2, data2, sl2⟩, ho2, hc2, n2, hd2⟩ := id hb
  simp only at hc hd hc2 hd2
  subst hc hd hc2 hd2
  exact richCompare_meets_room (op := .Lt) ⟨_, ho, rfl⟩ ⟨_, ho2, rfl⟩ F.slot_tuple_lt F.entry_tuple_lt (F.args_tuple_lt_2 _ _) (tuple_ltAt l b items items2 n n2 dd dd2 sl sl2 r)
    ⟨ho, ho2, he, show Value.bool r ≠ Value.notImplemented ∧ Q (.bool r) s from ⟨(fun x => nomatch x), h⟩⟩ hu
theorem lt_loopAt (l b : Addr) (items items2 : Array Value) (n n2 : Nat) (dd dd2 : Option Addr) (sl sl2 : Array (Option Value)) (r : Bool) (k : Nat) :
    ∀ i : Nat, items.size - i = k → Meets (Builtin.«list.__eq__.loop» ⟨[.ref l, .ref b, rawInt i, rawInt 0], []⟩)
      (fun A R s => s.heap.get? l = some { cls := .type "list", dict := dd, data := .seq items n, slots := sl } ∧ s.heap.get? b = some { cls := .type "list", dict := dd2, data := .seq items2 n2, slots := sl2 } ∧
        LexAt A.in1 s (items.toList.drop i) (items2.toList.drop i) r ∧ i ≤ items.size ∧ i ≤ items2.size ∧
        R (.ok (.ret (.bool r))) s) := by
  induction k with
  | zero =>
    intro i hk prog w A R s h
    obtain ⟨hp, g, d, tk, os⟩ := s; obtain ⟨hl, hb, lx, hi, hj, h⟩ := h
    wp_walk using wpAny_loadPart' hl, wpAny_loadPart' hb
    have hi1 : items[((i : Nat) : Int).toNat]? = none := by simp; omega
    have ei : items.toList.drop i = [] := by simp; omega
    rw [ei] at lx
    cases lx with
    | nil =>
      rw [hi1]
      wp_walk using wpAny_loadPart' hl, wpAny_loadPart' hb
      show R (.ok (.ret (.bool (decide (items.size < items2.size))))) _
      have e : decide (items.size < items2.size) = decide (0 < (items2.toList.drop i).length) := by
        congr 1; simp; omega
      rw [e]; exact h
  | succ k ih =>
    intro i hk prog w A R s h
    obtain ⟨hp, g, d, tk, os⟩ := s; obtain ⟨hl, hb, lx, hi, hj, h⟩ := h
    wp_walk using wpAny_loadPart' hl, wpAny_loadPart' hb
    have hlt : i < items.size := by omega
    have hi1 : items[((i : Nat) : Int).toNat]? = some items[i] := by simp [hlt]
    have hd1 : items.toList.drop i = items[i] :: items.toList.drop (i + 1) := by simp [List.drop_eq_getElem_cons, hlt]
    have hc : ((i : Int) + 1) = ((i + 1 : Nat) : Int) := by push_cast; rfl
    rw [hd1] at lx
    rcases Nat.lt_or_ge i items2.size with hlt2 | hge
    · have hi2 : items2[((i : Nat) : Int).toNat]? = some items2[i] := by simp [hlt2]
      have hd2 : items2.toList.drop i = items2[i] :: items2.toList.drop (i + 1) := by simp [List.drop_eq_getElem_cons, hlt2]
      rw [hd2] at lx
      rw [hi1, hi2]
      cases lx with
      | eq he lx =>
        refine wpAny_bind (he prog w _ _ ?_)
        wp_walk
        rw [hc]
        exact ⟨plainId_quiet plain_eq_loop _, codeAny_builtin entry_eq_loop (by
          rw [Around.under_plainId plain_eq_loop _]
          exact ih (i + 1) (by omega) prog w A R _ ⟨hl, hb, lx, by omega, by omega, h⟩)⟩
      | lt he lt =>
        refine wpAny_bind (he prog w _ _ ?_)
        have lt' : ∀ {E : Value → Shared → Prop} {Q : Value → Shared → Prop}, Q (.bool r) ⟨hp, g, d, tk, os⟩ → wpAny (model prog w) A.in1 (richCompare .Lt items[i] items2[i]) Q E ⟨hp, g, d, tk, os⟩ := fun h => lt prog w _ _ h
        wp_walk using wpAny_loadPart' hl, wpAny_loadPart' hb
        rw [hi1, hi2]
        wp_walk using lt'
        exact h
    · have hi2 : items2[((i : Nat) : Int).toNat]? = none := by simp; omega
      have ej : items2.toList.drop i = [] := by simp; omega
      rw [ej] at lx
      cases lx with
      | short =>
        rw [hi1, hi2]
        wp_walk using wpAny_loadPart' hl, wpAny_loadPart' hb
        show R (.ok (.ret (.bool (decide (items.size < items2.size))))) _
        have e : decide (items.size < items2.size) = false := by simp; omega
        rw [e]; exact h
theorem list_ltAt (l b : Addr) (items items2 : Array Value) (n n2 : Nat) (dd dd2 : Option Addr) (sl sl2 : Array (Option Value)) (r : Bool) :
    Meets (Builtin.«list.__lt__» ⟨[.ref l, .ref b], []⟩)
      (fun A R s => s.heap.get? l = some { cls := .type "list", dict := dd, data := .seq items n, slots := sl } ∧ s.heap.get? b = some { cls := .type "list", dict := dd2, data := .seq items2 n2, slots := sl2 } ∧
        LexAt A.in1 s items.toList items2.toList r ∧ R (.ok (.ret (.bool r))) s) := by
  intro prog w A R s h
  obtain ⟨hp, g, d, tk, os⟩ := s; obtain ⟨hl, hb, lx, h⟩ := h
  have f3 := AutoSeq1.sub_list_list
  wp_walk using wpAny_loadPart' hl, wpAny_loadPart' hb
  exact ⟨plainId_quiet plain_eq_loop _, codeAny_builtin entry_eq_loop (by
    rw [Around.under_plainId plain_eq_loop _]
    exact lt_loopAt l b items items2 n n2 dd dd2 sl sl2 r _ 0 rfl prog w A R _ ⟨hl, hb, by simpa using lx, by omega, by omega, h⟩)⟩
theorem LtAt.lists {A : Around} {s : Shared} {l b : Addr} {items items2 : Array Value} {r : Bool} (hl : s.heap.IsList l items) (hb : s.heap.IsList b items2) (hu : A.units < cLine)
    (he : LexAt A.in1 s items.toList items2.toList r) : LtAt A s (.ref l) (.ref b) r := fun prog w E Q h => by
  obtain ⟨⟨cls, dd, data, sl⟩, ho, hc, n, hd⟩ := id hl
  obtain ⟨⟨cls2, dd2, data2, sl2⟩, ho2, hc2, n2, hd2⟩ := id hb
  simp only at hc hd hc2 hd2
  subst hc hd hc2 hd2
  exact richCompare_meets_room (op := .Lt) ⟨_, ho, rfl⟩ ⟨_, ho2, rfl⟩ F.slot_list_lt F.entry_list_lt (F.args_list_lt_2 _ _) (list_ltAt l b items items2 n n2 dd dd2 sl sl2 r)
    ⟨ho, ho2, he, show Value.bool r ≠ Value.notImplemented ∧ Q (.bool r) s from ⟨(fun x => nomatch x), h⟩⟩ hu

/-! Lt2 -/
open PySem PySem.W PyProof.Rows PySem.SeqAt
def lexD (f : PyData → PyData → Option Bool) : List PyData → List PyData → Option Bool
  | [], ys => some (decide (0 < ys.length))
  | _ :: _, [] => some false
  | x :: xs, y :: ys => if PyData.eqv x y then lexD f xs ys else f x y
/-- the order of data: ints, tuples, lists -/
def ltv : Nat → PyData → PyData → Option Bool
  | 0, _, _ => none
  | n + 1, .int i, .int j => some (decide (i < j))
  | n + 1, .tuple xs, .tuple ys => lexD (ltv n) xs ys
  | n + 1, .list xs, .list ys => lexD (ltv n) xs ys
  | n + 1, _, _ => none
theorem LtAt.int {A : Around} {s : Shared} (i j : Int) (t u : Tok) : LtAt A s (.int i t) (.int j u) (decide (i < j)) := fun prog w E Q h => lt_int h
theorem depth_head {x : PyData} {xs : List PyData} {k : Nat} (h : PyData.depthAll (x :: xs) ≤ k) : x.depth ≤ k ∧ PyData.depthAll xs ≤ k := by
  simp only [PyData.depthAll] at h; omega
theorem lexAt_reads {A : Around} {s : Shared} {f : PyData → PyData → Option Bool} (hu : A.units + 64 < cLine)
    (hf : ∀ (x y : PyData) (v w : Value) (as bs : List Addr) (r : Bool), Reads s.heap v x as → Reads s.heap w y bs → x.canLay0 = true → y.canLay0 = true → x.depth ≤ 60 → f x y = some r → LtAt A s v w r) :
    ∀ (xs ys : List PyData) (vs ws : List Value) (as bs : List Addr) (r : Bool), ReadsAll s.heap vs xs as → ReadsAll s.heap ws ys bs → PyData.canLayAll0 xs = true → PyData.canLayAll0 ys = true → PyData.depthAll xs ≤ 60 → lexD f xs ys = some r → LexAt A s vs ws r
  | [], ys, _, ws, _, _, r, ra, rb, _, _, _, h => by
    cases ra
    simp only [lexD, Option.some.injEq] at h
    have hl := ReadsAll.length _ _ _ rb
    rw [← h, ← hl]; exact .nil _
  | x :: xs, [], _, _, _, _, r, ra, rb, _, _, _, h => by
    cases rb
    cases ra
    simp only [lexD, Option.some.injEq] at h
    subst h; exact .short _ _
  | x :: xs, y :: ys, _, _, _, _, r, ra, rb, ha, hb, hd, h => by
    have ha' : x.canLay0 = true ∧ PyData.canLayAll0 xs = true := by simpa [PyData.canLayAll0] using ha
    have hb' : y.canLay0 = true ∧ PyData.canLayAll0 ys = true := by simpa [PyData.canLayAll0] using hb
    obtain ⟨d1, d2⟩ := depth_head hd
    cases ra with
    | cons r1 rs1 =>
      cases rb with
      | cons r2 rs2 =>
        have eq := eqAt_reads x y A s _ _ _ _ r1 r2 ha'.1 hb'.1 (by have := Nat.min_le_left x.depth y.depth; omega)
        simp only [lexD] at h
        cases e : PyData.eqv x y with
        | true =>
          rw [e] at h eq
          exact .eq eq (lexAt_reads hu hf xs ys _ _ _ _ r rs1 rs2 ha'.2 hb'.2 d2 h)
        | false =>
          rw [e] at h eq
          exact .lt eq (hf x y _ _ _ _ r r1 r2 ha'.1 hb'.1 d1 (by simpa using h))
theorem ltAt_reads : ∀ (n : Nat) (A : Around) (s : Shared), A.units + n + 64 < cLine → ∀ (x y : PyData) (v w : Value) (as bs : List Addr) (r : Bool), Reads s.heap v x as → Reads s.heap w y bs → x.canLay0 = true → y.canLay0 = true → x.depth ≤ 60 → ltv n x y = some r → LtAt A s v w r := by
  intro n
  induction n with
  | zero => intro A s hu x y v w as bs r _ _ _ _ _ h; cases h
  | succ n ih =>
    intro A s hu x y v w as bs r ra rb ha hb hd h
    have hu1 : A.in1.units + n + 64 < cLine := by show A.units + 1 + n + 64 < cLine; omega
    have hu2 : A.in1.units + 64 < cLine := by omega
    have hu0 : A.units < cLine := by omega
    cases ra with
    | int i t =>
      cases rb with
      | int j u => simp only [ltv, Option.some.injEq] at h; subst h; exact .int i j t u
      | _ => simp [ltv] at h
    | tuple h1 h2 h3 h4 =>
      cases rb with
      | tuple k1 k2 k3 k4 =>
        simp only [ltv] at h
        exact .tuples ⟨_, h1, h2, _, h3⟩ ⟨_, k1, k2, _, k3⟩ hu0 (lexAt_reads hu2 (fun x y v w as bs r r1 r2 c1 c2 d q => ih A.in1 s hu1 x y v w as bs r r1 r2 c1 c2 d q) _ _ _ _ _ _ r h4 k4 ha hb (by simp only [PyData.depth] at hd; omega) h)
      | _ => simp [ltv] at h
    | list h1 h2 h3 h4 =>
      cases rb with
      | list k1 k2 k3 k4 =>
        simp only [ltv] at h
        exact .lists ⟨_, h1, h2, _, h3⟩ ⟨_, k1, k2, _, k3⟩ hu0 (lexAt_reads hu2 (fun x y v w as bs r r1 r2 c1 c2 d q => ih A.in1 s hu1 x y v w as bs r r1 r2 c1 c2 d q) _ _ _ _ _ _ r h4 k4 ha hb (by simp only [PyData.depth] at hd; omega) h)
      | _ => simp [ltv] at h
    | _ => simp [ltv] at h

/-! X1 -/
section
variable {σ : Hp} {Q : V → Hp → Prop}
/-- the order of data -/
theorem lt_dat {a b : V} {d e : PyData} {r : Bool} (h1 : Dat σ a d) (h2 : Dat σ b e) (hd : d.depth ≤ 60) (hr : ltv 60 d e = some r) (q : Q (.bool r) σ) : CmpS .Lt a b Q σ := by
  refine CmpS.mk ?_
  intro prog w A s h₀ n va vb R ra rb hw
  obtain ⟨as, r1⟩ := h1.reads hw ra
  obtain ⟨bs, r2⟩ := h2.reads hw rb
  have hu : A.units ≤ 9000 := by have := R.units; omega
  exact ltAt_reads 60 A s (by show _ < 9900; omega) d e va vb as bs r r1 r2 h1.lay h2.lay hd hr prog w E0 (PV h₀ σ s Q) (PV.same' hw (.bool _) q)
/-- tuples of ints -/
def ltI : List Int → List Int → Bool
  | [], ys => decide (0 < ys.length)
  | _ :: _, [] => false
  | x :: xs, y :: ys => if x = y then ltI xs ys else decide (x < y)
theorem eqv_int (x y : Int) : PyData.eqv (.int x) (.int y) = decide (x = y) := by simp [PyData.eqv]; rfl
theorem lexD_ints (n : Nat) : ∀ xs ys : List Int, lexD (ltv (n + 1)) (xs.map .int) (ys.map .int) = some (ltI xs ys)
  | [], ys => by simp [lexD, ltI]
  | x :: xs, [] => rfl
  | x :: xs, y :: ys => by
    simp only [List.map_cons, lexD, ltI, eqv_int]
    by_cases h : x = y
    · simp [h, lexD_ints n xs ys]
    · simp [h, ltv]
theorem dats_intsV (σ : Hp) : ∀ xs : List Int, Dats σ (xs.map .int) (xs.map PyData.int)
  | [] => .nil
  | x :: xs => .cons (.int x) (dats_intsV σ xs)
theorem depthAll_ints : ∀ xs : List Int, PyData.depthAll (xs.map PyData.int) ≤ 1
  | [] => by simp [PyData.depthAll]
  | x :: xs => by have := depthAll_ints xs; simp [PyData.depthAll, PyData.depth]; omega
theorem lt_tups {xs ys : List Int} (q : Q (.bool (ltI xs ys)) σ) : opCmp .Lt (.tup (xs.map .int)) (.tup (ys.map .int)) Q σ :=
  lt_dat (d := .tuple (xs.map .int)) (e := .tuple (ys.map .int)) (.tup (dats_intsV σ xs)) (.tup (dats_intsV σ ys)) (by have := depthAll_ints xs; simp only [PyData.depth]; omega) (lexD_ints 58 xs ys) q
end

/-! X2 -/
theorem sub_ri_reversed : isSubtype (.type "range_iterator") (.type "reversed") = pure false := by rw [isSubtype_type]; kernel_rfl
section
variable {prog : Program} {w : World} {A : Around} {E : Value → Shared → Prop} {s : Shared}
def rriObj (n : Int) : Obj := { cls := .type "range_iterator", data := .fields #[rawInt (0 + (n - 1) * 1), rawInt n, rawInt (-1)] }
theorem call_range_reversed {r : Addr} {b : Int} {t u v : Tok} {Q : Value → Shared → Prop} (hr : IsRange s.heap r 0 b 1 t u v) (h0 : 0 ≤ b) (h1 : b ≤ 1000000)
    (h : Q (.ref s.heap.objs.size) { s with heap := s.heap.push (rriObj b) }) : wpAny (model prog w) A (call (.builtin "range.__reversed__") [.ref r]) Q E s := by
  have hT : s.TypeIs (.ref r) "range" := ⟨_, hr, rfl⟩
  refine wpAny_call_entry F.slot_range_reversed hT F.entry_range_reversed ?_ (F.args_range_reversed_1 _)
  have hn : Builtin.Range.rangeSize 0 b 1 = b := by
    unfold Builtin.Range.rangeSize; simp; omega
  have hsm : (Builtin.Range.rangeFitsLong 0 && Builtin.Range.rangeFitsLong b && Builtin.Range.rangeFitsLong 1 && Builtin.Range.rangeFitsLong (-1) && Builtin.Range.rangeFitsLong (0 - 1) && Builtin.Range.rangeFitsLong b) = true := by
    unfold Builtin.Range.rangeFitsLong; simp; omega
  unfold Builtin.«range.__reversed__»
  refine wpAny_bind (wpAny_of_eq (a := Value.ref r) rfl ?_)
  unfold Builtin.Range.rangeFields
  wp_walk
  rw [hn, hsm]
  exact wpAny_bind (wpAny_newObj_type (wpAny_pure ⟨_, rfl, h⟩))
theorem code_reversed_range {r : Addr} {b : Int} {t u v : Tok} {Q₁ : Value → Shared → Prop} (hr : IsRange s.heap r 0 b 1 t u v) (h0 : 0 ≤ b) (h1 : b ≤ 1000000)
    (h : Q₁ (.ref s.heap.objs.size) { s with heap := s.heap.push (rriObj b) }) :
    codeAny (model prog w) A (.call (.builtin "reversed.__new__") ⟨[.type "reversed", .ref r], []⟩) (wants Q₁ E) s := by
  have hT : s.TypeIs (.ref r) "range" := ⟨_, hr, rfl⟩
  refine codeAny_of_tree ?_
  show wpAny _ A.in1 (do checkBuiltinCall "reversed.__new__" ⟨[.type "reversed", .ref r], []⟩; again (.builtin "reversed.__new__" ⟨[.type "reversed", .ref r], []⟩)) _ _ s
  refine wpAny_bind (wpAny_of_eq (F.newCall_reversed_1 _) (wpAny_pure ⟨plainId_quiet F.plain_reversed_new _, codeAny_builtin F.entry_reversed_new ?_⟩))
  rw [Around.under_plainId F.plain_reversed_new _]
  unfold Builtin.«reversed.__new__»
  refine wpAny_bind (wpAny_of_eq (newClass_reversed _) ?_)
  refine wpAny_bind (wpAny_of_eq (a := ()) (by first | rfl | kernel_rfl) ?_)
  refine wpAny_bind (wpAny_of_eq (a := ()) (by first | rfl | kernel_rfl) ?_)
  refine wpAny_bind (wpAny_specialOf hT F.slot_range_reversed.lookup ?_)
  refine wpAny_bind (wpAny_of_eq (F.slot_range_reversed.bind _) ?_)
  show wpAny _ _ (if (Value.builtin "range.__reversed__" == Value.none) = true then _ else _) _ _ _
  rw [if_neg (show ¬ ((Value.builtin "range.__reversed__" == Value.none) = true) from Bool.false_ne_true)]
  refine wpAny_bind (wpAny_rule ?_)
  refine wpAny_bind (m := runValue (.call (.builtin "range.__reversed__") ⟨[.ref r], []⟩)) (show wpAny _ _ (call (.builtin "range.__reversed__") [.ref r]) _ _ _ from call_range_reversed hr h0 h1 ?_)
  first
  | exact wpAny_pure h
  | exact wpAny_bind (wpAny_pure (wpAny_pure h))
theorem call_reversed_range {r : Addr} {b : Int} {t u v : Tok} {Q : Value → Shared → Prop} (hr : IsRange s.heap r 0 b 1 t u v) (h0 : 0 ≤ b) (h1 : b ≤ 1000000)
    (h : Q (.ref s.heap.objs.size) { s with heap := s.heap.push (rriObj b) }) : wpAny (model prog w) A (call (.type "reversed") [.ref r]) Q E s := by
  refine callType_other (U := "range_iterator") (Q₁ := fun obj s₁ => obj = .ref s.heap.objs.size ∧ s₁ = { s with heap := s.heap.push (rriObj b) }) (by decide +kernel) F.create_reversed ⟨_, _, F.mro_reversed⟩ F.made_reversed sub_ri_reversed (F.typeCall_reversed_1 _) (code_reversed_range hr h0 h1 ⟨rfl, rfl⟩) ?_
  rintro obj s₁ ⟨rfl, rfl⟩
  exact ⟨⟨_, Heap.get?_push_size _ rfl, rfl⟩, h⟩
end
theorem CI.rev {c : Cfg} {p q : Pos} {x : Str} {e : Expr} {a : PE} (hn : x = "reversed") (hk : c.sc.lookup x = some .globalImplicit) (h : CE c e a) (hst : ∀ env, starEach [e] env = [(false, eval e env)]) : CI c (.Call (.Name x p) [e] [] q) .rev a := by
  subst hn
  refine ⟨fun _ _ => rfl, fun {prog w h₀ mg mb Φ n A s σ env own F P} X v => ?_⟩
  have hces : CEs c [e] [a] := .cons h .nil hst
  refine Call_Name rfl (load_glob X.G X.w X.f hk (by decide) (.inr ⟨X.NM.fr _ (by decide +kernel), (X.G.boot _ (by decide)).trans (BI.boot .reversed)⟩) ?_)
  refine PyProof.Rows.callWith_type (star_plain hces) (evalArgs_ces hces ?_)
  rw [hst env]
  refine Calls.spliced_cons (wpAny_mono (h X v) (fun v s₁ => PV.on fun x σ₁ rx st m₁ q => Calls.spliced_nil ?_) fun _ _ f => f)
  cases x with
  | rng r0 b0 c0 =>
    obtain ⟨rfl, rfl, h0, h1, q⟩ := q
    cases rx with
    | rng hr =>
    refine call_reversed_range hr h0 h1 ?_
    have it : ItRep (s₁.heap.push (rriObj b0)) (.ref s₁.heap.objs.size) [s₁.heap.objs.size] (.rng (b0 - 1) b0.toNat (-1)) := by
      refine ⟨_, rfl, rfl, ?_⟩
      have e : (rriObj b0) = { cls := .type "range_iterator", data := .fields #[rawInt (b0 - 1), rawInt (b0.toNat : Nat), rawInt (-1)] } := by
        unfold rriObj
        have e1 : 0 + (b0 - 1) * 1 = b0 - 1 := by omega
        have e2 : ((b0.toNat : Nat) : Int) = b0 := by omega
        rw [e1, e2]
      rw [e]; exact Heap.get?_push_size _ rfl
    refine pyIter_self X.R.handled it ⟨σ₁, s₁, st, m₁, ⟨Eq.refl _, Eq.refl _⟩, _, _, (by intro k a e; cases e), it, ?_, fun b o e => Heap.get?_push_of_some _ e, q⟩
    intro a m; simp at m; subst m; exact beside_one st.w (get_push_none _)
  | _ => exact q.elim

/-! X6 -/
section
variable {σ : Hp} {Q : V → Hp → Prop}
end
/-- an item to be changed -/
structure opGet (o i : V) (Q : V → Hp → Prop) (σ : Hp) : Prop where
  go : ∀ ⦃prog : Program⦄ ⦃w : World⦄ ⦃A : Around⦄ ⦃s : Shared⦄ ⦃h₀ : Heap⦄ ⦃vo vi : Value⦄, Rep s.heap vo o → Rep s.heap vi i → W h₀ σ s.heap → wpAny (model prog w) A (getItem vo vi) (PV h₀ σ s Q) E0 s
def PS.augi (o i : PE) (op : Operator) (e : PE) : PS := fun Φ R F σ => vE Φ o (fun a σ => vE Φ i (fun b σ => opGet a b (fun x σ => vE Φ e (fun y σ => opAug op x y (fun z σ => opSet a b z (fun σ => R .next F σ) σ) σ) F σ) σ) F σ) F σ
theorem s_augi (Φ : Fns) (R : Fl → Frm → Hp → Prop) (F : Frm) (σ : Hp) (o i : PE) (op : Operator) (e : PE) : vS Φ (.augi o i op e) R F σ = vE Φ o (fun a σ => vE Φ i (fun b σ => opGet a b (fun x σ => vE Φ e (fun y σ => opAug op x y (fun z σ => opSet a b z (fun σ => R .next F σ) σ) σ) F σ) σ) F σ) F σ := rfl
section
variable {c : Cfg} {p q : Pos}
theorem CE.and {l r : Expr} {a b : PE} (hl : CE c l a) (hr : CE c r b) : CE c (.BoolOp .And [l, r] p) (.and a b) := by
  intro prog w h₀ mg mb Φ n A s σ env own F Q X v
  refine BoolOp_and (wpAny_mono (hl X v) (fun y s₁ => PV.on fun z σ₁ rz st m₁ q => wpAny_mono (truth_ok rz st.w q) (fun b s₂ => PB.on fun σ₂ st₂ m₂ q₂ => ?_) fun _ _ f => f) fun _ _ f => f)
  cases b with
  | true => exact BoolOp_one (wpAny_mono (hr ((X.step st).step st₂) q₂) (fun _ _ pv => pv.back (st.trans st₂) (m₁.trans m₂)) fun _ _ f => f)
  | false => exact ⟨z, σ₂, rz.step st₂, ⟨st.trans st₂, m₁.trans m₂⟩, q₂⟩
end

/-! X7 -/
open PySem PySem.W PyProof.Rows PySem.SeqAt PySem.MeetsSeq PySem.MeetsSeq2 PySem.MeetsSeq3 PySem.SeqRoads2
open PySem.AutoSeq1 (wpAny_loadPart')
/-! the greatest of a list -/
section
variable {prog : Program} {w : World} {A : Around} {R : Result → Shared → Prop}
end
/-! Srt -/
section
variable {lt : Nat → Nat → Bool} {N : Nat}
end

/-! X4 -/
section
variable {prog : Program} {w : World} {A : Around} {E : Value → Shared → Prop} {s : Shared}
end

/-! X5 -/
section
variable {prog : Program} {w : World} {A : Around} {E : Value → Shared → Prop} {s : Shared}
end

/-! L1 -/
/-! the two sifts, as plain functions -/
section
variable {α : Type}
def upF (lt : α → α → Bool) (s : Nat) (x : α) (ns : List α) (p : Nat) : List α :=
  if h : s < p then
    if lt (ns.getD ((p - 1) / 2) x) x then upF lt s x (ns.set p (ns.getD ((p - 1) / 2) x)) ((p - 1) / 2) else ns.set p x
  else ns.set p x
termination_by p
decreasing_by omega
def kid (lt : α → α → Bool) (x : α) (ns : List α) (p : Nat) : Nat :=
  if 2 * p + 2 < ns.length ∧ lt (ns.getD (2 * p + 2) x) (ns.getD (2 * p + 1) x) = false then 2 * p + 2 else 2 * p + 1
theorem kid_gt (lt : α → α → Bool) (x : α) (ns : List α) (p : Nat) : p < kid lt x ns p := by unfold kid; split <;> omega
theorem kid_lt (lt : α → α → Bool) (x : α) (ns : List α) (p : Nat) (h : 2 * p + 1 < ns.length) : kid lt x ns p < ns.length := by unfold kid; split <;> omega
def downF (lt : α → α → Bool) (x : α) (ns : List α) (p : Nat) : List α × Nat :=
  if h : 2 * p + 1 < ns.length then downF lt x (ns.set p (ns.getD (kid lt x ns p) x)) (kid lt x ns p) else (ns, p)
termination_by ns.length - p
decreasing_by
  have := kid_gt lt x ns p
  simp only [List.length_set]; omega
def siftF (lt : α → α → Bool) (ns : List α) (p : Nat) (x : α) : List α :=
  upF lt p x ((downF lt x ns p).1.set (downF lt x ns p).2 x) (downF lt x ns p).2

theorem upF_length (lt : α → α → Bool) (s : Nat) (x : α) : ∀ (p : Nat) (ns : List α), (upF lt s x ns p).length = ns.length := by
  intro p
  induction p using Nat.strongRecOn with
  | ind p ih =>
    intro ns
    rw [upF]; split
    · split
      · rw [ih _ (by omega)]; simp
      · simp
    · simp
theorem downF_length (lt : α → α → Bool) (x : α) : ∀ (k : Nat) (ns : List α) (p : Nat), ns.length - p ≤ k → (downF lt x ns p).1.length = ns.length ∧ (p < ns.length → (downF lt x ns p).2 < ns.length) ∧ p ≤ (downF lt x ns p).2 := by
  intro k
  induction k with
  | zero =>
    intro ns p h
    rw [downF]; split
    · omega
    · exact ⟨rfl, fun h => h, Nat.le_refl _⟩
  | succ k ih =>
    intro ns p h
    have g := kid_gt lt x ns p
    rw [downF]; split
    · rename_i hc
      have l := kid_lt lt x ns p hc
      have := ih (ns.set p (ns.getD (kid lt x ns p) x)) (kid lt x ns p) (by simp only [List.length_set]; omega)
      simp only [List.length_set] at this
      exact ⟨this.1, fun _ => this.2.1 l, by omega⟩
    · exact ⟨rfl, fun h => h, Nat.le_refl _⟩
theorem getD_mem {ns : List α} {k : Nat} {x : α} (h : k < ns.length) : ns.getD k x ∈ ns := by
  rw [List.getD_eq_getElem?_getD, List.getElem?_eq_getElem h]; exact List.getElem_mem h
theorem mem_set {ns : List α} {k : Nat} {x y : α} (h : y ∈ ns.set k x) : y ∈ ns ∨ y = x := List.mem_or_eq_of_mem_set h

/-- what the code asks of the order -/
def LtOn (σ : Hp) (a : Addr) (f : α → V) (lt : α → α → Bool) (P : α → Prop) : Prop :=
  ∀ x y, P x → P y → ∀ (ys : List V) (Q : V → Hp → Prop), Q (.bool (lt x y)) (upd σ a (.list ys)) → opCmp .Lt (f x) (f y) Q (upd σ a (.list ys))
theorem LtOn.upd {σ : Hp} {a : Addr} {f : α → V} {lt : α → α → Bool} {P : α → Prop} (h : LtOn σ a f lt P) (xs : List V) : LtOn (upd σ a (.list xs)) a f lt P := fun x y hx hy ys Q q => by
  rw [upd_upd] at q ⊢; exact h x y hx hy ys Q q
end

def siftdownC (args : List V) (Q : V → Hp → Prop) (σ : Hp) : Prop :=
  ∃ (α : Type) (f : α → V) (lt : α → α → Bool) (P : α → Prop) (a : Addr) (ns : List α) (s p : Nat) (x : α), args = [.ref a, .int s, .int p] ∧ σ a = some (.list (ns.map f)) ∧ ns[p]? = some x ∧ (∀ y ∈ ns, P y) ∧ LtOn σ a f lt P ∧
    Q .none (upd σ a (.list ((upF lt s x ns p).map f)))
def siftupC (args : List V) (Q : V → Hp → Prop) (σ : Hp) : Prop :=
  ∃ (α : Type) (f : α → V) (lt : α → α → Bool) (P : α → Prop) (a : Addr) (ns : List α) (p : Nat) (x : α), args = [.ref a, .int p] ∧ σ a = some (.list (ns.map f)) ∧ ns[p]? = some x ∧ (∀ y ∈ ns, P y) ∧ LtOn σ a f lt P ∧ ns.length ≤ BIG ∧
    Q .none (upd σ a (.list ((siftF lt ns p x).map f)))

def ps_siftdown : List PS := [.assign (.name 3) (.sub (.var 0) (.var 2)),
  .whil (.cmp .Gt (.var 2) (.var 1)) [.assign (.name 4) (.bin .RShift (.bin .Sub (.var 2) (.int 1)) (.int 1)), .assign (.name 5) (.sub (.var 0) (.var 4)), .ifs (.cmp .Lt (.var 5) (.var 3)) [.setitem (.var 0) (.var 2) (.var 5), .assign (.name 2) (.var 4), .cont] [], .brk],
  .setitem (.var 0) (.var 2) (.var 3)]
def ps_siftup (i : Nat) : List PS := [.assign (.name 2) (.call .len [(.var 0)]),
  .assign (.name 3) (.var 1),
  .assign (.name 4) (.sub (.var 0) (.var 1)),
  .assign (.name 5) (.bin .Add (.bin .Mult (.int 2) (.var 1)) (.int 1)),
  .whil (.cmp .Lt (.var 5) (.var 2)) [.assign (.name 6) (.bin .Add (.var 5) (.int 1)), .ifs (.and (.cmp .Lt (.var 6) (.var 2)) (.not (.cmp .Lt (.sub (.var 0) (.var 6)) (.sub (.var 0) (.var 5))))) [.assign (.name 5) (.var 6)] [], .setitem (.var 0) (.var 1) (.sub (.var 0) (.var 5)), .assign (.name 1) (.var 5), .assign (.name 5) (.bin .Add (.bin .Mult (.int 2) (.var 1)) (.int 1))],
  .setitem (.var 0) (.var 1) (.var 4),
  .expr (.ucall i [(.var 0), (.var 3), (.var 1)])]

theorem nth_nat {xs : List V} {k : Nat} : nth xs (k : Int) = xs[k]? := by unfold nth; simp
theorem opSub_list {σ : Hp} {a : Addr} {xs : List V} {k : Nat} {x : V} {Q : V → Hp → Prop} (h : σ a = some (.list xs)) (e : xs[k]? = some x) (q : Q x σ) : opSub (.ref a) (.int k) Q σ :=
  sub_list (listAt_list h) (by rw [nth_nat]; exact e) q
theorem opSet_list {σ : Hp} {a : Addr} {xs : List V} {k : Nat} {v : V} {Q : Hp → Prop} (h : σ a = some (.list xs)) (e : k < xs.length) (q : Q (upd σ a (.list (xs.set k v)))) : opSet (.ref a) (.int k) v Q σ :=
  set_list h (by omega) (by omega) (by simpa using q)

/-! L2 -/
/-! the sift is a sink where all below is a heap -/
inductive Desc : Nat → Nat → Prop
  | refl (p : Nat) : Desc p p
  | left {p q : Nat} : Desc p q → Desc p (2 * q + 1)
  | right {p q : Nat} : Desc p q → Desc p (2 * q + 2)
theorem Desc.le {p q : Nat} (h : Desc p q) : p ≤ q := by induction h <;> omega
theorem Desc.trans {p q r : Nat} (h : Desc p q) (g : Desc q r) : Desc p r := by
  induction g with
  | refl => exact h
  | left _ ih => exact .left ih
  | right _ ih => exact .right ih
theorem Desc.zero (q : Nat) : Desc 0 q := by
  induction q using Nat.strongRecOn with
  | ind q ih =>
    rcases Nat.eq_zero_or_pos q with h | h
    · subst h; exact .refl 0
    · rcases Nat.mod_two_eq_zero_or_one q with e | e
      · have : q = 2 * ((q - 2) / 2) + 2 := by omega
        rw [this]; exact .right (ih _ (by omega))
      · have : q = 2 * ((q - 1) / 2) + 1 := by omega
        rw [this]; exact .left (ih _ (by omega))

section
variable {α : Type} (lt : α → α → Bool)
/-- no item strictly below p is less than one below it -/
def HB (ns : List α) (p : Nat) : Prop := ∀ q c a b, Desc p q → q ≠ p → (c = 2 * q + 1 ∨ c = 2 * q + 2) → ns[q]? = some a → ns[c]? = some b → lt a b = false
def sinkF (v : α) (ns : List α) (p : Nat) : List α :=
  if h : 2 * p + 1 < ns.length then
    if lt (ns.getD (kid lt v ns p) v) v then ns.set p v else sinkF v (ns.set p (ns.getD (kid lt v ns p) v)) (kid lt v ns p)
  else ns.set p v
termination_by ns.length - p
decreasing_by
  have := kid_gt lt v ns p
  simp only [List.length_set]; omega

variable {lt}
theorem kid_cases (v : α) (ns : List α) (p : Nat) : kid lt v ns p = 2 * p + 1 ∨ kid lt v ns p = 2 * p + 2 := by unfold kid; split <;> simp
theorem kid_par (v : α) (ns : List α) (p : Nat) : (kid lt v ns p - 1) / 2 = p := by rcases kid_cases (lt := lt) v ns p with h | h <;> rw [h] <;> omega
theorem kid_desc (v : α) (ns : List α) (p : Nat) : Desc p (kid lt v ns p) := by
  rcases kid_cases (lt := lt) v ns p with h | h <;> rw [h]
  · exact .left (.refl p)
  · exact .right (.refl p)
theorem upF_set (s : Nat) (v w : α) (ns : List α) (p : Nat) : upF lt s v (ns.set p w) p = upF lt s v ns p := by
  rw [upF.eq_def lt s v (ns.set p w), upF.eq_def lt s v ns]
  split
  · rename_i h
    have e : (ns.set p w).getD ((p - 1) / 2) v = ns.getD ((p - 1) / 2) v := by
      simp only [List.getD_eq_getElem?_getD]; rw [List.getElem?_set_ne (by omega)]
    rw [e, List.set_set, List.set_set]
  · rw [List.set_set]
theorem getD_some {ns : List α} {k : Nat} {v : α} (h : k < ns.length) : ns[k]? = some (ns.getD k v) := by
  simp [List.getElem?_eq_getElem h]
theorem HB.sub {ns : List α} {p c : Nat} {w : α} (h : HB lt ns p) (hc : Desc p c) (hp : p < c) : HB lt (ns.set p w) c := fun q d a b hq hn hd ea eb => by
  have := hq.le
  rw [List.getElem?_set_ne (by omega)] at ea
  rw [List.getElem?_set_ne (by rcases hd with rfl | rfl <;> omega)] at eb
  exact h q d a b (hc.trans hq) (by omega) hd ea eb

theorem up_back (htr : ∀ a b c, lt a b = false → lt a c = true → lt b c = true) (v : α) (s : Nat) : ∀ (k : Nat) (ns : List α) (p : Nat), ns.length - p ≤ k → s ≤ p → p < ns.length → HB lt ns p → 
    (2 * p + 1 < ns.length → lt (ns.getD (kid lt v ns p) v) v = true) →
    upF lt s v ((downF lt v ns p).1.set (downF lt v ns p).2 v) (downF lt v ns p).2 = upF lt s v (ns.set p v) p := by
  intro k
  induction k with
  | zero => intro ns p h hs hp; omega
  | succ k ih =>
    intro ns p h hs hp hb hl
    by_cases hc : 2 * p + 1 < ns.length
    · have g := kid_gt lt v ns p
      have l := kid_lt lt v ns p hc
      have hv := hl hc
      have kp := kid_par (lt := lt) v ns p
      have kd := kid_desc (lt := lt) v ns p
      rw [downF.eq_def lt v ns p, dif_pos hc]
      generalize hcc : kid lt v ns p = c at *
      have hnc : (ns.set p (ns.getD c v)).getD c v = ns.getD c v := by
        simp only [List.getD_eq_getElem?_getD]; rw [List.getElem?_set_ne (by omega)]
      rw [ih (ns.set p (ns.getD c v)) c (by simp only [List.length_set]; omega) (by omega) (by simpa using l) (hb.sub kd (by omega)) ?_]
      · rw [upF, dif_pos (by omega), kp]
        have e1 : ((ns.set p (ns.getD c v)).set c v).getD p v = ns.getD c v := by
          simp only [List.getD_eq_getElem?_getD]
          rw [List.getElem?_set_ne (by omega), List.getElem?_set_self (by omega)]; rfl
        rw [e1, if_pos hv, List.set_set]
        have e2 : (ns.set p (ns.getD c v)).set c (ns.getD c v) = ns.set p (ns.getD c v) := by
          apply List.ext_getElem? ; intro i
          by_cases hi : i = c
          · subst hi; rw [List.getElem?_set_self (by simpa using l), List.getElem?_set_ne (by omega)]; exact (getD_some l).symm
          · rw [List.getElem?_set_ne (by omega)]
        rw [e2, upF_set, upF_set]
      · intro hd
        have l2 := kid_lt lt v (ns.set p (ns.getD c v)) c hd
        have g2 := kid_gt lt v (ns.set p (ns.getD c v)) c
        have kk := kid_cases (lt := lt) v (ns.set p (ns.getD c v)) c
        generalize kid lt v (ns.set p (ns.getD c v)) c = d at *
        simp only [List.length_set] at l2
        have e3 : (ns.set p (ns.getD c v)).getD d v = ns.getD d v := by
          simp only [List.getD_eq_getElem?_getD]; rw [List.getElem?_set_ne (by omega)]
        rw [e3]
        exact htr _ _ _ (hb c d _ _ kd (by omega) kk (getD_some l) (getD_some l2)) hv
    · rw [downF.eq_def lt v ns p, dif_neg hc]

theorem sift_sink_aux (htr : ∀ a b c, lt a b = false → lt a c = true → lt b c = true) (v : α) (s : Nat) : ∀ (k : Nat) (ns : List α) (p : Nat), ns.length - p ≤ k → s ≤ p → p < ns.length → HB lt ns p → 
    (s < p → lt (ns.getD ((p - 1) / 2) v) v = false) →
    upF lt s v ((downF lt v ns p).1.set (downF lt v ns p).2 v) (downF lt v ns p).2 = sinkF lt v ns p := by
  intro k
  induction k with
  | zero => intro ns p h hs hp; omega
  | succ k ih =>
    intro ns p h hs hp hb hl
    have fin : upF lt s v (ns.set p v) p = ns.set p v := by
      rw [upF_set, upF]
      split
      · rename_i hh; rw [if_neg]; rw [hl hh]; simp
      · rfl
    by_cases hc : 2 * p + 1 < ns.length
    · have g := kid_gt lt v ns p
      have l := kid_lt lt v ns p hc
      have kp := kid_par (lt := lt) v ns p
      have kd := kid_desc (lt := lt) v ns p
      rw [sinkF, dif_pos hc]
      split
      · rename_i hv
        rw [up_back htr v s (k + 1) ns p h hs hp hb (fun _ => hv), fin]
      · rename_i hv
        rw [downF.eq_def lt v ns p, dif_pos hc]
        generalize hcc : kid lt v ns p = c at *
        refine ih (ns.set p (ns.getD c v)) c (by simp only [List.length_set]; omega) (by omega) (by simpa using l) (hb.sub kd (by omega)) (fun _ => ?_)
        rw [kp]
        simp only [List.getD_eq_getElem?_getD]
        rw [List.getElem?_set_self (by omega)]
        simpa using hv
    · rw [downF.eq_def lt v ns p, dif_neg hc, sinkF, dif_neg hc, fin]

theorem sift_sink (htr : ∀ a b c, lt a b = false → lt a c = true → lt b c = true) (v : α) (ns : List α) (p : Nat) (hp : p < ns.length) (hb : HB lt ns p) : siftF lt ns p v = sinkF lt v ns p :=
  sift_sink_aux htr v p _ ns p (Nat.le_refl _) (Nat.le_refl _) hp hb (fun h => absurd h (Nat.lt_irrefl _))
end

/-! L3 -/
/-! heaps -/
section
variable {α : Type} {lt : α → α → Bool}
structure SW (lt : α → α → Bool) : Prop where
  asym : ∀ a b, lt a b = true → lt b a = false
  neg : ∀ a b c, lt a c = true → lt a b = true ∨ lt b c = true
theorem SW.le (h : SW lt) {a b c : α} (x : lt a b = false) (y : lt b c = false) : lt a c = false := by
  cases q : lt a c with
  | false => rfl
  | true => rcases h.neg a b c q with e | e
            · rw [x] at e; cases e
            · rw [y] at e; cases e
theorem SW.htr (h : SW lt) : ∀ a b c, lt a b = false → lt a c = true → lt b c = true := fun a b c x y => by
  rcases h.neg a b c y with e | e
  · rw [x] at e; cases e
  · exact e
def siftAt (lt : α → α → Bool) (m : List α) (i : Nat) : List α := match m[i]? with | some x => siftF lt m i x | none => m
def heapifyF (lt : α → α → Bool) (ns : List α) : List α := ((List.range (ns.length / 2)).reverse).foldl (siftAt lt) ns
theorem sinkF_length (v : α) : ∀ (k : Nat) (ns : List α) (p : Nat), ns.length - p ≤ k → (sinkF lt v ns p).length = ns.length := by
  intro k
  induction k with
  | zero => intro ns p h; rw [sinkF, dif_neg (by omega)]; simp
  | succ k ih =>
    intro ns p h
    rw [sinkF]
    split
    · split
      · simp
      · have := kid_gt lt v ns p
        rw [ih _ _ (by simp only [List.length_set]; omega)]; simp
    · simp
theorem set_swap_perm {ns : List α} {p k : Nat} (v x : α) (hp : p < ns.length) (hk : k < ns.length) (hne : p ≠ k) (hx : ns[k]? = some x) : ((ns.set p x).set k v).Perm (ns.set p v) := by
  classical
  rw [List.perm_iff_count]
  intro b
  have hxk : ns[k] = x := by rw [List.getElem?_eq_getElem hk] at hx; exact Option.some.inj hx
  have c1 : 0 < List.count ns[k] ns := List.count_pos_iff.mpr (List.getElem_mem hk)
  have c2 : 0 < List.count ns[p] ns := List.count_pos_iff.mpr (List.getElem_mem hp)
  rw [List.count_set (by simpa using hk), List.count_set hp, List.count_set hp]
  rw [List.getElem_set_ne hne]
  rw [hxk]
  have : (if (x == b) = true then 1 else 0) ≤ (List.count b ns - if (ns[p] == b) = true then 1 else 0) + (if (x == b) = true then 1 else 0) := by omega
  omega
theorem sinkF_perm (v : α) : ∀ (k : Nat) (ns : List α) (p : Nat), ns.length - p ≤ k → p < ns.length → (sinkF lt v ns p).Perm (ns.set p v) := by
  intro k
  induction k with
  | zero => intro ns p h hp; omega
  | succ k ih =>
    intro ns p h hp
    rw [sinkF]
    split
    · rename_i hc
      split
      · exact .refl _
      · have g := kid_gt lt v ns p
        have l := kid_lt lt v ns p hc
        exact (ih _ _ (by simp only [List.length_set]; omega) (by simpa using l)).trans (set_swap_perm v _ hp l (by omega) (getD_some l))
    · exact .refl _
theorem siftF_length (ns : List α) (p : Nat) (x : α) : (siftF lt ns p x).length = ns.length := by
  unfold siftF; rw [upF_length, List.length_set]; exact (downF_length lt x _ ns p (Nat.le_refl _)).1
theorem siftAt_length (ns : List α) (p : Nat) : (siftAt lt ns p).length = ns.length := by
  unfold siftAt; split
  · exact siftF_length _ _ _
  · rfl
end

/-! L4 -/
/-! heaps as trees -/
inductive Tr (α : Type) where
  | nil
  | node (x : α) (l r : Tr α)
section
variable {α : Type} {lt : α → α → Bool}
def Tr.sz : Tr α → Nat
  | .nil => 0
  | .node _ l r => l.sz + r.sz + 1
def Tr.root : Tr α → Option α
  | .nil => none
  | .node x _ _ => some x
def tr (ns : List α) (p : Nat) : Tr α := if h : p < ns.length then .node ns[p] (tr ns (2 * p + 1)) (tr ns (2 * p + 2)) else .nil
termination_by ns.length - p
decreasing_by all_goals omega
theorem tr_none {ns : List α} {p : Nat} (h : ns.length ≤ p) : tr ns p = .nil := by rw [tr, dif_neg (by omega)]
theorem tr_some {ns : List α} {p : Nat} {x : α} (h : ns[p]? = some x) : tr ns p = .node x (tr ns (2 * p + 1)) (tr ns (2 * p + 2)) := by
  obtain ⟨hp, e⟩ := List.getElem?_eq_some_iff.mp h
  rw [tr.eq_def ns p, dif_pos hp, e]
theorem tr_root (ns : List α) (p : Nat) : (tr ns p).root = ns[p]? := by
  cases e : ns[p]? with
  | none => rw [tr_none (List.getElem?_eq_none_iff.mp e)]; rfl
  | some x => rw [tr_some e]; rfl
theorem Desc.kids {p q : Nat} (h : Desc p q) : q = p ∨ Desc (2 * p + 1) q ∨ Desc (2 * p + 2) q := by
  induction h with
  | refl => exact .inl rfl
  | left _ ih =>
    rcases ih with e | e | e
    · subst e; exact .inr (.inl (.refl _))
    · exact .inr (.inl (.left e))
    · exact .inr (.inr (.left e))
  | right _ ih =>
    rcases ih with e | e | e
    · subst e; exact .inr (.inr (.refl _))
    · exact .inr (.inl (.right e))
    · exact .inr (.inr (.right e))
theorem Desc.up {p q : Nat} (h : Desc p q) (n : q ≠ p) : Desc p ((q - 1) / 2) := by
  cases h with
  | refl => exact absurd rfl n
  | left h => rename_i q'; have : (2 * q' + 1 - 1) / 2 = q' := by omega
              rw [this]; exact h
  | right h => rename_i q'; have : (2 * q' + 2 - 1) / 2 = q' := by omega
               rw [this]; exact h
theorem Desc.chain {a b x : Nat} (h : Desc a x) (g : Desc b x) : Desc a b ∨ Desc b a := by
  induction h with
  | refl => exact .inr g
  | left h ih =>
    rename_i q
    by_cases e : 2 * q + 1 = b
    · subst e; exact .inl (.left h)
    · have := g.up e
      have e2 : (2 * q + 1 - 1) / 2 = q := by omega
      rw [e2] at this; exact ih this
  | right h ih =>
    rename_i q
    by_cases e : 2 * q + 2 = b
    · subst e; exact .inl (.right h)
    · have := g.up e
      have e2 : (2 * q + 2 - 1) / 2 = q := by omega
      rw [e2] at this; exact ih this
theorem not_desc_sib {p : Nat} : ¬ Desc (2 * p + 1) (2 * p + 2) := fun h => by
  have := (h.up (by omega)).le
  omega
/-- a tree stands where its places stand -/
theorem tr_same {ns ms : List α} : ∀ (k p : Nat), ns.length - p ≤ k → ns.length = ms.length → (∀ q, Desc p q → ns[q]? = ms[q]?) → tr ns p = tr ms p := by
  intro k
  induction k with
  | zero => intro p h e _; rw [tr_none (by omega), tr_none (by omega)]
  | succ k ih =>
    intro p h e hs
    have h0 := hs p (.refl p)
    cases q : ns[p]? with
    | none =>
      have := List.getElem?_eq_none_iff.mp q
      rw [tr_none this, tr_none (by omega)]
    | some x =>
      rw [tr_some q, tr_some (ns := ms) (p := p) (h0.symm.trans q)]
      rw [ih (2 * p + 1) (by omega) e fun r d => hs r ((Desc.left (.refl p)).trans d), ih (2 * p + 2) (by omega) e fun r d => hs r ((Desc.right (.refl p)).trans d)]
theorem tr_at {ns ms : List α} {p : Nat} (h : tr ns p = tr ms p) : ∀ {q : Nat}, Desc p q → tr ns q = tr ms q := by
  intro q d
  induction d with
  | refl => exact h
  | left d ih =>
    rename_i q
    cases e : ns[q]? with
    | none =>
      have l1 := List.getElem?_eq_none_iff.mp e
      have : (tr ms q).root = none := by rw [← ih, tr_root, e]
      rw [tr_root] at this
      have l2 := List.getElem?_eq_none_iff.mp this
      rw [tr_none (by omega), tr_none (by omega)]
    | some x =>
      have : (tr ms q).root = some x := by rw [← ih, tr_root, e]
      rw [tr_root] at this
      rw [tr_some e, tr_some this] at ih
      injection ih
  | right d ih =>
    rename_i q
    cases e : ns[q]? with
    | none =>
      have l1 := List.getElem?_eq_none_iff.mp e
      have : (tr ms q).root = none := by rw [← ih, tr_root, e]
      rw [tr_root] at this
      have l2 := List.getElem?_eq_none_iff.mp this
      rw [tr_none (by omega), tr_none (by omega)]
    | some x =>
      have : (tr ms q).root = some x := by rw [← ih, tr_root, e]
      rw [tr_root] at this
      rw [tr_some e, tr_some this] at ih
      injection ih
theorem tr_inj {ns ms : List α} (h : tr ns 0 = tr ms 0) : ns = ms := by
  apply List.ext_getElem?; intro q
  rw [← tr_root, ← tr_root, tr_at h (Desc.zero q)]

def sinkT (lt : α → α → Bool) (v : α) (l r : Tr α) : Tr α := match l, r with
  | .nil, _ => .node v .nil .nil
  | .node a la ra, .nil => if lt a v then .node v (.node a la ra) .nil else .node a (sinkT lt v la ra) .nil
  | .node a la ra, .node b lb rb =>
    if lt b a then (if lt a v then .node v (.node a la ra) (.node b lb rb) else .node a (sinkT lt v la ra) (.node b lb rb))
    else (if lt b v then .node v (.node a la ra) (.node b lb rb) else .node b (.node a la ra) (sinkT lt v lb rb))
termination_by l.sz + r.sz
decreasing_by all_goals simp only [Tr.sz]; omega
def heapT (lt : α → α → Bool) : Tr α → Tr α
  | .nil => .nil
  | .node x l r => sinkT lt x (heapT lt l) (heapT lt r)
theorem sink_out (v : α) : ∀ (k : Nat) (ns : List α) (p q : Nat), ns.length - p ≤ k → ¬ Desc p q → (sinkF lt v ns p)[q]? = ns[q]? := by
  intro k
  induction k with
  | zero =>
    intro ns p q h d
    rw [sinkF, dif_neg (by omega)]
    rw [List.getElem?_set_ne (by rintro rfl; exact d (.refl _))]
  | succ k ih =>
    intro ns p q h d
    have np : p ≠ q := by rintro rfl; exact d (.refl _)
    rw [sinkF]
    split
    · split
      · rw [List.getElem?_set_ne np]
      · have g := kid_gt lt v ns p
        rw [ih _ _ _ (by simp only [List.length_set]; omega) (fun d' => d ((kid_desc v ns p).trans d')), List.getElem?_set_ne np]
    · rw [List.getElem?_set_ne np]
theorem tr_set {ns : List α} {p q : Nat} (v : α) (h : ¬ Desc q p) : tr (ns.set p v) q = tr ns q :=
  tr_same _ _ (Nat.le_refl _) (by simp) fun r d => by rw [List.getElem?_set_ne (by rintro rfl; exact h d)]
theorem not_desc_lt {p q : Nat} (h : p < q) : ¬ Desc q p := fun d => by have := d.le; omega
theorem sink_tr (v : α) : ∀ (k : Nat) (ns : List α) (p : Nat), ns.length - p ≤ k → p < ns.length → tr (sinkF lt v ns p) p = sinkT lt v (tr ns (2 * p + 1)) (tr ns (2 * p + 2)) := by
  intro k
  induction k with
  | zero => intro ns p h hp; omega
  | succ k ih =>
    intro ns p h hp
    have stop : tr (ns.set p v) p = .node v (tr ns (2 * p + 1)) (tr ns (2 * p + 2)) := by
      rw [tr_some (List.getElem?_set_self hp), tr_set v (not_desc_lt (by omega)), tr_set v (not_desc_lt (by omega))]
    rw [sinkF]
    by_cases hc : 2 * p + 1 < ns.length
    · rw [dif_pos hc]
      have g := kid_gt lt v ns p
      have l := kid_lt lt v ns p hc
      have kd := kid_desc (lt := lt) v ns p
      have ga : ∀ c, c < ns.length → ns[c]? = some (ns.getD c v) := fun c h => getD_some h
      -- going down to the kid
      have down : ∀ c c', c < ns.length → p < c → p < c' → ¬ Desc c p → ¬ Desc c c' → ¬ Desc c' c → (tr (sinkF lt v (ns.set p (ns.getD c v)) c) c = sinkT lt v (tr ns (2 * c + 1)) (tr ns (2 * c + 2))) ∧ (tr (sinkF lt v (ns.set p (ns.getD c v)) c) c' = tr ns c') ∧ (sinkF lt v (ns.set p (ns.getD c v)) c)[p]? = some (ns.getD c v) := by
        intro c c' hcl h1 h1' h2 h3 h4
        refine ⟨?_, ?_, ?_⟩
        · rw [ih _ c (by simp only [List.length_set]; omega) (by simpa using hcl), tr_set _ (not_desc_lt (by omega)), tr_set _ (not_desc_lt (by omega))]
        · rw [← tr_set (ns := ns) (p := p) (q := c') (ns.getD c v) (not_desc_lt h1')]
          refine tr_same _ _ (Nat.le_refl _) (sinkF_length v _ _ _ (Nat.le_refl _)) fun r d => sink_out v _ _ _ _ (Nat.le_refl _) fun d' => ?_
          rcases d.chain d' with e | e
          · exact h4 e
          · exact h3 e
        · rw [sink_out v _ _ _ _ (Nat.le_refl _) h2, List.getElem?_set_self hp]
      have fin : ∀ c c', c < ns.length → p < c → p < c' → ¬ Desc c p → ¬ Desc c c' → ¬ Desc c' c → tr (sinkF lt v (ns.set p (ns.getD c v)) c) p = .node (ns.getD c v) (tr (sinkF lt v (ns.set p (ns.getD c v)) c) (2 * p + 1)) (tr (sinkF lt v (ns.set p (ns.getD c v)) c) (2 * p + 2)) := fun c c' a1 a2 a3 a4 a5 a6 => tr_some (down c c' a1 a2 a3 a4 a5 a6).2.2
      have nd1 : ¬ Desc (2 * p + 1) (2 * p + 2) := not_desc_sib
      have nd2 : ¬ Desc (2 * p + 2) (2 * p + 1) := not_desc_lt (by omega)
      have n1 : ¬ Desc (2 * p + 1) p := not_desc_lt (by omega)
      have n2 : ¬ Desc (2 * p + 2) p := not_desc_lt (by omega)
      by_cases hr : 2 * p + 2 < ns.length
      · rw [tr_some (ga _ hc), tr_some (ga _ hr), sinkT]
        cases hlt : lt (ns.getD (2 * p + 2) v) (ns.getD (2 * p + 1) v) with
        | true =>
          have ke : kid lt v ns p = 2 * p + 1 := by unfold kid; rw [if_neg]; rintro ⟨_, h⟩; rw [hlt] at h; cases h
          rw [ke, if_pos rfl]
          cases hv : lt (ns.getD (2 * p + 1) v) v with
          | true => rw [if_pos rfl, if_pos rfl, stop, tr_some (ga _ hc), tr_some (ga _ hr)]
          | false =>
            rw [if_neg (show ¬ (false = true) from Bool.false_ne_true), if_neg (show ¬ (false = true) from Bool.false_ne_true), fin _ (2 * p + 2) hc (by omega) (by omega) n1 nd1 nd2]
            obtain ⟨d1, d2, _⟩ := down _ (2 * p + 2) hc (by omega) (by omega) n1 nd1 nd2
            rw [d1, d2, tr_some (ga _ hr)]
        | false =>
          have ke : kid lt v ns p = 2 * p + 2 := by unfold kid; rw [if_pos ⟨hr, hlt⟩]
          rw [ke, if_neg (show ¬ (false = true) from Bool.false_ne_true)]
          cases hv : lt (ns.getD (2 * p + 2) v) v with
          | true => rw [if_pos rfl, if_pos rfl, stop, tr_some (ga _ hc), tr_some (ga _ hr)]
          | false =>
            rw [if_neg (show ¬ (false = true) from Bool.false_ne_true), if_neg (show ¬ (false = true) from Bool.false_ne_true), fin _ (2 * p + 1) hr (by omega) (by omega) n2 nd2 nd1]
            obtain ⟨d1, d2, _⟩ := down _ (2 * p + 1) hr (by omega) (by omega) n2 nd2 nd1
            rw [d1, d2, tr_some (ga _ hc)]
      · have ke : kid lt v ns p = 2 * p + 1 := by unfold kid; rw [if_neg]; exact fun h => hr h.1
        rw [ke, tr_some (ga _ hc), tr_none (ns := ns) (p := 2 * p + 2) (by omega), sinkT]
        cases hv : lt (ns.getD (2 * p + 1) v) v with
        | true => rw [if_pos rfl, if_pos rfl, stop, tr_some (ga _ hc), tr_none (ns := ns) (p := 2 * p + 2) (by omega)]
        | false =>
          rw [if_neg (show ¬ (false = true) from Bool.false_ne_true), if_neg (show ¬ (false = true) from Bool.false_ne_true), fin _ (2 * p + 2) hc (by omega) (by omega) n1 nd1 nd2]
          obtain ⟨d1, d2, _⟩ := down _ (2 * p + 2) hc (by omega) (by omega) n1 nd1 nd2
          rw [d1, d2, tr_none (ns := ns) (p := 2 * p + 2) (by omega)]
    · rw [dif_neg hc, stop, tr_none (p := 2 * p + 1) (by omega), tr_none (p := 2 * p + 2) (by omega), sinkT]
/-- a tree that is a heap -/
def TH (lt : α → α → Bool) : Tr α → Prop
  | .nil => True
  | .node x l r => (∀ y, l.root = some y → lt x y = false) ∧ (∀ y, r.root = some y → lt x y = false) ∧ TH lt l ∧ TH lt r
theorem TH.at {ns : List α} {p : Nat} (h : TH lt (tr ns p)) : ∀ {q : Nat}, Desc p q → TH lt (tr ns q) := by
  intro q d
  induction d with
  | refl => exact h
  | left d ih =>
    rename_i q
    cases e : ns[q]? with
    | none => rw [tr_none (by have := List.getElem?_eq_none_iff.mp e; omega)]; trivial
    | some x => rw [tr_some e] at ih; exact ih.2.2.1
  | right d ih =>
    rename_i q
    cases e : ns[q]? with
    | none => rw [tr_none (by have := List.getElem?_eq_none_iff.mp e; omega)]; trivial
    | some x => rw [tr_some e] at ih; exact ih.2.2.2
theorem TH.hb {ns : List α} {p : Nat} (h1 : TH lt (tr ns (2 * p + 1))) (h2 : TH lt (tr ns (2 * p + 2))) : HB lt ns p := fun q c a b d n hc ea eb => by
  have hq : TH lt (tr ns q) := by
    rcases d.kids with e | e | e
    · exact absurd e n
    · exact h1.at e
    · exact h2.at e
  rw [tr_some ea] at hq
  rcases hc with rfl | rfl
  · exact hq.1 b (by rw [tr_root]; exact eb)
  · exact hq.2.1 b (by rw [tr_root]; exact eb)
theorem sinkT_root (v : α) (l r : Tr α) : (sinkT lt v l r).root = some v ∨ ((sinkT lt v l r).root = l.root) ∨ ((sinkT lt v l r).root = r.root) := by
  cases l with
  | nil => rw [sinkT]; exact .inl rfl
  | node a la ra =>
    cases r with
    | nil => rw [sinkT]; split
             · exact .inl rfl
             · exact .inr (.inl rfl)
    | node b lb rb =>
      rw [sinkT]; split
      · split
        · exact .inl rfl
        · exact .inr (.inl rfl)
      · split
        · exact .inl rfl
        · exact .inr (.inr rfl)
theorem sinkT_th (S : SW lt) (v : α) : ∀ (k : Nat) (l r : Tr α), l.sz + r.sz ≤ k → TH lt l → TH lt r → TH lt (sinkT lt v l r) := by
  intro k
  induction k with
  | zero =>
    intro l r h _ _
    cases l with
    | nil => rw [sinkT]; exact ⟨fun y h => (by cases h), fun y h => (by cases h), trivial, trivial⟩
    | node => simp [Tr.sz] at h
  | succ k ih =>
    intro l r h hl hr
    cases l with
    | nil => rw [sinkT]; exact ⟨fun y h => (by cases h), fun y h => (by cases h), trivial, trivial⟩
    | node a la ra =>
      simp only [Tr.sz] at h
      have up : ∀ y, lt a v = false → (sinkT lt v la ra).root = some y → lt a y = false := by
        intro y hv hy
        rcases sinkT_root (lt := lt) v la ra with e | e | e
        · rw [e] at hy; cases hy; exact hv
        · rw [e] at hy; exact hl.1 y hy
        · rw [e] at hy; exact hl.2.1 y hy
      cases r with
      | nil =>
        rw [sinkT]; split
        · rename_i hv; exact ⟨fun y hy => by cases hy; exact S.asym _ _ hv, fun y h => (by cases h), hl, trivial⟩
        · rename_i hv
          have hv : lt a v = false := by simpa using hv
          exact ⟨fun y hy => up y hv hy, fun y h => (by cases h), ih la ra (by omega) hl.2.2.1 hl.2.2.2, trivial⟩
      | node b lb rb =>
        simp only [Tr.sz] at h
        have upb : ∀ y, lt b v = false → (sinkT lt v lb rb).root = some y → lt b y = false := by
          intro y hv hy
          rcases sinkT_root (lt := lt) v lb rb with e | e | e
          · rw [e] at hy; cases hy; exact hv
          · rw [e] at hy; exact hr.1 y hy
          · rw [e] at hy; exact hr.2.1 y hy
        rw [sinkT]; split
        · rename_i hba
          split
          · rename_i hv
            refine ⟨fun y hy => by cases hy; exact S.asym _ _ hv, fun y hy => ?_, hl, hr⟩
            cases hy; exact S.le (S.asym _ _ hv) (S.asym _ _ hba)
          · rename_i hv
            have hv : lt a v = false := by simpa using hv
            exact ⟨fun y hy => up y hv hy, fun y hy => by cases hy; exact S.asym _ _ hba, ih la ra (by omega) hl.2.2.1 hl.2.2.2, hr⟩
        · rename_i hba
          have hba : lt b a = false := by simpa using hba
          split
          · rename_i hv
            refine ⟨fun y hy => ?_, fun y hy => by cases hy; exact S.asym _ _ hv, hl, hr⟩
            cases hy; exact S.le (S.asym _ _ hv) hba
          · rename_i hv
            have hv : lt b v = false := by simpa using hv
            exact ⟨fun y hy => by cases hy; exact hba, fun y hy => upb y hv hy, hl, ih lb rb (by omega) hr.2.2.1 hr.2.2.2⟩
theorem heapT_th (S : SW lt) : ∀ t : Tr α, TH lt (heapT lt t)
  | .nil => trivial
  | .node x l r => sinkT_th S x _ _ _ (Nat.le_refl _) (heapT_th S l) (heapT_th S r)
/-- one sift, as a tree -/
theorem sift_tr (S : SW lt) {ns : List α} {p : Nat} {x : α} (hx : ns[p]? = some x) (h1 : TH lt (tr ns (2 * p + 1))) (h2 : TH lt (tr ns (2 * p + 2))) :
    tr (siftAt lt ns p) p = sinkT lt x (tr ns (2 * p + 1)) (tr ns (2 * p + 2)) ∧ ∀ q, ¬ Desc p q → (siftAt lt ns p)[q]? = ns[q]? := by
  have hp := (List.getElem?_eq_some_iff.mp hx).1
  unfold siftAt
  rw [hx]
  dsimp only
  rw [sift_sink S.htr x ns p hp (TH.hb h1 h2)]
  exact ⟨sink_tr x _ ns p (Nat.le_refl _) hp, fun q d => sink_out x _ ns p q (Nat.le_refl _) d⟩
/-- places taken in an order in which each comes behind those below it -/
theorem fold_tr (S : SW lt) (items : List α) : ∀ (ord : List Nat) (done : List Nat) (m : List α), m.length = items.length → (∀ p, p ∈ done → p < items.length) →
    (∀ p, p < items.length → p ∉ done → m[p]? = items[p]?) → (∀ p, p ∈ done → (∀ a, Desc a p → a ≠ p → a ∉ done) → tr m p = heapT lt (tr items p)) →
    (∀ p, p ∈ done → ∀ q, Desc p q → q < items.length → q ∈ done) →
    (ord.Nodup) → (∀ p ∈ ord, p < items.length ∧ p ∉ done) → (∀ pre p post, ord = pre ++ p :: post → ∀ q, Desc p q → q ≠ p → q < items.length → q ∈ done ∨ q ∈ pre) →
    (∀ p, p < items.length → p ∈ done ∨ p ∈ ord) → 0 < items.length →
    tr (ord.foldl (siftAt lt) m) 0 = heapT lt (tr items 0) := by
  intro ord
  induction ord with
  | nil =>
    intro done m hl hd h1 h2 h3 _ _ _ hall h0
    have hz : 0 ∈ done := by
      rcases hall 0 h0 with h | h
      · exact h
      · cases h
    exact h2 0 hz fun a d n => absurd (by have := d.le; omega) n
  | cons p ord ih =>
    intro done m hl hd h1 h2 h3 hnd hp hord hall h0
    obtain ⟨pl, pn⟩ := hp p (.head _)
    have kids : ∀ q, Desc p q → q ≠ p → q < items.length → q ∈ done := fun q d n hq => by
      rcases hord [] p ord rfl q d n hq with h | h
      · exact h
      · cases h
    have anc : ∀ a, Desc a p → a ∉ done := fun a d hm => pn (h3 a hm p d pl)
    have kt : ∀ c, (c = 2 * p + 1 ∨ c = 2 * p + 2) → tr m c = heapT lt (tr items c) := by
      intro c hc
      have dc : Desc p c := by rcases hc with rfl | rfl; exact .left (.refl p); exact .right (.refl p)
      rcases Nat.lt_or_ge c items.length with h | h
      · refine h2 c (kids c dc (by rcases hc with rfl | rfl <;> omega) h) fun a d n => ?_
        refine anc a ?_
        have := d.up (fun e => n e.symm)
        have e2 : (c - 1) / 2 = p := by rcases hc with rfl | rfl <;> omega
        rw [e2] at this; exact this
      · rw [tr_none (by omega), tr_none h]; rfl
    have k1 := kt _ (.inl rfl)
    have k2 := kt _ (.inr rfl)
    have hx : m[p]? = some items[p] := by rw [h1 p pl pn]; exact List.getElem?_eq_getElem pl
    obtain ⟨s1, s2⟩ := sift_tr S hx (by rw [k1]; exact heapT_th S _) (by rw [k2]; exact heapT_th S _)
    have ht : heapT lt (tr items p) = sinkT lt items[p] (heapT lt (tr items (2 * p + 1))) (heapT lt (tr items (2 * p + 2))) := by
      rw [tr_some (List.getElem?_eq_getElem pl)]; rfl
    rw [List.foldl_cons]
    simp only [List.nodup_cons] at hnd
    refine ih (p :: done) (siftAt lt m p) (by rw [siftAt_length]; exact hl) ?_ ?_ ?_ ?_ hnd.2 ?_ ?_ ?_ h0
    · intro q hq
      rcases List.mem_cons.mp hq with rfl | hq
      · exact pl
      · exact hd q hq
    · intro q hq hn
      have hn1 : q ≠ p := fun e => hn (by rw [e]; exact .head _)
      have hn2 : q ∉ done := fun e => hn (.tail _ e)
      rw [s2 q (fun d => hn2 (kids q d hn1 hq))]
      exact h1 q hq hn2
    · intro q hq ha
      rcases List.mem_cons.mp hq with rfl | hq'
      · rw [s1, k1, k2, ht]
      · have hqp : ¬ Desc p q := fun d => by
          by_cases e : q = p
          · exact pn (e ▸ hq')
          · exact ha p d (Ne.symm e) (.head _)
        have : tr (siftAt lt m p) q = tr m q := tr_same _ _ (Nat.le_refl _) (siftAt_length m p) fun r d => s2 r fun d' => by
          rcases d.chain d' with e | e
          · exact anc q e hq'
          · exact hqp e
        rw [this]
        exact h2 q hq' fun a d n hm => ha a d n (.tail _ hm)
    · intro q hq r d hr
      rcases List.mem_cons.mp hq with rfl | hq
      · by_cases e : r = q
        · subst e; exact .head _
        · exact .tail _ (kids r d e hr)
      · exact .tail _ (h3 q hq r d hr)
    · intro q hq
      obtain ⟨a, b⟩ := hp q (.tail _ hq)
      refine ⟨a, fun hm => ?_⟩
      rcases List.mem_cons.mp hm with rfl | hm
      · exact hnd.1 hq
      · exact b hm
    · intro pre q post e r d n hr
      rcases hord (p :: pre) q post (by rw [e]; rfl) r d n hr with h | h
      · exact .inl (.tail _ h)
      · rcases List.mem_cons.mp h with rfl | h
        · exact .inl (.head _)
        · exact .inr h
    · intro q hq
      rcases hall q hq with h | h
      · exact .inl (.tail _ h)
      · rcases List.mem_cons.mp h with rfl | h
        · exact .inl (.head _)
        · exact .inr h
/-- heapify, as a tree -/
theorem heapify_tr (S : SW lt) (ns : List α) (h0 : 0 < ns.length) : tr (heapifyF lt ns) 0 = heapT lt (tr ns 0) := by
  unfold heapifyF
  refine fold_tr S ns _ ((List.range ns.length).filter fun p => decide (ns.length / 2 ≤ p)) ns rfl ?_ (fun _ _ _ => rfl) ?_ ?_ ?_ ?_ ?_ ?_ h0
  · intro p hp; simp at hp; exact hp.1
  · intro p hp _
    simp at hp
    rw [tr_some (List.getElem?_eq_getElem hp.1), tr_none (p := 2 * p + 1) (by omega), tr_none (p := 2 * p + 2) (by omega)]
    show _ = sinkT lt _ .nil .nil
    rw [sinkT]
  · intro p hp q d hq
    simp at hp ⊢
    have := d.le
    omega
  · exact (List.reverse_perm _).nodup_iff.mpr List.nodup_range
  · intro p hp
    simp at hp ⊢
    omega
  · intro pre p post e q d n hq
    by_cases hq2 : ns.length / 2 ≤ q
    · left; simp; omega
    · right
      have hqp : p < q := by have := d.le; omega
      have hmem : q ∈ (List.range (ns.length / 2)).reverse := by simp; omega
      rw [e] at hmem
      rcases List.mem_append.mp hmem with h | h
      · exact h
      · exfalso
        have hs : (List.range (ns.length / 2)).reverse.Pairwise (fun a b => b < a) := by
          rw [List.pairwise_reverse]; exact List.pairwise_lt_range
        rw [e] at hs
        have := (List.pairwise_append.mp hs).2.1
        rcases List.mem_cons.mp h with h | h
        · omega
        · have := (List.pairwise_cons.mp this).1 q h
          omega
  · intro p hp
    by_cases h : ns.length / 2 ≤ p
    · left; simp; omega
    · right; simp; omega
end

/-! R1 -/
theorem r_next (Q : V → Hp → Prop) (F : Frm) (σ : Hp) : retV Q .next F σ = Q .none σ := rfl
theorem r_ret (Q : V → Hp → Prop) (F : Frm) (σ : Hp) (v : V) : retV Q (.ret v) F σ = Q v σ := rfl
theorem big_of {n : Nat} (h : n ≤ 1000) : n ≤ BIG := by unfold BIG; omega
/-! rules for loops -/
def Ext (σ σ' : Hp) : Prop := ∀ a o, σ a = some o → σ' a = some o
theorem Ext.rfl {σ : Hp} : Ext σ σ := fun _ _ h => h
theorem Ext.trans {a b c : Hp} (h : Ext a b) (g : Ext b c) : Ext a c := fun x o e => g x o (h x o e)
theorem Ext.upd {σ : Hp} {a : Addr} (o : AObj) (h : σ a = none) : Ext σ (upd σ a o) := fun b p e => by
  unfold Mine.upd; split
  · rename_i q; subst q; rw [h] at e; cases e
  · exact e
theorem Ext.listAt {σ σ' : Hp} (h : Ext σ σ') {a : Addr} {xs : List V} (e : listAt σ a = some xs) : listAt σ' a = some xs := by
  unfold Mine.listAt at *
  split at e
  · rename_i q; rw [h _ _ q]; exact e
  · rename_i q; rw [h _ _ q]; exact e
  · cases e
theorem Ext.fresh {σ σ' : Hp} (h : Ext σ σ') {a : Addr} (e : σ' a = none) : σ a = none := by
  cases q : σ a with
  | none => rfl
  | some o => rw [h _ _ q] at e; cases e
/-- what an iterator gives, while the heap is in H -/
def Yields (H : Hp → Prop) : It → List V → Prop
  | I, [] => ∀ σ, H σ → itNext I σ = some none
  | I, x :: xs => ∃ I', (∀ σ, H σ → itNext I σ = some (some (x, I'))) ∧ Yields H I' xs
theorem yields_vals (H : Hp → Prop) : ∀ vs : List V, Yields H (.vals vs) vs
  | [] => fun _ _ => rfl
  | v :: vs => ⟨_, fun _ _ => rfl, yields_vals H vs⟩
theorem yields_rng (H : Hp → Prop) (c : Int) : ∀ (n : Nat) (x : Int), Yields H (.rng x n c) ((List.range n).map fun (i : Nat) => V.int (x + (i : Int) * c))
  | 0, x => fun _ _ => rfl
  | n + 1, x => by
    have := yields_rng H c n (x + c)
    rw [List.range_succ_eq_map, List.map_cons, List.map_map]
    have e : (fun (i : Nat) => V.int (x + (i : Int) * c)) ∘ Nat.succ = fun (i : Nat) => V.int (x + c + (i : Int) * c) := by
      funext i; simp only [Function.comp]; congr 1
      have : ((i.succ : Nat) : Int) = i + 1 := rfl
      rw [this, Int.add_mul]; omega
    rw [e]
    refine ⟨_, fun _ _ => ?_, this⟩
    simp [itNext]
theorem yields_lst {H : Hp → Prop} {a : Addr} {xs : List V} (h : ∀ σ, H σ → listAt σ a = some xs) : ∀ (k i : Nat), xs.length - i = k → Yields H (.lst a i) (xs.drop i) := by
  intro k
  induction k with
  | zero =>
    intro i hk
    rw [List.drop_eq_nil_of_le (by omega)]
    intro σ hs
    simp only [itNext, h σ hs]; rw [List.getElem?_eq_none (by omega)]
  | succ k ih =>
    intro i hk
    have hi : i < xs.length := by omega
    rw [List.drop_eq_getElem_cons hi]
    refine ⟨.lst a (i + 1), fun σ hs => ?_, ih (i + 1) (by omega)⟩
    simp only [itNext, h σ hs]; rw [List.getElem?_eq_getElem hi]
def enumV (xs : List V) : List V := (List.range xs.length).map fun (i : Nat) => .tup [.int (i : Nat), xs.getD i .none]
theorem yields_enm {H : Hp → Prop} {a : Addr} {xs : List V} (h : ∀ σ, H σ → listAt σ a = some xs) : ∀ (k i : Nat), xs.length - i = k → Yields H (.enm i a) ((enumV xs).drop i) := by
  have le : (enumV xs).length = xs.length := by simp [enumV]
  intro k
  induction k with
  | zero =>
    intro i hk
    rw [List.drop_eq_nil_of_le (by omega)]
    intro σ hs
    simp only [itNext, h σ hs]; rw [List.getElem?_eq_none (by omega)]
  | succ k ih =>
    intro i hk
    have hi : i < xs.length := by omega
    rw [List.drop_eq_getElem_cons (by omega)]
    refine ⟨.enm (i + 1) a, fun σ hs => ?_, ih (i + 1) (by omega)⟩
    simp only [itNext, h σ hs]; rw [List.getElem?_eq_getElem hi]; simp [enumV, List.getElem?_eq_getElem hi]
/-- a comprehension whose steps only add to the heap -/
theorem comp_rule {Φ : Fns} {ifs : List PE} {elt : PE} {t : Tgt} {F0 : Frm} {Q : V → Hp → Prop} {σ : Hp} {I : It} {xs : List V} (g : V → Option V) (hb : xs.length ≤ BIG) (hy : Yields (Ext σ) I xs)
    (step : ∀ x ∈ xs, ∀ σ', Ext σ σ' → ∀ (K : V → Hp → Prop) (N : Hp → Prop), (∀ y σ'', g x = some y → Ext σ' σ'' → K y σ'') → (g x = none → ∀ σ'', Ext σ' σ'' → N σ'') → bindT t x (fun F1 => vTs Φ ifs (fun b σ => if b then vE Φ elt K F1 σ else N σ) F1 σ') F0 σ')
    (q : ∀ σ', Ext σ σ' → ∀ a, σ' a = none → Q (.ref a) (upd σ' a (.list (xs.filterMap g)))) :
    CompG Φ ifs elt t F0 Q I σ := by
  refine ⟨fun n I acc τ => ∃ rest pre, rest.length = n ∧ xs = pre ++ rest ∧ Yields (Ext σ) I rest ∧ acc = pre.filterMap g ∧ Ext σ τ, ⟨_, xs, [], rfl, rfl, hy, rfl, .rfl⟩, ?_⟩
  rintro n I acc τ ⟨rest, pre, rfl, hx, hy, rfl, he⟩
  have la : (pre.filterMap g).length ≤ pre.length := List.length_filterMap_le ..
  cases rest with
  | nil =>
    rw [hy τ he]
    simp only [List.append_nil] at hx; subst hx
    exact ⟨Nat.le_trans la hb, q τ he⟩
  | cons x rest =>
    obtain ⟨I', e, hy'⟩ := hy
    rw [e τ he]
    have lx : pre.length + (rest.length + 1) ≤ BIG := by rw [hx] at hb; simpa using hb
    refine step x (by rw [hx]; simp) τ he _ _ (fun y τ' hg h => ⟨by omega, rest.length, by simp, rest, pre ++ [x], rfl, by rw [hx]; simp, hy', by simp [List.filterMap_append, hg], he.trans h⟩) (fun hg τ' h => ⟨rest.length, by simp, rest, pre ++ [x], rfl, by rw [hx]; simp, hy', by simp [List.filterMap_append, hg], he.trans h⟩)
/-- a loop over what is there -/
theorem for_rule {Φ : Fns} {b : List PS} {t : Tgt} {F : Frm} {Q : Fl → Frm → Hp → Prop} {σ : Hp} {I : It} {xs : List V} (J : Nat → Frm → Hp → Prop) (hy : Yields (fun τ => ∃ i F, J i F τ) I xs) (h0 : J 0 F σ)
    (step : ∀ i x F σ, xs[i]? = some x → J i F σ → ∀ K : Fl → Frm → Hp → Prop, (∀ F σ, J (i + 1) F σ → K .next F σ) → (∀ F σ, J (i + 1) F σ → K .cont F σ) → (∀ F σ, Q .next F σ → K .brk F σ) → (∀ v F σ, Q (.ret v) F σ → K (.ret v) F σ) → bindT t x (fun F1 => vSs Φ b K F1 σ) F σ)
    (fin : ∀ F σ, J xs.length F σ → Q .next F σ) :
    ForG Φ b t Q I F σ := by
  refine ⟨fun n I F τ => ∃ i, i + n = xs.length ∧ Yields (fun τ => ∃ i F, J i F τ) I (xs.drop i) ∧ J i F τ, ⟨xs.length, 0, by omega, by simpa using hy, h0⟩, ?_⟩
  rintro n I F τ ⟨i, hn, hy, hj⟩
  cases n with
  | zero =>
    rw [List.drop_eq_nil_of_le (by omega)] at hy
    rw [hy τ ⟨i, F, hj⟩]
    have : i = xs.length := by omega
    subst this; exact fin F τ hj
  | succ n =>
    have hi : i < xs.length := by omega
    rw [List.drop_eq_getElem_cons hi] at hy
    obtain ⟨I', e, hy'⟩ := hy
    rw [e τ ⟨i, F, hj⟩]
    exact step i _ F τ (List.getElem?_eq_getElem hi) hj _ (fun F' τ' h => ⟨n, by omega, i + 1, by omega, hy', h⟩) (fun F' τ' h => ⟨n, by omega, i + 1, by omega, hy', h⟩) (fun F' τ' h => h) (fun v F' τ' h => h)

/-! S1 -/
theorem while_rule {Φ : Fns} {c : PE} {b : List PS} {Q : Fl → Frm → Hp → Prop} {F : Frm} {σ : Hp} (Inv : Nat → Frm → Hp → Prop) (n : Nat) (h0 : Inv n F σ)
    (step : ∀ n F σ, Inv n F σ → ∀ K : Fl → Frm → Hp → Prop, (∀ m F σ, m < n → Inv m F σ → K .next F σ) → (∀ m F σ, m < n → Inv m F σ → K .cont F σ) → (∀ F σ, Q .next F σ → K .brk F σ) → (∀ v F σ, Q (.ret v) F σ → K (.ret v) F σ) →
      vT Φ c (fun t σ => if t then vSs Φ b K F σ else Q .next F σ) F σ) : WhileG Φ c b Q F σ :=
  ⟨Inv, ⟨n, h0⟩, fun n F σ h => step n F σ h _ (fun m F σ hm hi => ⟨m, hm, hi⟩) (fun m F σ hm hi => ⟨m, hm, hi⟩) (fun _ _ h => h) (fun _ _ _ h => h)⟩
theorem mul_l {x y : Int} (h : PySem.Builtin.Int.intBits x ≤ 64 := by decide) : IntMulOk x y := IntMulOk.of_left h
theorem lt_of_some {α : Type} {ns : List α} {p : Nat} {x : α} (hx : ns[p]? = some x) : p < ns.length := by
  rcases Nat.lt_or_ge p ns.length with h | h
  · exact h
  · rw [List.getElem?_eq_none h] at hx; cases hx
theorem map_at {α : Type} {f : α → V} {ns : List α} {k : Nat} (x : α) (h : k < ns.length) : (ns.map f)[k]? = some (f (ns.getD k x)) := by
  simp [List.getElem?_eq_getElem h]
theorem siftdown_v (Φ : Fns) (args : List V) (Q : V → Hp → Prop) (σ : Hp) (F : Frm) (h : siftdownC args Q σ) (hF : F = args.map some ++ [none, none, none]) : vSs Φ ps_siftdown (retV Q) F σ := by
  obtain ⟨α, f, lt, P, a, ns, s, p, x, rfl, hσ, hx, hP, hlt, q⟩ := h
  subst hF
  have hp : p < ns.length := lt_of_some hx
  have hx' : P x := hP _ (List.mem_of_getElem? hx)
  unfold ps_siftdown
  (rw [ss_cons]; ((try simp only [e_int, e_bool, e_none, e_str, e_var, e_bin, e_neg, n_int, e_not, e_cmp, e_and, e_or, e_ite, e_sub, e_slice, e_list, e_tuple, e_call, e_ucall, e_meth, e_comp, t_not, t_and, t_or, t_cmp, t_var, t_sub, t_call, t_ucall, s_expr, s_assign, s_setitem, s_aug, s_augi, s_ifs, s_while, s_for, s_ret, s_brk, s_cont, ss_nil, c_range1, c_range2, c_range3, i_rng, i_ref, i_tup, i_enm, i_rev, bt_name, bt_tup, look_zero, look_succ, r_next, r_ret, sa_nil, sa_cons, es_nil, es_cons, o_none, o_some, ts_nil, ts_cons, c_lt, c_le, c_gt, c_ge, c_eq, c_ne, b_add, b_sub, b_mul, b_div, b_mod, b_pow, b_shr, a_add, a_mul, t_bool, t_int, List.map, List.cons_append, List.nil_append, List.getElem?_cons_succ, List.getElem?_cons_zero, List.set_cons_succ, List.set_cons_zero, frOf]); (repeat (first | rw [q_next] | rw [q_ret] | rw [q_cont] | rw [q_brk] | rw [ss_nil])); (try simp only [r_next, r_ret])))
  refine opSub_list hσ (x := f x) (by rw [List.getElem?_map, hx]; rfl) ?_
  ((try simp only [e_int, e_bool, e_none, e_str, e_var, e_bin, e_neg, n_int, e_not, e_cmp, e_and, e_or, e_ite, e_sub, e_slice, e_list, e_tuple, e_call, e_ucall, e_meth, e_comp, t_not, t_and, t_or, t_cmp, t_var, t_sub, t_call, t_ucall, s_expr, s_assign, s_setitem, s_aug, s_augi, s_ifs, s_while, s_for, s_ret, s_brk, s_cont, ss_nil, c_range1, c_range2, c_range3, i_rng, i_ref, i_tup, i_enm, i_rev, bt_name, bt_tup, look_zero, look_succ, r_next, r_ret, sa_nil, sa_cons, es_nil, es_cons, o_none, o_some, ts_nil, ts_cons, c_lt, c_le, c_gt, c_ge, c_eq, c_ne, b_add, b_sub, b_mul, b_div, b_mod, b_pow, b_shr, a_add, a_mul, t_bool, t_int, List.map, List.cons_append, List.nil_append, List.getElem?_cons_succ, List.getElem?_cons_zero, List.set_cons_succ, List.set_cons_zero, frOf]); (repeat (first | rw [q_next] | rw [q_ret] | rw [q_cont] | rw [q_brk] | rw [ss_nil])); (try simp only [r_next, r_ret]))
  (rw [ss_cons]; ((try simp only [e_int, e_bool, e_none, e_str, e_var, e_bin, e_neg, n_int, e_not, e_cmp, e_and, e_or, e_ite, e_sub, e_slice, e_list, e_tuple, e_call, e_ucall, e_meth, e_comp, t_not, t_and, t_or, t_cmp, t_var, t_sub, t_call, t_ucall, s_expr, s_assign, s_setitem, s_aug, s_augi, s_ifs, s_while, s_for, s_ret, s_brk, s_cont, ss_nil, c_range1, c_range2, c_range3, i_rng, i_ref, i_tup, i_enm, i_rev, bt_name, bt_tup, look_zero, look_succ, r_next, r_ret, sa_nil, sa_cons, es_nil, es_cons, o_none, o_some, ts_nil, ts_cons, c_lt, c_le, c_gt, c_ge, c_eq, c_ne, b_add, b_sub, b_mul, b_div, b_mod, b_pow, b_shr, a_add, a_mul, t_bool, t_int, List.map, List.cons_append, List.nil_append, List.getElem?_cons_succ, List.getElem?_cons_zero, List.set_cons_succ, List.set_cons_zero, frOf]); (repeat (first | rw [q_next] | rw [q_ret] | rw [q_cont] | rw [q_brk] | rw [ss_nil])); (try simp only [r_next, r_ret])))
  refine while_rule (fun n F τ => ∃ ns' e4 e5, F = [some (.ref a), some (.int s), some (.int (n : Nat)), some (f x), e4, e5] ∧ τ = upd σ a (.list (ns'.map f)) ∧ ns'.length = ns.length ∧ n < ns.length ∧ (∀ y ∈ ns', P y) ∧ upF lt s x ns' n = upF lt s x ns p) p ⟨ns, none, none, rfl, (upd_id hσ).symm, rfl, hp, hP, rfl⟩ ?_
  rintro p' F τ ⟨ns', e4, e5, rfl, rfl, hl, hp', hP', eq⟩ K k1 k2 k3 k4
  ((try simp only [e_int, e_bool, e_none, e_str, e_var, e_bin, e_neg, n_int, e_not, e_cmp, e_and, e_or, e_ite, e_sub, e_slice, e_list, e_tuple, e_call, e_ucall, e_meth, e_comp, t_not, t_and, t_or, t_cmp, t_var, t_sub, t_call, t_ucall, s_expr, s_assign, s_setitem, s_aug, s_augi, s_ifs, s_while, s_for, s_ret, s_brk, s_cont, ss_nil, c_range1, c_range2, c_range3, i_rng, i_ref, i_tup, i_enm, i_rev, bt_name, bt_tup, look_zero, look_succ, r_next, r_ret, sa_nil, sa_cons, es_nil, es_cons, o_none, o_some, ts_nil, ts_cons, c_lt, c_le, c_gt, c_ge, c_eq, c_ne, b_add, b_sub, b_mul, b_div, b_mod, b_pow, b_shr, a_add, a_mul, t_bool, t_int, List.map, List.cons_append, List.nil_append, List.getElem?_cons_succ, List.getElem?_cons_zero, List.set_cons_succ, List.set_cons_zero, frOf]); (repeat (first | rw [q_next] | rw [q_ret] | rw [q_cont] | rw [q_brk] | rw [ss_nil])); (try simp only [r_next, r_ret]))
  have fin : upF lt s x ns' p' = ns'.set p' x → vSs Φ [.setitem (.var 0) (.var 2) (.var 3)] (retV Q) [some (.ref a), some (.int s), some (.int (p' : Nat)), some (f x), e4, e5] (upd σ a (.list (ns'.map f))) := fun e => by
    (rw [ss_cons]; ((try simp only [e_int, e_bool, e_none, e_str, e_var, e_bin, e_neg, n_int, e_not, e_cmp, e_and, e_or, e_ite, e_sub, e_slice, e_list, e_tuple, e_call, e_ucall, e_meth, e_comp, t_not, t_and, t_or, t_cmp, t_var, t_sub, t_call, t_ucall, s_expr, s_assign, s_setitem, s_aug, s_augi, s_ifs, s_while, s_for, s_ret, s_brk, s_cont, ss_nil, c_range1, c_range2, c_range3, i_rng, i_ref, i_tup, i_enm, i_rev, bt_name, bt_tup, look_zero, look_succ, r_next, r_ret, sa_nil, sa_cons, es_nil, es_cons, o_none, o_some, ts_nil, ts_cons, c_lt, c_le, c_gt, c_ge, c_eq, c_ne, b_add, b_sub, b_mul, b_div, b_mod, b_pow, b_shr, a_add, a_mul, t_bool, t_int, List.map, List.cons_append, List.nil_append, List.getElem?_cons_succ, List.getElem?_cons_zero, List.set_cons_succ, List.set_cons_zero, frOf]); (repeat (first | rw [q_next] | rw [q_ret] | rw [q_cont] | rw [q_brk] | rw [ss_nil])); (try simp only [r_next, r_ret])))
    refine opSet_list (upd_same _ _ _) (by rw [List.length_map]; omega) ?_
    rw [upd_upd]
    ((try simp only [e_int, e_bool, e_none, e_str, e_var, e_bin, e_neg, n_int, e_not, e_cmp, e_and, e_or, e_ite, e_sub, e_slice, e_list, e_tuple, e_call, e_ucall, e_meth, e_comp, t_not, t_and, t_or, t_cmp, t_var, t_sub, t_call, t_ucall, s_expr, s_assign, s_setitem, s_aug, s_augi, s_ifs, s_while, s_for, s_ret, s_brk, s_cont, ss_nil, c_range1, c_range2, c_range3, i_rng, i_ref, i_tup, i_enm, i_rev, bt_name, bt_tup, look_zero, look_succ, r_next, r_ret, sa_nil, sa_cons, es_nil, es_cons, o_none, o_some, ts_nil, ts_cons, c_lt, c_le, c_gt, c_ge, c_eq, c_ne, b_add, b_sub, b_mul, b_div, b_mod, b_pow, b_shr, a_add, a_mul, t_bool, t_int, List.map, List.cons_append, List.nil_append, List.getElem?_cons_succ, List.getElem?_cons_zero, List.set_cons_succ, List.set_cons_zero, frOf]); (repeat (first | rw [q_next] | rw [q_ret] | rw [q_cont] | rw [q_brk] | rw [ss_nil])); (try simp only [r_next, r_ret]))
    rw [← eq, e] at q
    rw [← List.map_set]; exact q
  by_cases hgt : s < p'
  · rw [decide_eq_true (by omega), if_pos rfl]
    (rw [ss_cons]; ((try simp only [e_int, e_bool, e_none, e_str, e_var, e_bin, e_neg, n_int, e_not, e_cmp, e_and, e_or, e_ite, e_sub, e_slice, e_list, e_tuple, e_call, e_ucall, e_meth, e_comp, t_not, t_and, t_or, t_cmp, t_var, t_sub, t_call, t_ucall, s_expr, s_assign, s_setitem, s_aug, s_augi, s_ifs, s_while, s_for, s_ret, s_brk, s_cont, ss_nil, c_range1, c_range2, c_range3, i_rng, i_ref, i_tup, i_enm, i_rev, bt_name, bt_tup, look_zero, look_succ, r_next, r_ret, sa_nil, sa_cons, es_nil, es_cons, o_none, o_some, ts_nil, ts_cons, c_lt, c_le, c_gt, c_ge, c_eq, c_ne, b_add, b_sub, b_mul, b_div, b_mod, b_pow, b_shr, a_add, a_mul, t_bool, t_int, List.map, List.cons_append, List.nil_append, List.getElem?_cons_succ, List.getElem?_cons_zero, List.set_cons_succ, List.set_cons_zero, frOf]); (repeat (first | rw [q_next] | rw [q_ret] | rw [q_cont] | rw [q_brk] | rw [ss_nil])); (try simp only [r_next, r_ret])))
    refine ⟨by omega, trivial, ?_⟩
    have e1 : ((p' : Int) - 1) / 2 = ((p' - 1) / 2 : Nat) := by omega
    rw [e1]
    have hq : (p' - 1) / 2 < ns'.length := by omega
    (rw [ss_cons]; ((try simp only [e_int, e_bool, e_none, e_str, e_var, e_bin, e_neg, n_int, e_not, e_cmp, e_and, e_or, e_ite, e_sub, e_slice, e_list, e_tuple, e_call, e_ucall, e_meth, e_comp, t_not, t_and, t_or, t_cmp, t_var, t_sub, t_call, t_ucall, s_expr, s_assign, s_setitem, s_aug, s_augi, s_ifs, s_while, s_for, s_ret, s_brk, s_cont, ss_nil, c_range1, c_range2, c_range3, i_rng, i_ref, i_tup, i_enm, i_rev, bt_name, bt_tup, look_zero, look_succ, r_next, r_ret, sa_nil, sa_cons, es_nil, es_cons, o_none, o_some, ts_nil, ts_cons, c_lt, c_le, c_gt, c_ge, c_eq, c_ne, b_add, b_sub, b_mul, b_div, b_mod, b_pow, b_shr, a_add, a_mul, t_bool, t_int, List.map, List.cons_append, List.nil_append, List.getElem?_cons_succ, List.getElem?_cons_zero, List.set_cons_succ, List.set_cons_zero, frOf]); (repeat (first | rw [q_next] | rw [q_ret] | rw [q_cont] | rw [q_brk] | rw [ss_nil])); (try simp only [r_next, r_ret])))
    refine opSub_list (upd_same _ _ _) (map_at x hq) ?_
    ((try simp only [e_int, e_bool, e_none, e_str, e_var, e_bin, e_neg, n_int, e_not, e_cmp, e_and, e_or, e_ite, e_sub, e_slice, e_list, e_tuple, e_call, e_ucall, e_meth, e_comp, t_not, t_and, t_or, t_cmp, t_var, t_sub, t_call, t_ucall, s_expr, s_assign, s_setitem, s_aug, s_augi, s_ifs, s_while, s_for, s_ret, s_brk, s_cont, ss_nil, c_range1, c_range2, c_range3, i_rng, i_ref, i_tup, i_enm, i_rev, bt_name, bt_tup, look_zero, look_succ, r_next, r_ret, sa_nil, sa_cons, es_nil, es_cons, o_none, o_some, ts_nil, ts_cons, c_lt, c_le, c_gt, c_ge, c_eq, c_ne, b_add, b_sub, b_mul, b_div, b_mod, b_pow, b_shr, a_add, a_mul, t_bool, t_int, List.map, List.cons_append, List.nil_append, List.getElem?_cons_succ, List.getElem?_cons_zero, List.set_cons_succ, List.set_cons_zero, frOf]); (repeat (first | rw [q_next] | rw [q_ret] | rw [q_cont] | rw [q_brk] | rw [ss_nil])); (try simp only [r_next, r_ret]))
    have hm : ns'.getD ((p' - 1) / 2) x ∈ ns' := getD_mem hq
    (rw [ss_cons]; ((try simp only [e_int, e_bool, e_none, e_str, e_var, e_bin, e_neg, n_int, e_not, e_cmp, e_and, e_or, e_ite, e_sub, e_slice, e_list, e_tuple, e_call, e_ucall, e_meth, e_comp, t_not, t_and, t_or, t_cmp, t_var, t_sub, t_call, t_ucall, s_expr, s_assign, s_setitem, s_aug, s_augi, s_ifs, s_while, s_for, s_ret, s_brk, s_cont, ss_nil, c_range1, c_range2, c_range3, i_rng, i_ref, i_tup, i_enm, i_rev, bt_name, bt_tup, look_zero, look_succ, r_next, r_ret, sa_nil, sa_cons, es_nil, es_cons, o_none, o_some, ts_nil, ts_cons, c_lt, c_le, c_gt, c_ge, c_eq, c_ne, b_add, b_sub, b_mul, b_div, b_mod, b_pow, b_shr, a_add, a_mul, t_bool, t_int, List.map, List.cons_append, List.nil_append, List.getElem?_cons_succ, List.getElem?_cons_zero, List.set_cons_succ, List.set_cons_zero, frOf]); (repeat (first | rw [q_next] | rw [q_ret] | rw [q_cont] | rw [q_brk] | rw [ss_nil])); (try simp only [r_next, r_ret])))
    refine hlt _ _ (hP' _ hm) hx' _ _ ?_
    ((try simp only [e_int, e_bool, e_none, e_str, e_var, e_bin, e_neg, n_int, e_not, e_cmp, e_and, e_or, e_ite, e_sub, e_slice, e_list, e_tuple, e_call, e_ucall, e_meth, e_comp, t_not, t_and, t_or, t_cmp, t_var, t_sub, t_call, t_ucall, s_expr, s_assign, s_setitem, s_aug, s_augi, s_ifs, s_while, s_for, s_ret, s_brk, s_cont, ss_nil, c_range1, c_range2, c_range3, i_rng, i_ref, i_tup, i_enm, i_rev, bt_name, bt_tup, look_zero, look_succ, r_next, r_ret, sa_nil, sa_cons, es_nil, es_cons, o_none, o_some, ts_nil, ts_cons, c_lt, c_le, c_gt, c_ge, c_eq, c_ne, b_add, b_sub, b_mul, b_div, b_mod, b_pow, b_shr, a_add, a_mul, t_bool, t_int, List.map, List.cons_append, List.nil_append, List.getElem?_cons_succ, List.getElem?_cons_zero, List.set_cons_succ, List.set_cons_zero, frOf]); (repeat (first | rw [q_next] | rw [q_ret] | rw [q_cont] | rw [q_brk] | rw [ss_nil])); (try simp only [r_next, r_ret]))
    by_cases c : lt (ns'.getD ((p' - 1) / 2) x) x = true
    · rw [c, if_pos rfl]
      (rw [ss_cons]; ((try simp only [e_int, e_bool, e_none, e_str, e_var, e_bin, e_neg, n_int, e_not, e_cmp, e_and, e_or, e_ite, e_sub, e_slice, e_list, e_tuple, e_call, e_ucall, e_meth, e_comp, t_not, t_and, t_or, t_cmp, t_var, t_sub, t_call, t_ucall, s_expr, s_assign, s_setitem, s_aug, s_augi, s_ifs, s_while, s_for, s_ret, s_brk, s_cont, ss_nil, c_range1, c_range2, c_range3, i_rng, i_ref, i_tup, i_enm, i_rev, bt_name, bt_tup, look_zero, look_succ, r_next, r_ret, sa_nil, sa_cons, es_nil, es_cons, o_none, o_some, ts_nil, ts_cons, c_lt, c_le, c_gt, c_ge, c_eq, c_ne, b_add, b_sub, b_mul, b_div, b_mod, b_pow, b_shr, a_add, a_mul, t_bool, t_int, List.map, List.cons_append, List.nil_append, List.getElem?_cons_succ, List.getElem?_cons_zero, List.set_cons_succ, List.set_cons_zero, frOf]); (repeat (first | rw [q_next] | rw [q_ret] | rw [q_cont] | rw [q_brk] | rw [ss_nil])); (try simp only [r_next, r_ret])))
      refine opSet_list (upd_same _ _ _) (by rw [List.length_map]; omega) ?_
      rw [upd_upd]
      ((try simp only [e_int, e_bool, e_none, e_str, e_var, e_bin, e_neg, n_int, e_not, e_cmp, e_and, e_or, e_ite, e_sub, e_slice, e_list, e_tuple, e_call, e_ucall, e_meth, e_comp, t_not, t_and, t_or, t_cmp, t_var, t_sub, t_call, t_ucall, s_expr, s_assign, s_setitem, s_aug, s_augi, s_ifs, s_while, s_for, s_ret, s_brk, s_cont, ss_nil, c_range1, c_range2, c_range3, i_rng, i_ref, i_tup, i_enm, i_rev, bt_name, bt_tup, look_zero, look_succ, r_next, r_ret, sa_nil, sa_cons, es_nil, es_cons, o_none, o_some, ts_nil, ts_cons, c_lt, c_le, c_gt, c_ge, c_eq, c_ne, b_add, b_sub, b_mul, b_div, b_mod, b_pow, b_shr, a_add, a_mul, t_bool, t_int, List.map, List.cons_append, List.nil_append, List.getElem?_cons_succ, List.getElem?_cons_zero, List.set_cons_succ, List.set_cons_zero, frOf]); (repeat (first | rw [q_next] | rw [q_ret] | rw [q_cont] | rw [q_brk] | rw [ss_nil])); (try simp only [r_next, r_ret]))
      (rw [ss_cons]; ((try simp only [e_int, e_bool, e_none, e_str, e_var, e_bin, e_neg, n_int, e_not, e_cmp, e_and, e_or, e_ite, e_sub, e_slice, e_list, e_tuple, e_call, e_ucall, e_meth, e_comp, t_not, t_and, t_or, t_cmp, t_var, t_sub, t_call, t_ucall, s_expr, s_assign, s_setitem, s_aug, s_augi, s_ifs, s_while, s_for, s_ret, s_brk, s_cont, ss_nil, c_range1, c_range2, c_range3, i_rng, i_ref, i_tup, i_enm, i_rev, bt_name, bt_tup, look_zero, look_succ, r_next, r_ret, sa_nil, sa_cons, es_nil, es_cons, o_none, o_some, ts_nil, ts_cons, c_lt, c_le, c_gt, c_ge, c_eq, c_ne, b_add, b_sub, b_mul, b_div, b_mod, b_pow, b_shr, a_add, a_mul, t_bool, t_int, List.map, List.cons_append, List.nil_append, List.getElem?_cons_succ, List.getElem?_cons_zero, List.set_cons_succ, List.set_cons_zero, frOf]); (repeat (first | rw [q_next] | rw [q_ret] | rw [q_cont] | rw [q_brk] | rw [ss_nil])); (try simp only [r_next, r_ret])))
      (rw [ss_cons]; ((try simp only [e_int, e_bool, e_none, e_str, e_var, e_bin, e_neg, n_int, e_not, e_cmp, e_and, e_or, e_ite, e_sub, e_slice, e_list, e_tuple, e_call, e_ucall, e_meth, e_comp, t_not, t_and, t_or, t_cmp, t_var, t_sub, t_call, t_ucall, s_expr, s_assign, s_setitem, s_aug, s_augi, s_ifs, s_while, s_for, s_ret, s_brk, s_cont, ss_nil, c_range1, c_range2, c_range3, i_rng, i_ref, i_tup, i_enm, i_rev, bt_name, bt_tup, look_zero, look_succ, r_next, r_ret, sa_nil, sa_cons, es_nil, es_cons, o_none, o_some, ts_nil, ts_cons, c_lt, c_le, c_gt, c_ge, c_eq, c_ne, b_add, b_sub, b_mul, b_div, b_mod, b_pow, b_shr, a_add, a_mul, t_bool, t_int, List.map, List.cons_append, List.nil_append, List.getElem?_cons_succ, List.getElem?_cons_zero, List.set_cons_succ, List.set_cons_zero, frOf]); (repeat (first | rw [q_next] | rw [q_ret] | rw [q_cont] | rw [q_brk] | rw [ss_nil])); (try simp only [r_next, r_ret])))
      refine k2 ((p' - 1) / 2) _ _ (by omega) ⟨ns'.set p' (ns'.getD ((p' - 1) / 2) x), _, _, rfl, by rw [List.map_set], by rw [List.length_set, hl], by omega, ?_, ?_⟩
      · intro y hy
        rcases mem_set hy with h | rfl
        · exact hP' _ h
        · exact hP' _ hm
      · rw [← eq, upF.eq_def lt s x ns' p', dif_pos hgt, if_pos c]
    · rw [Bool.eq_false_iff.mpr c, if_neg (by decide)]
      ((try simp only [e_int, e_bool, e_none, e_str, e_var, e_bin, e_neg, n_int, e_not, e_cmp, e_and, e_or, e_ite, e_sub, e_slice, e_list, e_tuple, e_call, e_ucall, e_meth, e_comp, t_not, t_and, t_or, t_cmp, t_var, t_sub, t_call, t_ucall, s_expr, s_assign, s_setitem, s_aug, s_augi, s_ifs, s_while, s_for, s_ret, s_brk, s_cont, ss_nil, c_range1, c_range2, c_range3, i_rng, i_ref, i_tup, i_enm, i_rev, bt_name, bt_tup, look_zero, look_succ, r_next, r_ret, sa_nil, sa_cons, es_nil, es_cons, o_none, o_some, ts_nil, ts_cons, c_lt, c_le, c_gt, c_ge, c_eq, c_ne, b_add, b_sub, b_mul, b_div, b_mod, b_pow, b_shr, a_add, a_mul, t_bool, t_int, List.map, List.cons_append, List.nil_append, List.getElem?_cons_succ, List.getElem?_cons_zero, List.set_cons_succ, List.set_cons_zero, frOf]); (repeat (first | rw [q_next] | rw [q_ret] | rw [q_cont] | rw [q_brk] | rw [ss_nil])); (try simp only [r_next, r_ret]))
      (rw [ss_cons]; ((try simp only [e_int, e_bool, e_none, e_str, e_var, e_bin, e_neg, n_int, e_not, e_cmp, e_and, e_or, e_ite, e_sub, e_slice, e_list, e_tuple, e_call, e_ucall, e_meth, e_comp, t_not, t_and, t_or, t_cmp, t_var, t_sub, t_call, t_ucall, s_expr, s_assign, s_setitem, s_aug, s_augi, s_ifs, s_while, s_for, s_ret, s_brk, s_cont, ss_nil, c_range1, c_range2, c_range3, i_rng, i_ref, i_tup, i_enm, i_rev, bt_name, bt_tup, look_zero, look_succ, r_next, r_ret, sa_nil, sa_cons, es_nil, es_cons, o_none, o_some, ts_nil, ts_cons, c_lt, c_le, c_gt, c_ge, c_eq, c_ne, b_add, b_sub, b_mul, b_div, b_mod, b_pow, b_shr, a_add, a_mul, t_bool, t_int, List.map, List.cons_append, List.nil_append, List.getElem?_cons_succ, List.getElem?_cons_zero, List.set_cons_succ, List.set_cons_zero, frOf]); (repeat (first | rw [q_next] | rw [q_ret] | rw [q_cont] | rw [q_brk] | rw [ss_nil])); (try simp only [r_next, r_ret])))
      refine k3 _ _ ?_
      ((try simp only [e_int, e_bool, e_none, e_str, e_var, e_bin, e_neg, n_int, e_not, e_cmp, e_and, e_or, e_ite, e_sub, e_slice, e_list, e_tuple, e_call, e_ucall, e_meth, e_comp, t_not, t_and, t_or, t_cmp, t_var, t_sub, t_call, t_ucall, s_expr, s_assign, s_setitem, s_aug, s_augi, s_ifs, s_while, s_for, s_ret, s_brk, s_cont, ss_nil, c_range1, c_range2, c_range3, i_rng, i_ref, i_tup, i_enm, i_rev, bt_name, bt_tup, look_zero, look_succ, r_next, r_ret, sa_nil, sa_cons, es_nil, es_cons, o_none, o_some, ts_nil, ts_cons, c_lt, c_le, c_gt, c_ge, c_eq, c_ne, b_add, b_sub, b_mul, b_div, b_mod, b_pow, b_shr, a_add, a_mul, t_bool, t_int, List.map, List.cons_append, List.nil_append, List.getElem?_cons_succ, List.getElem?_cons_zero, List.set_cons_succ, List.set_cons_zero, frOf]); (repeat (first | rw [q_next] | rw [q_ret] | rw [q_cont] | rw [q_brk] | rw [ss_nil])); (try simp only [r_next, r_ret]))
      rw [upF, dif_pos hgt, if_neg c] at fin
      (rw [ss_cons]; ((try simp only [e_int, e_bool, e_none, e_str, e_var, e_bin, e_neg, n_int, e_not, e_cmp, e_and, e_or, e_ite, e_sub, e_slice, e_list, e_tuple, e_call, e_ucall, e_meth, e_comp, t_not, t_and, t_or, t_cmp, t_var, t_sub, t_call, t_ucall, s_expr, s_assign, s_setitem, s_aug, s_augi, s_ifs, s_while, s_for, s_ret, s_brk, s_cont, ss_nil, c_range1, c_range2, c_range3, i_rng, i_ref, i_tup, i_enm, i_rev, bt_name, bt_tup, look_zero, look_succ, r_next, r_ret, sa_nil, sa_cons, es_nil, es_cons, o_none, o_some, ts_nil, ts_cons, c_lt, c_le, c_gt, c_ge, c_eq, c_ne, b_add, b_sub, b_mul, b_div, b_mod, b_pow, b_shr, a_add, a_mul, t_bool, t_int, List.map, List.cons_append, List.nil_append, List.getElem?_cons_succ, List.getElem?_cons_zero, List.set_cons_succ, List.set_cons_zero, frOf]); (repeat (first | rw [q_next] | rw [q_ret] | rw [q_cont] | rw [q_brk] | rw [ss_nil])); (try simp only [r_next, r_ret])))
      refine opSet_list (upd_same _ _ _) (by rw [List.length_map]; omega) ?_
      rw [upd_upd]
      ((try simp only [e_int, e_bool, e_none, e_str, e_var, e_bin, e_neg, n_int, e_not, e_cmp, e_and, e_or, e_ite, e_sub, e_slice, e_list, e_tuple, e_call, e_ucall, e_meth, e_comp, t_not, t_and, t_or, t_cmp, t_var, t_sub, t_call, t_ucall, s_expr, s_assign, s_setitem, s_aug, s_augi, s_ifs, s_while, s_for, s_ret, s_brk, s_cont, ss_nil, c_range1, c_range2, c_range3, i_rng, i_ref, i_tup, i_enm, i_rev, bt_name, bt_tup, look_zero, look_succ, r_next, r_ret, sa_nil, sa_cons, es_nil, es_cons, o_none, o_some, ts_nil, ts_cons, c_lt, c_le, c_gt, c_ge, c_eq, c_ne, b_add, b_sub, b_mul, b_div, b_mod, b_pow, b_shr, a_add, a_mul, t_bool, t_int, List.map, List.cons_append, List.nil_append, List.getElem?_cons_succ, List.getElem?_cons_zero, List.set_cons_succ, List.set_cons_zero, frOf]); (repeat (first | rw [q_next] | rw [q_ret] | rw [q_cont] | rw [q_brk] | rw [ss_nil])); (try simp only [r_next, r_ret]))
      rw [← eq, upF, dif_pos hgt, if_neg c] at q
      rw [← List.map_set]; exact q
  · rw [decide_eq_false (by omega), if_neg (by decide)]
    ((try simp only [e_int, e_bool, e_none, e_str, e_var, e_bin, e_neg, n_int, e_not, e_cmp, e_and, e_or, e_ite, e_sub, e_slice, e_list, e_tuple, e_call, e_ucall, e_meth, e_comp, t_not, t_and, t_or, t_cmp, t_var, t_sub, t_call, t_ucall, s_expr, s_assign, s_setitem, s_aug, s_augi, s_ifs, s_while, s_for, s_ret, s_brk, s_cont, ss_nil, c_range1, c_range2, c_range3, i_rng, i_ref, i_tup, i_enm, i_rev, bt_name, bt_tup, look_zero, look_succ, r_next, r_ret, sa_nil, sa_cons, es_nil, es_cons, o_none, o_some, ts_nil, ts_cons, c_lt, c_le, c_gt, c_ge, c_eq, c_ne, b_add, b_sub, b_mul, b_div, b_mod, b_pow, b_shr, a_add, a_mul, t_bool, t_int, List.map, List.cons_append, List.nil_append, List.getElem?_cons_succ, List.getElem?_cons_zero, List.set_cons_succ, List.set_cons_zero, frOf]); (repeat (first | rw [q_next] | rw [q_ret] | rw [q_cont] | rw [q_brk] | rw [ss_nil])); (try simp only [r_next, r_ret]))
    exact fin (by rw [upF, dif_neg hgt])
theorem siftup_v (Φ : Fns) (i : Nat) (hΦ : ∀ args Q σ, siftdownC args Q σ → Φ i args Q σ) (args : List V) (Q : V → Hp → Prop) (σ : Hp) (F : Frm) (h : siftupC args Q σ) (hF : F = args.map some ++ [none, none, none, none, none]) : vSs Φ (ps_siftup i) (retV Q) F σ := by
  obtain ⟨α, f, lt, P, a, ns, p, x, rfl, hσ, hx, hP, hlt, hbig, q⟩ := h
  subst hF
  have hp : p < ns.length := lt_of_some hx
  have hx' : P x := hP _ (List.mem_of_getElem? hx)
  unfold ps_siftup
  (rw [ss_cons]; ((try simp only [e_int, e_bool, e_none, e_str, e_var, e_bin, e_neg, n_int, e_not, e_cmp, e_and, e_or, e_ite, e_sub, e_slice, e_list, e_tuple, e_call, e_ucall, e_meth, e_comp, t_not, t_and, t_or, t_cmp, t_var, t_sub, t_call, t_ucall, s_expr, s_assign, s_setitem, s_aug, s_augi, s_ifs, s_while, s_for, s_ret, s_brk, s_cont, ss_nil, c_range1, c_range2, c_range3, i_rng, i_ref, i_tup, i_enm, i_rev, bt_name, bt_tup, look_zero, look_succ, r_next, r_ret, sa_nil, sa_cons, es_nil, es_cons, o_none, o_some, ts_nil, ts_cons, c_lt, c_le, c_gt, c_ge, c_eq, c_ne, b_add, b_sub, b_mul, b_div, b_mod, b_pow, b_shr, a_add, a_mul, t_bool, t_int, List.map, List.cons_append, List.nil_append, List.getElem?_cons_succ, List.getElem?_cons_zero, List.set_cons_succ, List.set_cons_zero, frOf]); (repeat (first | rw [q_next] | rw [q_ret] | rw [q_cont] | rw [q_brk] | rw [ss_nil])); (try simp only [r_next, r_ret])))
  refine call_len (listAt_list hσ) ?_
  rw [List.length_map]
  ((try simp only [e_int, e_bool, e_none, e_str, e_var, e_bin, e_neg, n_int, e_not, e_cmp, e_and, e_or, e_ite, e_sub, e_slice, e_list, e_tuple, e_call, e_ucall, e_meth, e_comp, t_not, t_and, t_or, t_cmp, t_var, t_sub, t_call, t_ucall, s_expr, s_assign, s_setitem, s_aug, s_augi, s_ifs, s_while, s_for, s_ret, s_brk, s_cont, ss_nil, c_range1, c_range2, c_range3, i_rng, i_ref, i_tup, i_enm, i_rev, bt_name, bt_tup, look_zero, look_succ, r_next, r_ret, sa_nil, sa_cons, es_nil, es_cons, o_none, o_some, ts_nil, ts_cons, c_lt, c_le, c_gt, c_ge, c_eq, c_ne, b_add, b_sub, b_mul, b_div, b_mod, b_pow, b_shr, a_add, a_mul, t_bool, t_int, List.map, List.cons_append, List.nil_append, List.getElem?_cons_succ, List.getElem?_cons_zero, List.set_cons_succ, List.set_cons_zero, frOf]); (repeat (first | rw [q_next] | rw [q_ret] | rw [q_cont] | rw [q_brk] | rw [ss_nil])); (try simp only [r_next, r_ret]))
  (rw [ss_cons]; ((try simp only [e_int, e_bool, e_none, e_str, e_var, e_bin, e_neg, n_int, e_not, e_cmp, e_and, e_or, e_ite, e_sub, e_slice, e_list, e_tuple, e_call, e_ucall, e_meth, e_comp, t_not, t_and, t_or, t_cmp, t_var, t_sub, t_call, t_ucall, s_expr, s_assign, s_setitem, s_aug, s_augi, s_ifs, s_while, s_for, s_ret, s_brk, s_cont, ss_nil, c_range1, c_range2, c_range3, i_rng, i_ref, i_tup, i_enm, i_rev, bt_name, bt_tup, look_zero, look_succ, r_next, r_ret, sa_nil, sa_cons, es_nil, es_cons, o_none, o_some, ts_nil, ts_cons, c_lt, c_le, c_gt, c_ge, c_eq, c_ne, b_add, b_sub, b_mul, b_div, b_mod, b_pow, b_shr, a_add, a_mul, t_bool, t_int, List.map, List.cons_append, List.nil_append, List.getElem?_cons_succ, List.getElem?_cons_zero, List.set_cons_succ, List.set_cons_zero, frOf]); (repeat (first | rw [q_next] | rw [q_ret] | rw [q_cont] | rw [q_brk] | rw [ss_nil])); (try simp only [r_next, r_ret])))
  (rw [ss_cons]; ((try simp only [e_int, e_bool, e_none, e_str, e_var, e_bin, e_neg, n_int, e_not, e_cmp, e_and, e_or, e_ite, e_sub, e_slice, e_list, e_tuple, e_call, e_ucall, e_meth, e_comp, t_not, t_and, t_or, t_cmp, t_var, t_sub, t_call, t_ucall, s_expr, s_assign, s_setitem, s_aug, s_augi, s_ifs, s_while, s_for, s_ret, s_brk, s_cont, ss_nil, c_range1, c_range2, c_range3, i_rng, i_ref, i_tup, i_enm, i_rev, bt_name, bt_tup, look_zero, look_succ, r_next, r_ret, sa_nil, sa_cons, es_nil, es_cons, o_none, o_some, ts_nil, ts_cons, c_lt, c_le, c_gt, c_ge, c_eq, c_ne, b_add, b_sub, b_mul, b_div, b_mod, b_pow, b_shr, a_add, a_mul, t_bool, t_int, List.map, List.cons_append, List.nil_append, List.getElem?_cons_succ, List.getElem?_cons_zero, List.set_cons_succ, List.set_cons_zero, frOf]); (repeat (first | rw [q_next] | rw [q_ret] | rw [q_cont] | rw [q_brk] | rw [ss_nil])); (try simp only [r_next, r_ret])))
  refine opSub_list hσ (x := f x) (by rw [List.getElem?_map, hx]; rfl) ?_
  ((try simp only [e_int, e_bool, e_none, e_str, e_var, e_bin, e_neg, n_int, e_not, e_cmp, e_and, e_or, e_ite, e_sub, e_slice, e_list, e_tuple, e_call, e_ucall, e_meth, e_comp, t_not, t_and, t_or, t_cmp, t_var, t_sub, t_call, t_ucall, s_expr, s_assign, s_setitem, s_aug, s_augi, s_ifs, s_while, s_for, s_ret, s_brk, s_cont, ss_nil, c_range1, c_range2, c_range3, i_rng, i_ref, i_tup, i_enm, i_rev, bt_name, bt_tup, look_zero, look_succ, r_next, r_ret, sa_nil, sa_cons, es_nil, es_cons, o_none, o_some, ts_nil, ts_cons, c_lt, c_le, c_gt, c_ge, c_eq, c_ne, b_add, b_sub, b_mul, b_div, b_mod, b_pow, b_shr, a_add, a_mul, t_bool, t_int, List.map, List.cons_append, List.nil_append, List.getElem?_cons_succ, List.getElem?_cons_zero, List.set_cons_succ, List.set_cons_zero, frOf]); (repeat (first | rw [q_next] | rw [q_ret] | rw [q_cont] | rw [q_brk] | rw [ss_nil])); (try simp only [r_next, r_ret]))
  (rw [ss_cons]; ((try simp only [e_int, e_bool, e_none, e_str, e_var, e_bin, e_neg, n_int, e_not, e_cmp, e_and, e_or, e_ite, e_sub, e_slice, e_list, e_tuple, e_call, e_ucall, e_meth, e_comp, t_not, t_and, t_or, t_cmp, t_var, t_sub, t_call, t_ucall, s_expr, s_assign, s_setitem, s_aug, s_augi, s_ifs, s_while, s_for, s_ret, s_brk, s_cont, ss_nil, c_range1, c_range2, c_range3, i_rng, i_ref, i_tup, i_enm, i_rev, bt_name, bt_tup, look_zero, look_succ, r_next, r_ret, sa_nil, sa_cons, es_nil, es_cons, o_none, o_some, ts_nil, ts_cons, c_lt, c_le, c_gt, c_ge, c_eq, c_ne, b_add, b_sub, b_mul, b_div, b_mod, b_pow, b_shr, a_add, a_mul, t_bool, t_int, List.map, List.cons_append, List.nil_append, List.getElem?_cons_succ, List.getElem?_cons_zero, List.set_cons_succ, List.set_cons_zero, frOf]); (repeat (first | rw [q_next] | rw [q_ret] | rw [q_cont] | rw [q_brk] | rw [ss_nil])); (try simp only [r_next, r_ret])))
  refine ⟨mul_l, ?_⟩
  (rw [ss_cons]; ((try simp only [e_int, e_bool, e_none, e_str, e_var, e_bin, e_neg, n_int, e_not, e_cmp, e_and, e_or, e_ite, e_sub, e_slice, e_list, e_tuple, e_call, e_ucall, e_meth, e_comp, t_not, t_and, t_or, t_cmp, t_var, t_sub, t_call, t_ucall, s_expr, s_assign, s_setitem, s_aug, s_augi, s_ifs, s_while, s_for, s_ret, s_brk, s_cont, ss_nil, c_range1, c_range2, c_range3, i_rng, i_ref, i_tup, i_enm, i_rev, bt_name, bt_tup, look_zero, look_succ, r_next, r_ret, sa_nil, sa_cons, es_nil, es_cons, o_none, o_some, ts_nil, ts_cons, c_lt, c_le, c_gt, c_ge, c_eq, c_ne, b_add, b_sub, b_mul, b_div, b_mod, b_pow, b_shr, a_add, a_mul, t_bool, t_int, List.map, List.cons_append, List.nil_append, List.getElem?_cons_succ, List.getElem?_cons_zero, List.set_cons_succ, List.set_cons_zero, frOf]); (repeat (first | rw [q_next] | rw [q_ret] | rw [q_cont] | rw [q_brk] | rw [ss_nil])); (try simp only [r_next, r_ret])))
  refine while_rule (fun n F τ => ∃ ns' p' e6, ns.length - p' = n ∧ F = [some (.ref a), some (.int (p' : Nat)), some (.int ns.length), some (.int p), some (f x), some (.int (2 * p' + 1 : Nat)), e6] ∧ τ = upd σ a (.list (ns'.map f)) ∧ ns'.length = ns.length ∧ p' < ns.length ∧ (∀ y ∈ ns', P y) ∧ downF lt x ns' p' = downF lt x ns p) _ ⟨ns, p, none, rfl, rfl, (upd_id hσ).symm, rfl, hp, hP, rfl⟩ ?_
  rintro n F τ ⟨ns', p', e6, rfl, rfl, rfl, hl, hp', hP', eq⟩ K k1 k2 k3 k4
  ((try simp only [e_int, e_bool, e_none, e_str, e_var, e_bin, e_neg, n_int, e_not, e_cmp, e_and, e_or, e_ite, e_sub, e_slice, e_list, e_tuple, e_call, e_ucall, e_meth, e_comp, t_not, t_and, t_or, t_cmp, t_var, t_sub, t_call, t_ucall, s_expr, s_assign, s_setitem, s_aug, s_augi, s_ifs, s_while, s_for, s_ret, s_brk, s_cont, ss_nil, c_range1, c_range2, c_range3, i_rng, i_ref, i_tup, i_enm, i_rev, bt_name, bt_tup, look_zero, look_succ, r_next, r_ret, sa_nil, sa_cons, es_nil, es_cons, o_none, o_some, ts_nil, ts_cons, c_lt, c_le, c_gt, c_ge, c_eq, c_ne, b_add, b_sub, b_mul, b_div, b_mod, b_pow, b_shr, a_add, a_mul, t_bool, t_int, List.map, List.cons_append, List.nil_append, List.getElem?_cons_succ, List.getElem?_cons_zero, List.set_cons_succ, List.set_cons_zero, frOf]); (repeat (first | rw [q_next] | rw [q_ret] | rw [q_cont] | rw [q_brk] | rw [ss_nil])); (try simp only [r_next, r_ret]))
  by_cases hc : 2 * p' + 1 < ns'.length
  · rw [decide_eq_true (by omega), if_pos rfl]
    have g1 := kid_gt lt x ns' p'
    have g2 := kid_lt lt x ns' p' hc
    have fin : ∀ e6, vSs Φ [.setitem (.var 0) (.var 1) (.sub (.var 0) (.var 5)), .assign (.name 1) (.var 5), .assign (.name 5) (.bin .Add (.bin .Mult (.int 2) (.var 1)) (.int 1))] K [some (.ref a), some (.int (p' : Nat)), some (.int ns.length), some (.int p), some (f x), some (.int (kid lt x ns' p' : Nat)), e6] (upd σ a (.list (ns'.map f))) := fun e6 => by
      (rw [ss_cons]; ((try simp only [e_int, e_bool, e_none, e_str, e_var, e_bin, e_neg, n_int, e_not, e_cmp, e_and, e_or, e_ite, e_sub, e_slice, e_list, e_tuple, e_call, e_ucall, e_meth, e_comp, t_not, t_and, t_or, t_cmp, t_var, t_sub, t_call, t_ucall, s_expr, s_assign, s_setitem, s_aug, s_augi, s_ifs, s_while, s_for, s_ret, s_brk, s_cont, ss_nil, c_range1, c_range2, c_range3, i_rng, i_ref, i_tup, i_enm, i_rev, bt_name, bt_tup, look_zero, look_succ, r_next, r_ret, sa_nil, sa_cons, es_nil, es_cons, o_none, o_some, ts_nil, ts_cons, c_lt, c_le, c_gt, c_ge, c_eq, c_ne, b_add, b_sub, b_mul, b_div, b_mod, b_pow, b_shr, a_add, a_mul, t_bool, t_int, List.map, List.cons_append, List.nil_append, List.getElem?_cons_succ, List.getElem?_cons_zero, List.set_cons_succ, List.set_cons_zero, frOf]); (repeat (first | rw [q_next] | rw [q_ret] | rw [q_cont] | rw [q_brk] | rw [ss_nil])); (try simp only [r_next, r_ret])))
      refine opSub_list (upd_same _ _ _) (map_at x g2) ?_
      refine opSet_list (upd_same _ _ _) (by rw [List.length_map]; omega) ?_
      rw [upd_upd]
      ((try simp only [e_int, e_bool, e_none, e_str, e_var, e_bin, e_neg, n_int, e_not, e_cmp, e_and, e_or, e_ite, e_sub, e_slice, e_list, e_tuple, e_call, e_ucall, e_meth, e_comp, t_not, t_and, t_or, t_cmp, t_var, t_sub, t_call, t_ucall, s_expr, s_assign, s_setitem, s_aug, s_augi, s_ifs, s_while, s_for, s_ret, s_brk, s_cont, ss_nil, c_range1, c_range2, c_range3, i_rng, i_ref, i_tup, i_enm, i_rev, bt_name, bt_tup, look_zero, look_succ, r_next, r_ret, sa_nil, sa_cons, es_nil, es_cons, o_none, o_some, ts_nil, ts_cons, c_lt, c_le, c_gt, c_ge, c_eq, c_ne, b_add, b_sub, b_mul, b_div, b_mod, b_pow, b_shr, a_add, a_mul, t_bool, t_int, List.map, List.cons_append, List.nil_append, List.getElem?_cons_succ, List.getElem?_cons_zero, List.set_cons_succ, List.set_cons_zero, frOf]); (repeat (first | rw [q_next] | rw [q_ret] | rw [q_cont] | rw [q_brk] | rw [ss_nil])); (try simp only [r_next, r_ret]))
      (rw [ss_cons]; ((try simp only [e_int, e_bool, e_none, e_str, e_var, e_bin, e_neg, n_int, e_not, e_cmp, e_and, e_or, e_ite, e_sub, e_slice, e_list, e_tuple, e_call, e_ucall, e_meth, e_comp, t_not, t_and, t_or, t_cmp, t_var, t_sub, t_call, t_ucall, s_expr, s_assign, s_setitem, s_aug, s_augi, s_ifs, s_while, s_for, s_ret, s_brk, s_cont, ss_nil, c_range1, c_range2, c_range3, i_rng, i_ref, i_tup, i_enm, i_rev, bt_name, bt_tup, look_zero, look_succ, r_next, r_ret, sa_nil, sa_cons, es_nil, es_cons, o_none, o_some, ts_nil, ts_cons, c_lt, c_le, c_gt, c_ge, c_eq, c_ne, b_add, b_sub, b_mul, b_div, b_mod, b_pow, b_shr, a_add, a_mul, t_bool, t_int, List.map, List.cons_append, List.nil_append, List.getElem?_cons_succ, List.getElem?_cons_zero, List.set_cons_succ, List.set_cons_zero, frOf]); (repeat (first | rw [q_next] | rw [q_ret] | rw [q_cont] | rw [q_brk] | rw [ss_nil])); (try simp only [r_next, r_ret])))
      (rw [ss_cons]; ((try simp only [e_int, e_bool, e_none, e_str, e_var, e_bin, e_neg, n_int, e_not, e_cmp, e_and, e_or, e_ite, e_sub, e_slice, e_list, e_tuple, e_call, e_ucall, e_meth, e_comp, t_not, t_and, t_or, t_cmp, t_var, t_sub, t_call, t_ucall, s_expr, s_assign, s_setitem, s_aug, s_augi, s_ifs, s_while, s_for, s_ret, s_brk, s_cont, ss_nil, c_range1, c_range2, c_range3, i_rng, i_ref, i_tup, i_enm, i_rev, bt_name, bt_tup, look_zero, look_succ, r_next, r_ret, sa_nil, sa_cons, es_nil, es_cons, o_none, o_some, ts_nil, ts_cons, c_lt, c_le, c_gt, c_ge, c_eq, c_ne, b_add, b_sub, b_mul, b_div, b_mod, b_pow, b_shr, a_add, a_mul, t_bool, t_int, List.map, List.cons_append, List.nil_append, List.getElem?_cons_succ, List.getElem?_cons_zero, List.set_cons_succ, List.set_cons_zero, frOf]); (repeat (first | rw [q_next] | rw [q_ret] | rw [q_cont] | rw [q_brk] | rw [ss_nil])); (try simp only [r_next, r_ret])))
      refine ⟨mul_l, k1 (ns.length - kid lt x ns' p') _ _ (by omega) ⟨ns'.set p' (ns'.getD (kid lt x ns' p') x), kid lt x ns' p', e6, rfl, rfl, by rw [List.map_set], by rw [List.length_set, hl], by omega, ?_, ?_⟩⟩
      · intro y hy
        rcases mem_set hy with h | rfl
        · exact hP' _ h
        · exact hP' _ (getD_mem g2)
      · rw [← eq, downF.eq_def lt x ns' p', dif_pos hc]
    (rw [ss_cons]; ((try simp only [e_int, e_bool, e_none, e_str, e_var, e_bin, e_neg, n_int, e_not, e_cmp, e_and, e_or, e_ite, e_sub, e_slice, e_list, e_tuple, e_call, e_ucall, e_meth, e_comp, t_not, t_and, t_or, t_cmp, t_var, t_sub, t_call, t_ucall, s_expr, s_assign, s_setitem, s_aug, s_augi, s_ifs, s_while, s_for, s_ret, s_brk, s_cont, ss_nil, c_range1, c_range2, c_range3, i_rng, i_ref, i_tup, i_enm, i_rev, bt_name, bt_tup, look_zero, look_succ, r_next, r_ret, sa_nil, sa_cons, es_nil, es_cons, o_none, o_some, ts_nil, ts_cons, c_lt, c_le, c_gt, c_ge, c_eq, c_ne, b_add, b_sub, b_mul, b_div, b_mod, b_pow, b_shr, a_add, a_mul, t_bool, t_int, List.map, List.cons_append, List.nil_append, List.getElem?_cons_succ, List.getElem?_cons_zero, List.set_cons_succ, List.set_cons_zero, frOf]); (repeat (first | rw [q_next] | rw [q_ret] | rw [q_cont] | rw [q_brk] | rw [ss_nil])); (try simp only [r_next, r_ret])))
    have e1 : ((2 * p' + 1 : Nat) : Int) + 1 = (2 * p' + 2 : Nat) := by omega
    rw [e1]
    (rw [ss_cons]; ((try simp only [e_int, e_bool, e_none, e_str, e_var, e_bin, e_neg, n_int, e_not, e_cmp, e_and, e_or, e_ite, e_sub, e_slice, e_list, e_tuple, e_call, e_ucall, e_meth, e_comp, t_not, t_and, t_or, t_cmp, t_var, t_sub, t_call, t_ucall, s_expr, s_assign, s_setitem, s_aug, s_augi, s_ifs, s_while, s_for, s_ret, s_brk, s_cont, ss_nil, c_range1, c_range2, c_range3, i_rng, i_ref, i_tup, i_enm, i_rev, bt_name, bt_tup, look_zero, look_succ, r_next, r_ret, sa_nil, sa_cons, es_nil, es_cons, o_none, o_some, ts_nil, ts_cons, c_lt, c_le, c_gt, c_ge, c_eq, c_ne, b_add, b_sub, b_mul, b_div, b_mod, b_pow, b_shr, a_add, a_mul, t_bool, t_int, List.map, List.cons_append, List.nil_append, List.getElem?_cons_succ, List.getElem?_cons_zero, List.set_cons_succ, List.set_cons_zero, frOf]); (repeat (first | rw [q_next] | rw [q_ret] | rw [q_cont] | rw [q_brk] | rw [ss_nil])); (try simp only [r_next, r_ret])))
    by_cases hr : 2 * p' + 2 < ns'.length
    · rw [decide_eq_true (by omega), if_pos rfl]
      refine opSub_list (upd_same _ _ _) (map_at x hr) ?_
      refine opSub_list (upd_same _ _ _) (map_at x hc) ?_
      refine hlt _ _ (hP' _ (getD_mem hr)) (hP' _ (getD_mem hc)) _ _ ?_
      ((try simp only [e_int, e_bool, e_none, e_str, e_var, e_bin, e_neg, n_int, e_not, e_cmp, e_and, e_or, e_ite, e_sub, e_slice, e_list, e_tuple, e_call, e_ucall, e_meth, e_comp, t_not, t_and, t_or, t_cmp, t_var, t_sub, t_call, t_ucall, s_expr, s_assign, s_setitem, s_aug, s_augi, s_ifs, s_while, s_for, s_ret, s_brk, s_cont, ss_nil, c_range1, c_range2, c_range3, i_rng, i_ref, i_tup, i_enm, i_rev, bt_name, bt_tup, look_zero, look_succ, r_next, r_ret, sa_nil, sa_cons, es_nil, es_cons, o_none, o_some, ts_nil, ts_cons, c_lt, c_le, c_gt, c_ge, c_eq, c_ne, b_add, b_sub, b_mul, b_div, b_mod, b_pow, b_shr, a_add, a_mul, t_bool, t_int, List.map, List.cons_append, List.nil_append, List.getElem?_cons_succ, List.getElem?_cons_zero, List.set_cons_succ, List.set_cons_zero, frOf]); (repeat (first | rw [q_next] | rw [q_ret] | rw [q_cont] | rw [q_brk] | rw [ss_nil])); (try simp only [r_next, r_ret]))
      by_cases c : lt (ns'.getD (2 * p' + 2) x) (ns'.getD (2 * p' + 1) x) = true
      · have ke : kid lt x ns' p' = 2 * p' + 1 := by unfold kid; rw [if_neg]; rintro ⟨_, h⟩; rw [c] at h; cases h
        rw [ke] at fin
        rw [c, if_neg (by decide)]
        ((try simp only [e_int, e_bool, e_none, e_str, e_var, e_bin, e_neg, n_int, e_not, e_cmp, e_and, e_or, e_ite, e_sub, e_slice, e_list, e_tuple, e_call, e_ucall, e_meth, e_comp, t_not, t_and, t_or, t_cmp, t_var, t_sub, t_call, t_ucall, s_expr, s_assign, s_setitem, s_aug, s_augi, s_ifs, s_while, s_for, s_ret, s_brk, s_cont, ss_nil, c_range1, c_range2, c_range3, i_rng, i_ref, i_tup, i_enm, i_rev, bt_name, bt_tup, look_zero, look_succ, r_next, r_ret, sa_nil, sa_cons, es_nil, es_cons, o_none, o_some, ts_nil, ts_cons, c_lt, c_le, c_gt, c_ge, c_eq, c_ne, b_add, b_sub, b_mul, b_div, b_mod, b_pow, b_shr, a_add, a_mul, t_bool, t_int, List.map, List.cons_append, List.nil_append, List.getElem?_cons_succ, List.getElem?_cons_zero, List.set_cons_succ, List.set_cons_zero, frOf]); (repeat (first | rw [q_next] | rw [q_ret] | rw [q_cont] | rw [q_brk] | rw [ss_nil])); (try simp only [r_next, r_ret]))
        exact fin _
      · have c := Bool.eq_false_iff.mpr c
        have ke : kid lt x ns' p' = 2 * p' + 2 := by unfold kid; rw [if_pos ⟨hr, c⟩]
        rw [ke] at fin
        rw [c, if_pos (by decide)]
        (rw [ss_cons]; ((try simp only [e_int, e_bool, e_none, e_str, e_var, e_bin, e_neg, n_int, e_not, e_cmp, e_and, e_or, e_ite, e_sub, e_slice, e_list, e_tuple, e_call, e_ucall, e_meth, e_comp, t_not, t_and, t_or, t_cmp, t_var, t_sub, t_call, t_ucall, s_expr, s_assign, s_setitem, s_aug, s_augi, s_ifs, s_while, s_for, s_ret, s_brk, s_cont, ss_nil, c_range1, c_range2, c_range3, i_rng, i_ref, i_tup, i_enm, i_rev, bt_name, bt_tup, look_zero, look_succ, r_next, r_ret, sa_nil, sa_cons, es_nil, es_cons, o_none, o_some, ts_nil, ts_cons, c_lt, c_le, c_gt, c_ge, c_eq, c_ne, b_add, b_sub, b_mul, b_div, b_mod, b_pow, b_shr, a_add, a_mul, t_bool, t_int, List.map, List.cons_append, List.nil_append, List.getElem?_cons_succ, List.getElem?_cons_zero, List.set_cons_succ, List.set_cons_zero, frOf]); (repeat (first | rw [q_next] | rw [q_ret] | rw [q_cont] | rw [q_brk] | rw [ss_nil])); (try simp only [r_next, r_ret])))
        exact fin _
    · rw [decide_eq_false (by omega), if_neg (by decide), if_neg (by decide)]
      ((try simp only [e_int, e_bool, e_none, e_str, e_var, e_bin, e_neg, n_int, e_not, e_cmp, e_and, e_or, e_ite, e_sub, e_slice, e_list, e_tuple, e_call, e_ucall, e_meth, e_comp, t_not, t_and, t_or, t_cmp, t_var, t_sub, t_call, t_ucall, s_expr, s_assign, s_setitem, s_aug, s_augi, s_ifs, s_while, s_for, s_ret, s_brk, s_cont, ss_nil, c_range1, c_range2, c_range3, i_rng, i_ref, i_tup, i_enm, i_rev, bt_name, bt_tup, look_zero, look_succ, r_next, r_ret, sa_nil, sa_cons, es_nil, es_cons, o_none, o_some, ts_nil, ts_cons, c_lt, c_le, c_gt, c_ge, c_eq, c_ne, b_add, b_sub, b_mul, b_div, b_mod, b_pow, b_shr, a_add, a_mul, t_bool, t_int, List.map, List.cons_append, List.nil_append, List.getElem?_cons_succ, List.getElem?_cons_zero, List.set_cons_succ, List.set_cons_zero, frOf]); (repeat (first | rw [q_next] | rw [q_ret] | rw [q_cont] | rw [q_brk] | rw [ss_nil])); (try simp only [r_next, r_ret]))
      have ke : kid lt x ns' p' = 2 * p' + 1 := by unfold kid; rw [if_neg]; exact fun h => hr h.1
      rw [ke] at fin
      exact fin _
  · rw [decide_eq_false (by omega), if_neg (by decide)]
    ((try simp only [e_int, e_bool, e_none, e_str, e_var, e_bin, e_neg, n_int, e_not, e_cmp, e_and, e_or, e_ite, e_sub, e_slice, e_list, e_tuple, e_call, e_ucall, e_meth, e_comp, t_not, t_and, t_or, t_cmp, t_var, t_sub, t_call, t_ucall, s_expr, s_assign, s_setitem, s_aug, s_augi, s_ifs, s_while, s_for, s_ret, s_brk, s_cont, ss_nil, c_range1, c_range2, c_range3, i_rng, i_ref, i_tup, i_enm, i_rev, bt_name, bt_tup, look_zero, look_succ, r_next, r_ret, sa_nil, sa_cons, es_nil, es_cons, o_none, o_some, ts_nil, ts_cons, c_lt, c_le, c_gt, c_ge, c_eq, c_ne, b_add, b_sub, b_mul, b_div, b_mod, b_pow, b_shr, a_add, a_mul, t_bool, t_int, List.map, List.cons_append, List.nil_append, List.getElem?_cons_succ, List.getElem?_cons_zero, List.set_cons_succ, List.set_cons_zero, frOf]); (repeat (first | rw [q_next] | rw [q_ret] | rw [q_cont] | rw [q_brk] | rw [ss_nil])); (try simp only [r_next, r_ret]))
    (rw [ss_cons]; ((try simp only [e_int, e_bool, e_none, e_str, e_var, e_bin, e_neg, n_int, e_not, e_cmp, e_and, e_or, e_ite, e_sub, e_slice, e_list, e_tuple, e_call, e_ucall, e_meth, e_comp, t_not, t_and, t_or, t_cmp, t_var, t_sub, t_call, t_ucall, s_expr, s_assign, s_setitem, s_aug, s_augi, s_ifs, s_while, s_for, s_ret, s_brk, s_cont, ss_nil, c_range1, c_range2, c_range3, i_rng, i_ref, i_tup, i_enm, i_rev, bt_name, bt_tup, look_zero, look_succ, r_next, r_ret, sa_nil, sa_cons, es_nil, es_cons, o_none, o_some, ts_nil, ts_cons, c_lt, c_le, c_gt, c_ge, c_eq, c_ne, b_add, b_sub, b_mul, b_div, b_mod, b_pow, b_shr, a_add, a_mul, t_bool, t_int, List.map, List.cons_append, List.nil_append, List.getElem?_cons_succ, List.getElem?_cons_zero, List.set_cons_succ, List.set_cons_zero, frOf]); (repeat (first | rw [q_next] | rw [q_ret] | rw [q_cont] | rw [q_brk] | rw [ss_nil])); (try simp only [r_next, r_ret])))
    refine opSet_list (upd_same _ _ _) (by rw [List.length_map]; omega) ?_
    rw [upd_upd]
    ((try simp only [e_int, e_bool, e_none, e_str, e_var, e_bin, e_neg, n_int, e_not, e_cmp, e_and, e_or, e_ite, e_sub, e_slice, e_list, e_tuple, e_call, e_ucall, e_meth, e_comp, t_not, t_and, t_or, t_cmp, t_var, t_sub, t_call, t_ucall, s_expr, s_assign, s_setitem, s_aug, s_augi, s_ifs, s_while, s_for, s_ret, s_brk, s_cont, ss_nil, c_range1, c_range2, c_range3, i_rng, i_ref, i_tup, i_enm, i_rev, bt_name, bt_tup, look_zero, look_succ, r_next, r_ret, sa_nil, sa_cons, es_nil, es_cons, o_none, o_some, ts_nil, ts_cons, c_lt, c_le, c_gt, c_ge, c_eq, c_ne, b_add, b_sub, b_mul, b_div, b_mod, b_pow, b_shr, a_add, a_mul, t_bool, t_int, List.map, List.cons_append, List.nil_append, List.getElem?_cons_succ, List.getElem?_cons_zero, List.set_cons_succ, List.set_cons_zero, frOf]); (repeat (first | rw [q_next] | rw [q_ret] | rw [q_cont] | rw [q_brk] | rw [ss_nil])); (try simp only [r_next, r_ret]))
    (rw [ss_cons]; ((try simp only [e_int, e_bool, e_none, e_str, e_var, e_bin, e_neg, n_int, e_not, e_cmp, e_and, e_or, e_ite, e_sub, e_slice, e_list, e_tuple, e_call, e_ucall, e_meth, e_comp, t_not, t_and, t_or, t_cmp, t_var, t_sub, t_call, t_ucall, s_expr, s_assign, s_setitem, s_aug, s_augi, s_ifs, s_while, s_for, s_ret, s_brk, s_cont, ss_nil, c_range1, c_range2, c_range3, i_rng, i_ref, i_tup, i_enm, i_rev, bt_name, bt_tup, look_zero, look_succ, r_next, r_ret, sa_nil, sa_cons, es_nil, es_cons, o_none, o_some, ts_nil, ts_cons, c_lt, c_le, c_gt, c_ge, c_eq, c_ne, b_add, b_sub, b_mul, b_div, b_mod, b_pow, b_shr, a_add, a_mul, t_bool, t_int, List.map, List.cons_append, List.nil_append, List.getElem?_cons_succ, List.getElem?_cons_zero, List.set_cons_succ, List.set_cons_zero, frOf]); (repeat (first | rw [q_next] | rw [q_ret] | rw [q_cont] | rw [q_brk] | rw [ss_nil])); (try simp only [r_next, r_ret])))
    have de : downF lt x ns p = (ns', p') := by rw [← eq, downF, dif_neg hc]
    refine hΦ _ _ _ ⟨α, f, lt, P, a, ns'.set p' x, p, p', x, rfl, by rw [upd_same, List.map_set], by rw [List.getElem?_set_self (by omega)], ?_, hlt.upd _, ?_⟩
    · intro y hy
      rcases mem_set hy with h | rfl
      · exact hP' _ h
      · exact hx'
    · rw [upd_upd]
      ((try simp only [e_int, e_bool, e_none, e_str, e_var, e_bin, e_neg, n_int, e_not, e_cmp, e_and, e_or, e_ite, e_sub, e_slice, e_list, e_tuple, e_call, e_ucall, e_meth, e_comp, t_not, t_and, t_or, t_cmp, t_var, t_sub, t_call, t_ucall, s_expr, s_assign, s_setitem, s_aug, s_augi, s_ifs, s_while, s_for, s_ret, s_brk, s_cont, ss_nil, c_range1, c_range2, c_range3, i_rng, i_ref, i_tup, i_enm, i_rev, bt_name, bt_tup, look_zero, look_succ, r_next, r_ret, sa_nil, sa_cons, es_nil, es_cons, o_none, o_some, ts_nil, ts_cons, c_lt, c_le, c_gt, c_ge, c_eq, c_ne, b_add, b_sub, b_mul, b_div, b_mod, b_pow, b_shr, a_add, a_mul, t_bool, t_int, List.map, List.cons_append, List.nil_append, List.getElem?_cons_succ, List.getElem?_cons_zero, List.set_cons_succ, List.set_cons_zero, frOf]); (repeat (first | rw [q_next] | rw [q_ret] | rw [q_cont] | rw [q_brk] | rw [ss_nil])); (try simp only [r_next, r_ret]))
      unfold siftF at q
      rw [de] at q
      exact q

/-! H1 -/
def heapifyC (args : List V) (Q : V → Hp → Prop) (σ : Hp) : Prop :=
  ∃ (α : Type) (f : α → V) (lt : α → α → Bool) (P : α → Prop) (a : Addr) (ns : List α), args = [.ref a] ∧ σ a = some (.list (ns.map f)) ∧ (∀ z ∈ ns, P z) ∧ LtOn σ a f lt P ∧ ns.length ≤ BIG ∧
    Q .none (upd σ a (.list ((heapifyF lt ns).map f)))
def ps_heapify (i : Nat) : List PS := [.assign (.name 1) (.call .len [(.var 0)]), .for (.name 2) .rev (.call .range [(.bin .FloorDiv (.var 1) (.int 2))]) [.expr (.ucall i [(.var 0), (.var 2)])]]
theorem siftAt_mem {α : Type} {lt : α → α → Bool} {ns : List α} {p : Nat} {y : α} (h : y ∈ siftAt lt ns p) : y ∈ ns := by
  unfold siftAt at h
  split at h
  · rename_i x hx
    have hxm := List.mem_of_getElem? hx
    have up : ∀ (s p : Nat) (ns' : List α), (∀ z ∈ ns', z ∈ ns) → ∀ z ∈ upF lt s x ns' p, z ∈ ns := by
      intro s p
      induction p using Nat.strongRecOn with
      | ind p ih =>
        intro ns' hn z hz
        rw [upF] at hz
        split at hz
        · split at hz
          · refine ih _ (by omega) _ (fun u hu => ?_) z hz
            rcases mem_set hu with h | rfl
            · exact hn _ h
            · rcases Nat.lt_or_ge ((p - 1) / 2) ns'.length with hl | hl
              · exact hn _ (getD_mem hl)
              · rw [List.getD_eq_getElem?_getD, List.getElem?_eq_none hl]; exact hxm
          · rcases mem_set hz with h | rfl
            · exact hn _ h
            · exact hxm
        · rcases mem_set hz with h | rfl
          · exact hn _ h
          · exact hxm
    have dn : ∀ (k : Nat) (ns' : List α) (p : Nat), ns'.length - p ≤ k → (∀ z ∈ ns', z ∈ ns) → ∀ z ∈ (downF lt x ns' p).1, z ∈ ns := by
      intro k
      induction k with
      | zero => intro ns' p hk hn z hz; rw [downF, dif_neg (by omega)] at hz; exact hn z hz
      | succ k ih =>
        intro ns' p hk hn z hz
        rw [downF] at hz
        split at hz
        · rename_i hc
          have g := kid_gt lt x ns' p
          refine ih _ _ (by simp only [List.length_set]; omega) (fun u hu => ?_) z hz
          rcases mem_set hu with h | rfl
          · exact hn _ h
          · exact hn _ (getD_mem (kid_lt lt x ns' p hc))
        · exact hn z hz
    refine up _ _ _ (fun u hu => ?_) y h
    rcases mem_set hu with h | rfl
    · exact dn _ _ _ (Nat.le_refl _) (fun _ h => h) _ h
    · exact hxm
  · exact h
theorem heapify_v (Φ : Fns) (i : Nat) (hΦ : ∀ args Q σ, siftupC args Q σ → Φ i args Q σ) (args : List V) (Q : V → Hp → Prop) (σ : Hp) (F : Frm) (h : heapifyC args Q σ) (hF : F = args.map some ++ [none, none]) : vSs Φ (ps_heapify i) (retV Q) F σ := by
  obtain ⟨α, f, lt, P, a, ns, rfl, hσ, hP, hlt, hbig, q⟩ := h
  subst hF
  have hb := hbig
  unfold BIG at hb
  unfold ps_heapify
  (rw [ss_cons]; ((try simp only [e_int, e_bool, e_none, e_str, e_var, e_bin, e_neg, n_int, e_not, e_cmp, e_and, e_or, e_ite, e_sub, e_slice, e_list, e_tuple, e_call, e_ucall, e_meth, e_comp, t_not, t_and, t_or, t_cmp, t_var, t_sub, t_call, t_ucall, s_expr, s_assign, s_setitem, s_aug, s_augi, s_ifs, s_while, s_for, s_ret, s_brk, s_cont, ss_nil, c_range1, c_range2, c_range3, i_rng, i_ref, i_tup, i_enm, i_rev, bt_name, bt_tup, look_zero, look_succ, r_next, r_ret, sa_nil, sa_cons, es_nil, es_cons, o_none, o_some, ts_nil, ts_cons, c_lt, c_le, c_gt, c_ge, c_eq, c_ne, b_add, b_sub, b_mul, b_div, b_mod, b_pow, b_shr, a_add, a_mul, t_bool, t_int, List.map, List.cons_append, List.nil_append, List.getElem?_cons_succ, List.getElem?_cons_zero, List.set_cons_succ, List.set_cons_zero, frOf]); (repeat (first | rw [q_next] | rw [q_ret] | rw [q_cont] | rw [q_brk] | rw [ss_nil])); (try simp only [r_next, r_ret])))
  refine call_len (listAt_list hσ) ?_
  rw [List.length_map]
  ((try simp only [e_int, e_bool, e_none, e_str, e_var, e_bin, e_neg, n_int, e_not, e_cmp, e_and, e_or, e_ite, e_sub, e_slice, e_list, e_tuple, e_call, e_ucall, e_meth, e_comp, t_not, t_and, t_or, t_cmp, t_var, t_sub, t_call, t_ucall, s_expr, s_assign, s_setitem, s_aug, s_augi, s_ifs, s_while, s_for, s_ret, s_brk, s_cont, ss_nil, c_range1, c_range2, c_range3, i_rng, i_ref, i_tup, i_enm, i_rev, bt_name, bt_tup, look_zero, look_succ, r_next, r_ret, sa_nil, sa_cons, es_nil, es_cons, o_none, o_some, ts_nil, ts_cons, c_lt, c_le, c_gt, c_ge, c_eq, c_ne, b_add, b_sub, b_mul, b_div, b_mod, b_pow, b_shr, a_add, a_mul, t_bool, t_int, List.map, List.cons_append, List.nil_append, List.getElem?_cons_succ, List.getElem?_cons_zero, List.set_cons_succ, List.set_cons_zero, frOf]); (repeat (first | rw [q_next] | rw [q_ret] | rw [q_cont] | rw [q_brk] | rw [ss_nil])); (try simp only [r_next, r_ret]))
  (rw [ss_cons]; ((try simp only [e_int, e_bool, e_none, e_str, e_var, e_bin, e_neg, n_int, e_not, e_cmp, e_and, e_or, e_ite, e_sub, e_slice, e_list, e_tuple, e_call, e_ucall, e_meth, e_comp, t_not, t_and, t_or, t_cmp, t_var, t_sub, t_call, t_ucall, s_expr, s_assign, s_setitem, s_aug, s_augi, s_ifs, s_while, s_for, s_ret, s_brk, s_cont, ss_nil, c_range1, c_range2, c_range3, i_rng, i_ref, i_tup, i_enm, i_rev, bt_name, bt_tup, look_zero, look_succ, r_next, r_ret, sa_nil, sa_cons, es_nil, es_cons, o_none, o_some, ts_nil, ts_cons, c_lt, c_le, c_gt, c_ge, c_eq, c_ne, b_add, b_sub, b_mul, b_div, b_mod, b_pow, b_shr, a_add, a_mul, t_bool, t_int, List.map, List.cons_append, List.nil_append, List.getElem?_cons_succ, List.getElem?_cons_zero, List.set_cons_succ, List.set_cons_zero, frOf]); (repeat (first | rw [q_next] | rw [q_ret] | rw [q_cont] | rw [q_brk] | rw [ss_nil])); (try simp only [r_next, r_ret])))
  refine ⟨by decide, ?_⟩
  have e2 : (ns.length : Int).fdiv 2 = (ns.length / 2 : Nat) := by rw [Int.fdiv_eq_ediv_of_nonneg _ (by omega)]; omega
  rw [e2]
  refine ⟨trivial, trivial, by omega, by omega, ?_⟩
  have e3 : ((ns.length / 2 : Nat) : Int).toNat = ns.length / 2 := by omega
  rw [e3]
  refine for_rule (xs := (List.range (ns.length / 2)).map fun (k : Nat) => V.int (((ns.length / 2 : Nat) : Int) - 1 + (k : Int) * (-1)))
    (fun k F τ => ∃ m e2, F = [some (.ref a), some (.int ns.length), e2] ∧ τ = upd σ a (.list (m.map f)) ∧ m.length = ns.length ∧ (∀ z ∈ m, P z) ∧ ((List.range (ns.length / 2 - k)).reverse).foldl (siftAt lt) m = heapifyF lt ns) (yields_rng _ _ _ _) ?_ ?_ ?_
  · exact ⟨ns, none, rfl, (upd_id hσ).symm, rfl, hP, rfl⟩
  · rintro k x F τ hx ⟨m, e2, rfl, rfl, hm, hPm, he⟩ K k1 k2 k3 k4
    have hk : k < ns.length / 2 := by have := lt_of_some hx; simpa using this
    have hx' : x = .int (ns.length / 2 - 1 - k : Nat) := by
      simp [hk] at hx; rw [← hx]; congr 1; omega
    subst hx'
    ((try simp only [e_int, e_bool, e_none, e_str, e_var, e_bin, e_neg, n_int, e_not, e_cmp, e_and, e_or, e_ite, e_sub, e_slice, e_list, e_tuple, e_call, e_ucall, e_meth, e_comp, t_not, t_and, t_or, t_cmp, t_var, t_sub, t_call, t_ucall, s_expr, s_assign, s_setitem, s_aug, s_augi, s_ifs, s_while, s_for, s_ret, s_brk, s_cont, ss_nil, c_range1, c_range2, c_range3, i_rng, i_ref, i_tup, i_enm, i_rev, bt_name, bt_tup, look_zero, look_succ, r_next, r_ret, sa_nil, sa_cons, es_nil, es_cons, o_none, o_some, ts_nil, ts_cons, c_lt, c_le, c_gt, c_ge, c_eq, c_ne, b_add, b_sub, b_mul, b_div, b_mod, b_pow, b_shr, a_add, a_mul, t_bool, t_int, List.map, List.cons_append, List.nil_append, List.getElem?_cons_succ, List.getElem?_cons_zero, List.set_cons_succ, List.set_cons_zero, frOf]); (repeat (first | rw [q_next] | rw [q_ret] | rw [q_cont] | rw [q_brk] | rw [ss_nil])); (try simp only [r_next, r_ret]))
    (rw [ss_cons]; ((try simp only [e_int, e_bool, e_none, e_str, e_var, e_bin, e_neg, n_int, e_not, e_cmp, e_and, e_or, e_ite, e_sub, e_slice, e_list, e_tuple, e_call, e_ucall, e_meth, e_comp, t_not, t_and, t_or, t_cmp, t_var, t_sub, t_call, t_ucall, s_expr, s_assign, s_setitem, s_aug, s_augi, s_ifs, s_while, s_for, s_ret, s_brk, s_cont, ss_nil, c_range1, c_range2, c_range3, i_rng, i_ref, i_tup, i_enm, i_rev, bt_name, bt_tup, look_zero, look_succ, r_next, r_ret, sa_nil, sa_cons, es_nil, es_cons, o_none, o_some, ts_nil, ts_cons, c_lt, c_le, c_gt, c_ge, c_eq, c_ne, b_add, b_sub, b_mul, b_div, b_mod, b_pow, b_shr, a_add, a_mul, t_bool, t_int, List.map, List.cons_append, List.nil_append, List.getElem?_cons_succ, List.getElem?_cons_zero, List.set_cons_succ, List.set_cons_zero, frOf]); (repeat (first | rw [q_next] | rw [q_ret] | rw [q_cont] | rw [q_brk] | rw [ss_nil])); (try simp only [r_next, r_ret])))
    generalize hj : ns.length / 2 - 1 - k = j at *
    have hjm : j < m.length := by omega
    have ee : siftAt lt m j = siftF lt m j m[j] := by unfold siftAt; rw [List.getElem?_eq_getElem hjm]
    refine hΦ _ _ _ ⟨α, f, lt, P, a, m, j, m[j], rfl, upd_same _ _ _, List.getElem?_eq_getElem hjm, hPm, hlt.upd _, by omega, ?_⟩
    rw [upd_upd]
    ((try simp only [e_int, e_bool, e_none, e_str, e_var, e_bin, e_neg, n_int, e_not, e_cmp, e_and, e_or, e_ite, e_sub, e_slice, e_list, e_tuple, e_call, e_ucall, e_meth, e_comp, t_not, t_and, t_or, t_cmp, t_var, t_sub, t_call, t_ucall, s_expr, s_assign, s_setitem, s_aug, s_augi, s_ifs, s_while, s_for, s_ret, s_brk, s_cont, ss_nil, c_range1, c_range2, c_range3, i_rng, i_ref, i_tup, i_enm, i_rev, bt_name, bt_tup, look_zero, look_succ, r_next, r_ret, sa_nil, sa_cons, es_nil, es_cons, o_none, o_some, ts_nil, ts_cons, c_lt, c_le, c_gt, c_ge, c_eq, c_ne, b_add, b_sub, b_mul, b_div, b_mod, b_pow, b_shr, a_add, a_mul, t_bool, t_int, List.map, List.cons_append, List.nil_append, List.getElem?_cons_succ, List.getElem?_cons_zero, List.set_cons_succ, List.set_cons_zero, frOf]); (repeat (first | rw [q_next] | rw [q_ret] | rw [q_cont] | rw [q_brk] | rw [ss_nil])); (try simp only [r_next, r_ret]))
    refine k1 _ _ ⟨siftF lt m j m[j], _, rfl, rfl, by rw [siftF_length]; exact hm, fun z hz => ?_, ?_⟩
    · rw [← ee] at hz; exact hPm z (siftAt_mem hz)
    · rw [← he]
      have : ns.length / 2 - k = j + 1 := by omega
      rw [this, List.range_succ, List.reverse_append]
      simp only [List.reverse_cons, List.reverse_nil, List.nil_append, List.cons_append, List.foldl_cons]
      rw [ee]
      have : ns.length / 2 - (k + 1) = j := by omega
      rw [this]
  · rintro F τ ⟨m, e2, rfl, rfl, hm, hPm, he⟩
    ((try simp only [e_int, e_bool, e_none, e_str, e_var, e_bin, e_neg, n_int, e_not, e_cmp, e_and, e_or, e_ite, e_sub, e_slice, e_list, e_tuple, e_call, e_ucall, e_meth, e_comp, t_not, t_and, t_or, t_cmp, t_var, t_sub, t_call, t_ucall, s_expr, s_assign, s_setitem, s_aug, s_augi, s_ifs, s_while, s_for, s_ret, s_brk, s_cont, ss_nil, c_range1, c_range2, c_range3, i_rng, i_ref, i_tup, i_enm, i_rev, bt_name, bt_tup, look_zero, look_succ, r_next, r_ret, sa_nil, sa_cons, es_nil, es_cons, o_none, o_some, ts_nil, ts_cons, c_lt, c_le, c_gt, c_ge, c_eq, c_ne, b_add, b_sub, b_mul, b_div, b_mod, b_pow, b_shr, a_add, a_mul, t_bool, t_int, List.map, List.cons_append, List.nil_append, List.getElem?_cons_succ, List.getElem?_cons_zero, List.set_cons_succ, List.set_cons_zero, frOf]); (repeat (first | rw [q_next] | rw [q_ret] | rw [q_cont] | rw [q_brk] | rw [ss_nil])); (try simp only [r_next, r_ret]))
    have : ns.length / 2 - ((List.range (ns.length / 2)).map fun (k : Nat) => V.int (((ns.length / 2 : Nat) : Int) - 1 + (k : Int) * (-1))).length = 0 := by simp
    rw [this] at he
    simp at he
    rw [he]; exact q

/-! T1 -/
/-! tools for the laws -/
theorem newL_of {xs : List V} {Q : V → Hp → Prop} {σ : Hp} (hb : xs.length ≤ BIG) (q : ∀ a τ, Ext σ τ → σ a = none → τ a = some (.list xs) → Q (.ref a) τ) : newL xs Q σ := ⟨hb, fun a h => q a _ (Ext.upd _ h) h (upd_same _ _ _)⟩
theorem ne_of {σ : Hp} {a b : Addr} {o : AObj} (h : σ a = some o) (h' : σ b = none) : a ≠ b := by rintro rfl; rw [h] at h'; cases h'
def pickI {α : Type} (xs : List α) (lo hi st : Option Int) : List α :=
  (sliceRange (sliceBounds lo hi st xs.length).1 (sliceBounds lo hi st xs.length).2.1 (sliceBounds lo hi st xs.length).2.2).filterMap (xs[·]?)
/-- data -/
structure IsDat {α : Type} (f : α → V) (dat : α → PyData) : Prop where
  d : ∀ σ x, Dat σ (f x) (dat x)
  depth : ∀ x, (dat x).depth ≤ 40
theorem isDat_int : IsDat V.int PyData.int := ⟨fun σ x => .int x, fun x => by simp [PyData.depth]⟩
section
variable {α : Type} {f : α → V} {dat : α → PyData}
theorem IsDat.ds (D : IsDat f dat) (σ : Hp) : ∀ xs : List α, Dats σ (xs.map f) (xs.map dat)
  | [] => .nil
  | x :: xs => .cons (D.d σ x) (D.ds σ xs)
theorem IsDat.depths (D : IsDat f dat) : ∀ xs : List α, PyData.depthAll (xs.map dat) ≤ 40
  | [] => by simp [PyData.depthAll]
  | x :: xs => by have := D.depths xs; have := D.depth x; simp [PyData.depthAll]; omega
theorem IsDat.eq (D : IsDat f dat) {σ : Hp} {a b : Addr} {xs : List α} {Q : V → Hp → Prop} (ha : listAt σ a = some (xs.map f)) (hb : listAt σ b = some (xs.map f)) (q : Q (.bool true) σ) : opCmp .Eq (.ref a) (.ref b) Q σ := by
  refine eq_dat (d := .list (xs.map dat)) (e := .list (xs.map dat)) (.list ha (D.ds σ xs)) (.list hb (D.ds σ xs)) (by have := D.depths xs; simp only [PyData.depth]; omega) ?_
  rw [PySem.SeqAt.eqv_refl _ (Dat.lay (σ := σ) (.list ha (D.ds σ xs)))]; exact q
theorem IsDat.ne (D : IsDat f dat) {σ : Hp} {a b : Addr} {xs : List α} {Q : V → Hp → Prop} (ha : listAt σ a = some (xs.map f)) (hb : listAt σ b = some (xs.map f)) (q : Q (.bool false) σ) : opCmp .NotEq (.ref a) (.ref b) Q σ := by
  refine ne_dat (d := .list (xs.map dat)) (e := .list (xs.map dat)) (.list ha (D.ds σ xs)) (.list hb (D.ds σ xs)) (by have := D.depths xs; simp only [PyData.depth]; omega) ?_
  rw [PySem.SeqAt.eqv_refl _ (Dat.lay (σ := σ) (.list ha (D.ds σ xs)))]; exact q
end
/-! the order of tuples -/
/-! X9 -/
/-- a comprehension, by an invariant -/
theorem comp_inv {Φ : Fns} {ifs : List PE} {elt : PE} {t : Tgt} {F0 : Frm} {Q : V → Hp → Prop} {σ : Hp} {I : It} {xs : List V} (J : Nat → List V → Hp → Prop) (hy : Yields (fun τ => ∃ i acc, J i acc τ) I xs) (h0 : J 0 [] σ) (hl : ∀ i acc τ, J i acc τ → acc.length ≤ i) (hb : xs.length ≤ BIG)
    (step : ∀ i x acc τ, xs[i]? = some x → J i acc τ → ∀ (K : V → Hp → Prop) (N : Hp → Prop), (∀ y τ', J (i + 1) (acc ++ [y]) τ' → K y τ') → (∀ τ', J (i + 1) acc τ' → N τ') → bindT t x (fun F1 => vTs Φ ifs (fun b σ => if b then vE Φ elt K F1 σ else N σ) F1 τ) F0 τ)
    (fin : ∀ acc τ, J xs.length acc τ → newL acc Q τ) : CompG Φ ifs elt t F0 Q I σ := by
  refine ⟨fun n I acc τ => ∃ i, i + n = xs.length ∧ Yields (fun τ => ∃ i acc, J i acc τ) I (xs.drop i) ∧ J i acc τ, ⟨xs.length, 0, by omega, by simpa using hy, h0⟩, ?_⟩
  rintro n I acc τ ⟨i, hn, hy, hj⟩
  have la := hl i acc τ hj
  cases n with
  | zero =>
    rw [List.drop_eq_nil_of_le (by omega)] at hy
    rw [hy τ ⟨i, acc, hj⟩]
    have : i = xs.length := by omega
    subst this; exact fin acc τ hj
  | succ n =>
    have hi : i < xs.length := by omega
    rw [List.drop_eq_getElem_cons hi] at hy
    obtain ⟨I', e, hy'⟩ := hy
    rw [e τ ⟨i, acc, hj⟩]
    exact step i _ acc τ (List.getElem?_eq_getElem hi) hj _ _ (fun y τ' h => ⟨by omega, n, by omega, i + 1, by omega, hy', h⟩) (fun τ' h => ⟨n, by omega, i + 1, by omega, hy', h⟩)
section
variable {σ : Hp} {Q : V → Hp → Prop}
end

/-! X10 -/
/-! comprehensions with two for clauses -/
/-- the inner turns -/
def InG (Φ : Fns) (elt : PE) (j : Nat) (F1 : Frm) (K : List V → Hp → Prop) (J : It) (acc : List V) (σ : Hp) : Prop :=
  ∃ Inv : Nat → It → List V → Hp → Prop, (∃ m, Inv m J acc σ) ∧ ∀ m J acc σ, Inv m J acc σ →
    match itNext J σ with
    | none => False
    | some none => K acc σ
    | some (some (z, J')) => vE Φ elt (fun u σ => acc.length < BIG ∧ ∃ m', m' < m ∧ Inv m' J' (acc ++ [u]) σ) (F1.set j (some z)) σ
def CompG2 (Φ : Fns) (elt : PE) (i j : Nat) (b2 : PE) (F0 : Frm) (Q : V → Hp → Prop) (I : It) (σ : Hp) : Prop :=
  ∃ Inv : Nat → It → List V → Hp → Prop, (∃ n, Inv n I [] σ) ∧ ∀ n I acc σ, Inv n I acc σ →
    match itNext I σ with
    | none => False
    | some none => newL acc Q σ
    | some (some (x, I')) => vE Φ b2 (fun y σ => itStart .plain y (fun J σ => InG Φ elt j (F0.set i (some x)) (fun acc σ => ∃ n', n' < n ∧ Inv n' I' acc σ) J acc σ) σ) (F0.set i (some x)) σ
def PE.comp2 (fm : List (Option Nat)) (elt : PE) (i : Nat) (b1 : PE) (j : Nat) (b2 : PE) : PE := .of fun Φ Q F σ => vE Φ b1 (fun x σ => itStart .plain x (fun I σ => CompG2 Φ elt i j b2 (frOf fm F) Q I σ) σ) F σ
theorem e_comp2 (Φ : Fns) (Q : V → Hp → Prop) (F : Frm) (σ : Hp) (fm : List (Option Nat)) (elt : PE) (i : Nat) (b1 : PE) (j : Nat) (b2 : PE) : vE Φ (.comp2 fm elt i b1 j b2) Q F σ = vE Φ b1 (fun x σ => itStart .plain x (fun I σ => CompG2 Φ elt i j b2 (frOf fm F) Q I σ) σ) F σ := rfl
section
variable {prog : Program} {w : World} {A : Around} {R : Result → Shared → Prop} {s : Shared} {elt t1 t2 it1 it2 : Expr} {scope : Scope} {pos : Pos} {acc iv : Value} {env : Env}
theorem compTurn_two0 : compTurn (.ListComp elt [⟨t1, it1, [], 0⟩, ⟨t2, it2, [], 0⟩] scope pos) 0 iv acc env = (do
      standAt it1.pos
      match ← pyNext iv with
      | none => pure (.done .next)
      | some v =>
        letOwnedTupleGo t1 iv v
        assign t1 env v
        let x ← eval it2 env
        standAt it2.pos
        let x ← foldedSetIterable it2 env x
        let jv ← holding [x] (pyIter x)
        let _ ← runOwn (.compStart (.ListComp elt [⟨t1, it1, [], 0⟩, ⟨t2, it2, [], 0⟩] scope pos) 1 jv acc env) env
        again (.compLoop (.ListComp elt [⟨t1, it1, [], 0⟩, ⟨t2, it2, [], 0⟩] scope pos) 0 iv acc env)) := by rfl
theorem compTurn_two1 : compTurn (.ListComp elt [⟨t1, it1, [], 0⟩, ⟨t2, it2, [], 0⟩] scope pos) 1 iv acc env = (do
      standAt it2.pos
      match ← pyNext iv with
      | none => pure (.done .next)
      | some v =>
        letOwnedTupleGo t2 iv v
        assign t2 env v
        (do let _ ← call (.builtin "list.append") [acc, ← eval elt env])
        again (.compLoop (.ListComp elt [⟨t1, it1, [], 0⟩, ⟨t2, it2, [], 0⟩] scope pos) 1 iv acc env)) := by rfl
theorem comp2_outer (I : Nat → Shared → Prop) (hs : ∀ x, foldedSetIterable it2 env x = pure x)
    (turn : ∀ n s, I n s → wpAny (model prog w) A (pyNext iv) (fun r s₁ => match r with
      | none => R (.ok .next) s₁
      | some v => wpAny (model prog w) A (letOwnedTupleGo t1 iv v) (fun _ s₁' => wpAny (model prog w) A (assign t1 env v) (fun _ s₂ =>
          wpAny (model prog w) A (eval it2 env) (fun x s₃ => wpAny (model prog w) A (pyIter x) (fun jv s₄ =>
            codeAny (model prog w) A (.compStart (.ListComp elt [⟨t1, it1, [], 0⟩, ⟨t2, it2, [], 0⟩] scope pos) 1 jv acc env) (fun r s₅ => match r with | .ok _ => ∃ m, m < n ∧ I m s₅ | .error _ => False) s₄) E0 s₃) E0 s₂) E0 s₁') E0 s₁) E0 s)
    (n : Nat) (h : I n s) : codeAny (model prog w) A (.compLoop (.ListComp elt [⟨t1, it1, [], 0⟩, ⟨t2, it2, [], 0⟩] scope pos) 0 iv acc env) R s := by
  refine codeAny_loop rfl I (fun n s hI => ?_) n h
  show wpAny _ A ((compTurn (.ListComp elt [⟨t1, it1, [], 0⟩, ⟨t2, it2, [], 0⟩] scope pos) 0 iv acc env).onRaise (fun x => do noteFrame x env; theTreesLotGoes x)) _ _ s
  refine wpAny_noted ?_
  rw [compTurn_two0]
  have e0 : ∀ (E : Value → Shared → Prop) e s, E0 e s → E e s := fun _ _ _ f => f.elim
  refine wpAny_bind (wpAny_standAt (wpAny_bind (wpAny_mono (turn n s hI) (fun r s₁ h₁ => ?_) (e0 _))))
  cases r with
  | none => exact wpAny_pure h₁
  | some v =>
    refine wpAny_bind (wpAny_mono h₁ (fun _ s₁' h₁' => ?_) (e0 _))
    refine wpAny_bind (wpAny_mono h₁' (fun _ s₂ h₂ => ?_) (e0 _))
    refine wpAny_bind (wpAny_mono h₂ (fun x s₃ h₃ => ?_) (e0 _))
    refine wpAny_bind (wpAny_standAt (wpAny_bind (wpAny_of_eq (hs x) ?_)))
    refine wpAny_bind (wpAny_holding (wpAny_mono h₃ (fun jv s₄ h₄ => ?_) (e0 _)))
    refine wpAny_bind (wpAny_runOwn (codeAny_mono h₄ fun r s₅ h₅ => ?_))
    cases r with
    | ok f => exact wpAny_pure ⟨rfl, h₅⟩
    | error e => exact h₅.elim
theorem comp2_inner (I : Nat → Shared → Prop)
    (turn : ∀ n s, I n s → wpAny (model prog w) A (pyNext iv) (fun r s₁ => match r with
      | none => R (.ok .next) s₁
      | some v => wpAny (model prog w) A (letOwnedTupleGo t2 iv v) (fun _ s₁' => wpAny (model prog w) A (assign t2 env v) (fun _ s₂ =>
          wpAny (model prog w) A (eval elt env) (fun x s₄ => wpAny (model prog w) A (call (.builtin "list.append") [acc, x]) (fun _ s₅ => ∃ m, m < n ∧ I m s₅) E0 s₄) E0 s₂) E0 s₁') E0 s₁) E0 s)
    (n : Nat) (h : I n s) : codeAny (model prog w) A (.compLoop (.ListComp elt [⟨t1, it1, [], 0⟩, ⟨t2, it2, [], 0⟩] scope pos) 1 iv acc env) R s := by
  refine codeAny_loop rfl I (fun n s hI => ?_) n h
  show wpAny _ A ((compTurn (.ListComp elt [⟨t1, it1, [], 0⟩, ⟨t2, it2, [], 0⟩] scope pos) 1 iv acc env).onRaise (fun x => do noteFrame x env; theTreesLotGoes x)) _ _ s
  refine wpAny_noted ?_
  rw [compTurn_two1]
  have e0 : ∀ (E : Value → Shared → Prop) e s, E0 e s → E e s := fun _ _ _ f => f.elim
  refine wpAny_bind (wpAny_standAt (wpAny_bind (wpAny_mono (turn n s hI) (fun r s₁ h₁ => ?_) (e0 _))))
  cases r with
  | none => exact wpAny_pure h₁
  | some v =>
    refine wpAny_bind (wpAny_mono h₁ (fun _ s₁' h₁' => ?_) (e0 _))
    refine wpAny_bind (wpAny_mono h₁' (fun _ s₂ h₂ => ?_) (e0 _))
    exact wpAny_bind (wpAny_bind (wpAny_mono h₂ (fun x s₄ h₄ => wpAny_bind (wpAny_mono h₄ (fun _ s₅ h₅ => wpAny_pure (wpAny_pure ⟨rfl, h₅⟩)) (e0 _))) (e0 _)))
theorem compStart_two1
    (h0 : codeAny (model prog w) A (.compLoop (.ListComp elt [⟨t1, it1, [], 0⟩, ⟨t2, it2, [], 0⟩] scope pos) 1 iv acc env) R s)
    (h : wpAny (model prog w) A (pyIter iv) (fun it' s' => codeAny (model prog w) A (.compLoop (.ListComp elt [⟨t1, it1, [], 0⟩, ⟨t2, it2, [], 0⟩] scope pos) 1 it' acc env) R s')
      (notedBy (model prog w) A env fun x s' => R (.error x) s') s) :
    codeAny (model prog w) A (.compStart (.ListComp elt [⟨t1, it1, [], 0⟩, ⟨t2, it2, [], 0⟩] scope pos) 1 iv acc env) R s := by
  refine codeAny_of_tree ?_
  show wpAny _ _ ((compStart (.ListComp elt [⟨t1, it1, [], 0⟩, ⟨t2, it2, [], 0⟩] scope pos) 1 iv acc env).onRaise (fun x => do noteFrame x env; standAt theWindowsPlace)) _ _ s
  refine wpAny_notedAt ?_
  unfold compStart
  show wpAny _ _ (ask >>= _) _ _ s
  refine wpAny_bind (wpAny_askSetting (wpAny_ite ?_))
  split
  · first
      | exact wpAny_bind (wpAny_pure (wpAny_pure (And.intro rfl h0)))
      | exact wpAny_pure (And.intro rfl h0)
  · first
      | exact wpAny_bind (wpAny_rule (wpAny_bind (wpAny_standAt (wpAny_bind (wpAny_mono h (fun it' s' h' => wpAny_pure (And.intro rfl h')) fun _ _ x => x)))))
      | (refine wpAny_bind (wpAny_rule ?_); show wpAny _ _ (standAt it2.pos >>= _) _ _ s; exact wpAny_bind (wpAny_standAt (wpAny_bind (wpAny_mono h (fun it' s' h' => wpAny_pure (And.intro rfl h')) fun _ _ x => x))))
end
section
variable {prog : Program} {w : World} {A : Around} {s : Shared} {c : Cfg} {env : Env} {Cs : List Addr} {D : Addr} {as bs : List Addr} {P P' : Heap → Prop} {F0 F1 : Frm} {h₀ : Heap} {σb σ σ' : Hp} {hb h h' : Heap} {acc : List V}
/-- one more iterator -/
theorem CSt.join (x : CSt c env Cs D as P F0 h₀ σb hb acc σ h) (ko : ∀ b o, h.get? b = some o → h'.get? b = some o) (sd : Stand bs P') (p : P' h') (bes : Beside bs h₀ σ h) : CSt c env Cs D (as ++ bs) (fun h => P h ∧ P' h) F0 h₀ σb hb acc σ h' := by
  have y := x.step (x.st.w.extend ko)
  have old : ∀ a, (∃ o, h.get? a = some o) → a ∉ bs := fun a ⟨o, e⟩ m => by rw [(bes a m).1] at e; cases e
  have hbn : ∀ a ∈ bs, hb.get? a = none := fun a m => by
    cases q : hb.get? a with
    | none => rfl
    | some o => obtain ⟨o', e⟩ := x.st.alive a o q; rw [(bes a m).1] at e; cases e
  refine ⟨⟨y.it, p⟩, ⟨fun q k t => ⟨x.sd.move q.1 (fun a m => k a (List.mem_append_left _ m)) t, sd.move q.2 (fun a m => k a (List.mem_append_right _ m)) t⟩, fun q a m => ?_, fun q a m => ?_⟩, y.lst, y.fr, y.st, y.bD, y.bC, fun a m => ?_, ⟨y.ne.1, fun m => ?_, fun a ma m => ?_⟩, fun z a e => ?_⟩
  · rcases List.mem_append.mp m with m | m
    · exact x.sd.notImm q.1 a m
    · exact sd.notImm q.2 a m
  · rcases List.mem_append.mp m with m | m
    · exact x.sd.there q.1 a m
    · exact sd.there q.2 a m
  · rcases List.mem_append.mp m with m | m
    · exact y.bI a m
    · exact ⟨hbn a m, (bes a m).2⟩
  · rcases List.mem_append.mp m with m | m
    · exact y.ne.2.1 m
    · obtain ⟨vs, k, e, _⟩ := x.lst; exact old D ⟨_, e⟩ m
  · rcases List.mem_append.mp m with m | m
    · exact y.ne.2.2 a ma m
    · exact old a (x.fr.ex a ma) m
  · obtain ⟨q1, q2, q3⟩ := y.cl z a e
    refine ⟨fun m => ?_, q2, q3⟩
    rcases List.mem_append.mp m with m | m
    · exact q1 m
    · refine old a ?_ m
      rcases q3 with q | ⟨o, q⟩
      · exact x.fr.ex a q
      · exact x.st.alive a o q
theorem CSt.part (x : CSt c env Cs D (as ++ bs) (fun h => P h ∧ P' h) F0 h₀ σb hb acc σ h) (sd : Stand as P) : CSt c env Cs D as P F0 h₀ σb hb acc σ h :=
  ⟨x.it.1, sd, x.lst, x.fr, x.st, x.bD, x.bC, fun a m => x.bI a (List.mem_append_left _ m), ⟨x.ne.1, fun m => x.ne.2.1 (List.mem_append_left _ m), fun a ma m => x.ne.2.2 a ma (List.mem_append_left _ m)⟩,
   fun y a e => ⟨fun m => (x.cl y a e).1 (List.mem_append_left _ m), (x.cl y a e).2⟩⟩
end
/-- the parts of such a comprehension -/
structure Comp2Ok (c : Cfg) (elt : Expr) (x1 x2 : Str) (it1 it2 : Expr) (scope : Scope) (a b1 b2 : PE) (i j : Nat) (fm : List (Option Nat)) : Prop where
  ok : scOk c scope.names = true
  kind : scope.kind = .function
  fm : fm = fmapOf c scope.names
  ci : CI c it1 .plain b1
  n1 : (Cfg.mk scope.names c.fns).names[i]? = some x1
  n2 : (Cfg.mk scope.names c.fns).names[j]? = some x2
  f1 : (Cfg.mk scope.names c.fns).sc.lookup x1 ≠ some .free
  f2 : (Cfg.mk scope.names c.fns).sc.lookup x2 ≠ some .free
  ne : i ≠ j
  c2 : CE { sc := scope.names, fns := c.fns } it2 b2
  s2 : ∀ env x, foldedSetIterable it2 env x = pure x
  ce : CE { sc := scope.names, fns := c.fns } elt a
theorem comp_tail2 {prog : Program} {w : World} {h₀ : Heap} {mg mb : Str → Option Value} {Φ : Fns} {n0 : Nat} {c : Cfg} {A : Around} {s : Shared} {σ : Hp} {env : Env} {own : Addr → Prop} {F : Frm} {hb : Heap} {I : It} {iv : Value} {as : List Addr} {elt it1 it2 : Expr} {x1 x2' : Str} {p1 p2 : Pos} {scope : Scope} {pos : Pos} {a b1 b2 : PE} {i j : Nat} {fm : List (Option Nat)} {Q : V → Hp → Prop}
    (C : Comp2Ok c elt x1 x2' it1 it2 scope a b1 b2 i j fm) (G : Gnd prog h₀ mg mb) (NM : NamesOk prog w h₀ mg n0 c.fns Φ) (R : Room A n0) (hen : ∀ k a, I = .enm k a → False)
    (hwb : W h₀ σ hb) (hf : FrOk c env own F h₀ σ hb) (ko : ∀ b o, hb.get? b = some o → s.heap.get? b = some o) (hit : ItRep s.heap iv as I) (bes : Beside as h₀ σ hb)
    (q : CompG2 Φ a i j b2 (frOf fm F) Q I σ) {RR : Value → Addr → Result → Shared → Prop} (hRR : CompEnd h₀ σ hb s Q RR) :
    wpAny (model prog w) A (newList []) (fun acc s₃ => wpAny (model prog w) A (newFunctionEnv scope env.globals (clGo env scope.names []) [] env.qual none .none (some env)) (fun cenv s₄ =>
      codeAny (model prog w) A (.compStart (.ListComp elt [⟨.Name x1 p1, it1, [], 0⟩, ⟨.Name x2' p2, it2, [], 0⟩] scope pos) 0 iv acc { cenv with scope := relabel scope env }) (RR acc cenv.locals) s₄) E0 s₃) E0 s := by
  obtain ⟨Inv, ⟨n, hi⟩, hinv⟩ := q
  have hfm := C.fm
  subst hfm
  have hh := R.handled
  have fr1 := inner_free_at (F := F) C.ok C.n1 C.f1
  have fr2 := inner_free_at (F := F) C.ok C.n2 C.f2
  refine comp_setup hh C.ok C.kind hwb hf ko hit bes fun env' Cs D s₃ m₃ x0 => ?_
  refine comp2_outer (fun n s' => ∃ I acc σ', Sm s s' ∧ Inv n I acc σ' ∧ (∀ k a, I = .enm k a → False) ∧ CSt { sc := scope.names, fns := c.fns } env' Cs D as (ItAt iv as I) (frOf (fmapOf c scope.names) F) h₀ σ hb acc σ' s'.heap) (C.s2 env') (fun n s' hI => ?_) n ⟨I, [], σ, m₃, hi, hen, x0⟩
  obtain ⟨I, acc, σ', mI, hi, hen, x⟩ := hI
  have q := hinv n I acc σ' hi
  split at q
  · exact q.elim
  · rename_i hn
    exact next_end hh x.st.w x.it hn fun s'' mE kk => x.over (mI.trans mE) kk q hRR
  · rename_i xx I' hn
    refine next_item hh x.st.w x.it (fun a m => (x.bI a m).2) hn hen fun y s₂ mm ry it' kk => ?_
    have hen' := next_kind hn hen
    have x2 := x.moved kk it' stand_it
    refine letGo_it it' hen' (wpAny_assign_Name (x2.fr.store x2.st.w C.n1 C.f1 ry fun s₃ m3 stx f1 => ?_))
    have x3 := x2.bound stx f1
    have sub1 : Sub0 (frOf (fmapOf c scope.names) F) ((frOf (fmapOf c scope.names) F).set i (some xx)) := sub_set fr1
    refine wpAny_mono (C.c2 ⟨G, NM, R, x3.st.w, x3.fr⟩ q) (fun v s₄ ⟨y4, σ4, r4, ⟨st4, m4⟩, q4⟩ => ?_) fun _ _ f => f
    have x4 := x3.step st4
    refine wpAny_mono (start_plain x4.st.w r4 q4) (fun jv s₅ ⟨m5, J, bs, noen, itJ, besJ, koJ, Inv2, ⟨k0, hi2⟩, hinv2⟩ => ?_) fun _ _ f => f
    have hJ : ∀ k a, J = .enm k a → False := fun k a e => absurd (noen k a e) (by simp)
    have x5 := x4.join koJ stand_it itJ besJ
    have mall : Sm s s₅ := ((((mI.trans mm).trans m3).trans m4).trans m5)
    have loop : codeAny (model prog w) A (.compLoop (.ListComp elt [⟨.Name x1 p1, it1, [], 0⟩, ⟨.Name x2' p2, it2, [], 0⟩] scope pos) 1 jv (.ref D) env') (fun r s₅ => match r with | .ok _ => ∃ m, m < n ∧ ∃ I acc σ', Sm s s₅ ∧ Inv m I acc σ' ∧ (∀ k a, I = .enm k a → False) ∧ CSt { sc := scope.names, fns := c.fns } env' Cs D as (ItAt iv as I) (frOf (fmapOf c scope.names) F) h₀ σ hb acc σ' s₅.heap | .error _ => False) s₅ := by
      refine comp2_inner (fun m s' => ∃ J acc σ', Sm s s' ∧ Inv2 m J acc σ' ∧ (∀ k a, J = .enm k a → False) ∧ CSt { sc := scope.names, fns := c.fns } env' Cs D (as ++ bs) (fun h => ItAt iv as I' h ∧ ItAt jv bs J h) ((frOf (fmapOf c scope.names) F).set i (some xx)) h₀ σ hb acc σ' s'.heap) (fun m s' hI => ?_) k0 ⟨J, acc, σ4, mall, hi2, hJ, x5⟩
      obtain ⟨J, acc, σ', mJ, hi2, hJ, x⟩ := hI
      have q := hinv2 m J acc σ' hi2
      have disj : ∀ a ∈ as, a ∉ bs := fun a ma mb => by
        obtain ⟨o, e⟩ := x4.sd.there x4.it a ma
        rw [(besJ a mb).1] at e; cases e
      have bb : ∀ a ∈ bs, σ' a = none ∧ h₀.get? a = none := fun a m => (x.bI a (List.mem_append_right _ m)).2
      have kp : ∀ {h'' : Heap} {J' : It}, (∀ b o, b ∉ bs → s'.heap.get? b = some o → h''.get? b = some o) → (∀ b o, b ∉ as ++ bs → s'.heap.get? b = some o → h''.get? b = some o) ∧ ItAt iv as I' h'' := fun kk =>
        ⟨fun b o nb e => kk b o (fun m => nb (List.mem_append_right _ m)) e, ItRep.move x.it.1 (fun a m o e => kk a o (disj a m) e) (x.st.w.slip bb (ItRep.notImm x.it.2) kk).2⟩
      split at q
      · exact q.elim
      · rename_i hn2
        refine next_end hh x.st.w x.it.2 hn2 fun s'' mE kk => ?_
        obtain ⟨n', hn', q'⟩ := q
        refine ⟨n', hn', I', acc, σ', mJ.trans mE, q', hen', ?_⟩
        have xp := x.part stand_it
        have st := StepX.slip x.st (fun a m => x.bI a (List.mem_append_right _ m)) (ItRep.notImm x.it.2) kk
        have t := (x.st.w.slip bb (ItRep.notImm x.it.2) kk).2
        have nb : ∀ a, a ∈ as ++ bs → a ∉ bs → a ∈ as := fun a m n => (List.mem_append.mp m).resolve_right n
        refine ⟨(kp (J' := J) kk).2, stand_it, ?_, ?_, st, xp.bD, xp.bC, xp.bI, xp.ne, xp.cl⟩
        · obtain ⟨vs, j, e, r⟩ := x.lst
          exact ⟨vs, j, kk D _ (fun m => x.ne.2.1 (List.mem_append_right _ m)) e, r.tups t⟩
        · refine FrOk.move (x.fr.weak sub1) (fun o e => kk _ o (fun m => x.ne.2.2 _ x.fr.loc.1 (List.mem_append_right _ m)) e) (fun y a e o e2 => kk a o (fun m => (x.cl y a e).1 (List.mem_append_right _ m)) e2) t (fun a m => ?_)
          obtain ⟨o, e⟩ := x.fr.ex a m
          exact ⟨o, kk a o (fun m' => x.ne.2.2 a m (List.mem_append_right _ m')) e⟩
      · rename_i zz J' hn2
        refine next_item hh x.st.w x.it.2 bb hn2 hJ fun y s₂ mm ry itJ' kk => ?_
        have hJ' := next_kind hn2 hJ
        obtain ⟨k1, k2⟩ := kp (J' := J') kk
        have x2 := x.moved k1 (P' := fun h => ItAt iv as I' h ∧ ItAt jv bs J' h) ⟨k2, itJ'⟩ ⟨fun q k t => ⟨ItRep.move q.1 (fun a m => k a (List.mem_append_left _ m)) t, ItRep.move q.2 (fun a m => k a (List.mem_append_right _ m)) t⟩,
          fun q a m => (List.mem_append.mp m).elim (ItRep.notImm q.1 a) (ItRep.notImm q.2 a), fun q a m => (List.mem_append.mp m).elim (ItRep.there q.1 a) (ItRep.there q.2 a)⟩
        refine letGo_it itJ' hJ' (wpAny_assign_Name (x2.fr.store x2.st.w C.n2 C.f2 ry fun s₃ m3 stx f1 => ?_))
        have x3 := x2.bound stx f1
        have sub2 : Sub0 ((frOf (fmapOf c scope.names) F).set i (some xx)) (((frOf (fmapOf c scope.names) F).set i (some xx)).set j (some zz)) := sub_set fun v e => by
          rw [List.getElem?_set_ne C.ne] at e; exact fr2 v e
        refine wpAny_mono (C.ce ⟨G, NM, R, x3.st.w, x3.fr⟩ q) (fun v s₅ ⟨y5, σ5, r5, ⟨st5, m5⟩, hl, m', hm, q5⟩ => ?_) fun _ _ f => f
        exact (x3.step st5).append sub2 r5 hl fun s₆ m6 x6 => ⟨m', hm, J', _, σ5, ((((mJ.trans mm).trans m3).trans m5).trans m6), q5, hJ', x6⟩
    exact compStart_two1 loop (pyIter_self hh itJ loop)
section
variable {c : Cfg} {p q p1 p2 : Pos} {elt it1 it2 : Expr} {x1 x2 : Str} {scope : Scope} {a b1 b2 : PE} {i j : Nat} {fm : List (Option Nat)}
theorem CE.comp2 (C : Comp2Ok c elt x1 x2 it1 it2 scope a b1 b2 i j fm) : CE c (.ListComp elt [⟨.Name x1 p1, it1, [], 0⟩, ⟨.Name x2 p2, it2, [], 0⟩] scope p) (.comp2 fm a i b1 j b2) := by
  intro prog w h₀ mg mb Φ n A s σ env own F Q X v
  rw [eval_ListComp]
  refine wpAny_comprehension_free (use := .none) rfl (C.ci.1 env) (clos_ok C.ok X.f) C.kind (scOk_names C.ok) (wpAny_mono (C.ci.2 X v) (fun x s₁ h => ?_) fun _ _ f => f)
  refine wpAny_mono h (fun it s₂ ⟨σ₁, s₀, st, m₁, m₂, I, as, ne, hit, bes, ko, q⟩ => ?_) fun _ _ f => f
  exact comp_tail2 C X.G X.NM X.R (fun k a e => absurd (ne k a e) (by decide)) st.w (X.f.step st) ko hit bes q (rr_none st.w (fun _ s' pv m₃ => PVh.lift pv st (m₁.trans (m₂.trans m₃))))
theorem CS.assignC2 {x : Str} {i0 : Nat} (hx : c.names[i0]? = some x) (nf : c.sc.lookup x ≠ some .free) (C : Comp2Ok c elt x1 x2 it1 it2 scope a b1 b2 i j fm) {cp : Pos} :
    CS c (.Assign [.Name x q] (.ListComp elt [⟨.Name x1 p1, it1, [], 0⟩, ⟨.Name x2 p2, it2, [], 0⟩] scope cp) p) (.assign (.name i0) (.comp2 fm a i b1 j b2)) := by
  intro prog w h₀ mg mb Φ n A s σ env own F Q X v
  obtain ⟨bb, hb⟩ : ∃ bb, swapsWith (.ListComp elt [⟨.Name x1 p1, it1, [], 0⟩, ⟨.Name x2 p2, it2, [], 0⟩] scope cp) (some (.Name x q)) p.line env = pure bb := ⟨_, rfl⟩
  cases bb with
  | false =>
    refine wpAny_Assign_Name (wpAny_mono (CE.comp2 C X v) (fun y s₁ => PV.on fun z σ₁ rz st m₁ q => ?_) fun _ _ f => f) hb
    exact (X.f.step st).store st.w hx nf rz fun s' m' st' hf' => .next ((Step.any st).trans st') (m₁.trans m') hf' q
  | true =>
    rw [exec_Assign_Name_used _ _ _ _ hb]
    refine wpAny_bind (wpAny_standAt (wpAny_bind ?_))
    show wpAny _ A (do let _ ← comprehension (.ListComp elt [⟨.Name x1 p1, it1, [], 0⟩, ⟨.Name x2 p2, it2, [], 0⟩] scope cp) scope env _ (newList []) false (eval it1 env) (some (PySem.assign (.Name x q) env))) _ _ s
    have key : wpAny (model prog w) A (comprehension (.ListComp elt [⟨.Name x1 p1, it1, [], 0⟩, ⟨.Name x2 p2, it2, [], 0⟩] scope cp) scope env (firstIterPos [⟨.Name x1 p1, it1, [], 0⟩, ⟨.Name x2 p2, it2, [], 0⟩] cp) (newList []) false (eval it1 env) (some (PySem.assign (.Name x q) env))) (fun _ s' => PSt c env own h₀ σ s Q .next s') E0 s := by
      refine wpAny_comprehension_free (use := some (PySem.assign (.Name x q) env)) rfl (C.ci.1 env) (clos_ok C.ok X.f) C.kind (scOk_names C.ok) (wpAny_mono (C.ci.2 X v) (fun x s₁ h => ?_) fun _ _ f => f)
      refine wpAny_mono h (fun it s₂ ⟨σ₁, s₀, st, m₁, m₂, I, as, ne, hit, bes, ko, q⟩ => ?_) fun _ _ f => f
      exact comp_tail2 C X.G X.NM X.R (fun k a e => absurd (ne k a e) (by decide)) st.w (X.f.step st) ko hit bes q (rr_some (Q := Q) hx nf X.R.handled m₂ st.w (X.f.step st) (fun _ _ pv => pv.back (Step.any st) m₁))
    exact wpAny_bind (wpAny_mono key (fun _ s' hq => wpAny_pure (wpAny_pure hq)) fun _ _ e => e)
end

/-! X11 -/
section
variable {σ : Hp} {Q : V → Hp → Prop} {a b : Addr} {xs : List V}
theorem eq_nil (e1 : listAt σ a = some xs) (e2 : listAt σ b = some []) (q : Q (.bool xs.isEmpty) σ) : opCmp .Eq (.ref a) (.ref b) Q σ := by
  cases xs with
  | nil => exact isDat_int.eq (xs := []) e1 e2 q
  | cons x xs =>
    refine CmpS.mk ?_
    intro prog w A s h₀ n va vb R ra rb hw
    cases ra; cases rb
    obtain ⟨vs, hl, r⟩ := hw.list e1
    obtain ⟨ws, hl2, r2⟩ := hw.list e2
    cases r2
    have := r.length
    exact SeqAt.eq_list_lengthsAt hl hl2 (by simp at this ⊢; intro e; subst e; simp at this) (by have := R.units; show A.units < 9900; omega) (PV.same' hw (.bool _) q)
theorem ne_nil (e1 : listAt σ a = some xs) (e2 : listAt σ b = some []) (q : Q (.bool (!xs.isEmpty)) σ) : opCmp .NotEq (.ref a) (.ref b) Q σ := by
  cases xs with
  | nil => exact isDat_int.ne (xs := []) e1 e2 q
  | cons x xs =>
    refine CmpS.mk ?_
    intro prog w A s h₀ n va vb R ra rb hw
    cases ra; cases rb
    obtain ⟨vs, hl, r⟩ := hw.list e1
    obtain ⟨ws, hl2, r2⟩ := hw.list e2
    cases r2
    have := r.length
    exact SeqAt.RcNeAt.lists_lengths hl hl2 (by simp at this ⊢; intro e; subst e; simp at this) (by have := R.units; show A.units < 9900; omega) prog w _ _ (PV.same' hw (.bool _) q)
end
theorem fm_range {α : Type} (xs : List α) : ∀ (m a : Nat), (((List.range m).map fun (k : Nat) => a + k).filterMap (xs[·]?)) = (xs.drop a).take m
  | 0, a => by simp
  | m + 1, a => by
    rw [List.range_succ, List.map_append, List.filterMap_append, fm_range xs m a, List.take_add_one, List.getElem?_drop]
    simp only [List.map_cons, List.map_nil, List.filterMap_cons, List.filterMap_nil]
    cases xs[a + m]? <;> rfl
theorem pick_take {α : Type} (xs : List α) (k : Nat) : pickI xs none (some (k : Int)) none = xs.take k := by
  unfold pickI
  have h1 : ¬ ((k : Int) < 0) := by omega
  simp only [sliceBounds, sliceRange, Option.getD_none, h1, if_false, show (1 : Int) > 0 by decide, if_true]
  have e : (List.map (fun (j : Nat) => ((0 : Int) + 1 * (j : Int)).toNat) (List.range (if max 0 (min (k : Int) xs.length) > 0 then (max 0 (min (k : Int) xs.length) - 0 + 1 - 1) / 1 else 0).toNat)) = (List.range (min k xs.length)).map fun j => 0 + j := by
    have : (if max 0 (min (k : Int) xs.length) > 0 then (max 0 (min (k : Int) xs.length) - 0 + 1 - 1) / 1 else 0).toNat = min k xs.length := by
      rw [Int.ediv_one]; split <;> omega
    rw [this]
    refine List.map_congr_left fun j _ => ?_
    omega
  first
    | rw [e]
    | (simp only [Int.zero_add] at e ⊢; rw [e])
  rw [fm_range, List.drop_zero]
  rcases Nat.le_total k xs.length with h | h
  · rw [Nat.min_eq_left h]
  · rw [Nat.min_eq_right h, List.take_length, List.take_of_length_le h]
theorem pick_drop {α : Type} (xs : List α) (k : Nat) : pickI xs (some (k : Int)) none none = xs.drop k := by
  unfold pickI
  have h1 : ¬ ((k : Int) < 0) := by omega
  simp only [sliceBounds, sliceRange, Option.getD_none, h1, if_false, show (1 : Int) > 0 by decide, if_true]
  have e : (List.map (fun (j : Nat) => (max 0 (min (k : Int) xs.length) + 1 * (j : Int)).toNat) (List.range (if (xs.length : Int) > max 0 (min (k : Int) xs.length) then ((xs.length : Int) - max 0 (min (k : Int) xs.length) + 1 - 1) / 1 else 0).toNat)) = (List.range (xs.length - k)).map fun j => min k xs.length + j := by
    have : (if (xs.length : Int) > max 0 (min (k : Int) xs.length) then ((xs.length : Int) - max 0 (min (k : Int) xs.length) + 1 - 1) / 1 else 0).toNat = xs.length - k := by
      rw [Int.ediv_one]; split <;> omega
    rw [this]
    refine List.map_congr_left fun j _ => ?_
    omega
  rw [e, fm_range]
  rcases Nat.le_total k xs.length with h | h
  · rw [Nat.min_eq_left h, List.take_of_length_le (by simp)]
  · rw [Nat.min_eq_right h, List.drop_of_length_le h]; simp
theorem pick_mapV (xs : List V) (lo hi st : Option Int) : pickL xs lo hi st = pickI xs lo hi st := rfl
theorem slice_take {σ : Hp} {Q : V → Hp → Prop} {a : Addr} {xs : List V} {k : Nat} (e : listAt σ a = some xs) (hb : xs.length ≤ BIG) (q : newL (xs.take k) Q σ) : opSlice (.ref a) .none (.int (k : Int)) .none Q σ := by
  refine ⟨_, e, ?_⟩
  show none ≠ some (0 : Int) ∧ newL (pickL xs none (some (k : Int)) none) _ σ
  refine ⟨by simp, ?_⟩
  rw [pick_mapV, pick_take]; exact q
theorem slice_drop {σ : Hp} {Q : V → Hp → Prop} {a : Addr} {xs : List V} {k : Nat} (e : listAt σ a = some xs) (hb : xs.length ≤ BIG) (q : newL (xs.drop k) Q σ) : opSlice (.ref a) (.int (k : Int)) .none .none Q σ := by
  refine ⟨_, e, ?_⟩
  show none ≠ some (0 : Int) ∧ newL (pickL xs (some (k : Int)) none none) _ σ
  refine ⟨by simp, ?_⟩
  rw [pick_mapV, pick_drop]; exact q
/-- two for clauses that change nothing -/
theorem comp2_rule {Φ : Fns} {elt b2 : PE} {i j : Nat} {F0 : Frm} {Q : V → Hp → Prop} {σ : Hp} {I : It} {xs : List V} (ks : V → List V) (hb : (xs.flatMap ks).length ≤ BIG) (hy : Yields (· = σ) I xs)
    (h2 : ∀ x ∈ xs, ∀ K : V → Hp → Prop, (∀ a, listAt σ a = some (ks x) → K (.ref a) σ) → vE Φ b2 K (F0.set i (some x)) σ)
    (he : ∀ x z (K : V → Hp → Prop), K z σ → vE Φ elt K ((F0.set i (some x)).set j (some z)) σ) (q : newL (xs.flatMap ks) Q σ) : CompG2 Φ elt i j b2 F0 Q I σ := by
  refine ⟨fun n I acc τ => ∃ rest pre, rest.length = n ∧ xs = pre ++ rest ∧ Yields (· = σ) I rest ∧ acc = pre.flatMap ks ∧ τ = σ, ⟨_, xs, [], rfl, rfl, hy, rfl, rfl⟩, ?_⟩
  rintro n I acc τ ⟨rest, pre, rfl, hx, hy, rfl, rfl⟩
  cases rest with
  | nil =>
    rw [hy τ rfl]
    simp only [List.append_nil] at hx; subst hx
    exact q
  | cons x rest =>
    obtain ⟨I', e, hy'⟩ := hy
    rw [e τ rfl]
    have hlen : (pre.flatMap ks).length + (ks x).length ≤ BIG := by
      rw [hx] at hb; simp only [List.flatMap_append, List.flatMap_cons, List.length_append] at hb; omega
    refine h2 x (by rw [hx]; simp) _ fun a ha => ⟨⟨_, ha⟩, ?_⟩
    refine ⟨fun m J acc' τ' => ∃ k, k + m = (ks x).length ∧ Yields (· = τ) J ((ks x).drop k) ∧ acc' = pre.flatMap ks ++ (ks x).take k ∧ τ' = τ, ⟨(ks x).length, 0, by omega, ?_, by simp, rfl⟩, ?_⟩
    · have := yields_lst (H := (· = τ)) (a := a) (xs := ks x) (fun τ' h => by rw [h]; exact ha) _ 0 rfl
      simpa using this
    · rintro m J acc' τ' ⟨k, hk, hyk, rfl, rfl⟩
      cases m with
      | zero =>
        rw [List.drop_eq_nil_of_le (by omega)] at hyk
        rw [hyk _ rfl]
        refine ⟨rest.length, by simp, rest, pre ++ [x], rfl, by rw [hx]; simp, hy', ?_, rfl⟩
        rw [List.take_of_length_le (by omega)]; simp
      | succ m =>
        have hk' : k < (ks x).length := by omega
        rw [List.drop_eq_getElem_cons hk'] at hyk
        obtain ⟨J', e2, hyk'⟩ := hyk
        rw [e2 _ rfl]
        refine he x _ _ ⟨by rw [List.length_append, List.length_take]; omega, m, by omega, k + 1, by omega, hyk', ?_, rfl⟩
        rw [List.take_add_one, List.getElem?_eq_getElem hk']; simp

/-! P05 -/
/-! law 05: an order in which each place comes behind those below it -/
theorem all_len : ∀ (n : Nat) (l : List Nat), (∀ p, p < n → p ∈ l) → n ≤ l.length := by
  intro n
  induction n with
  | zero => intro l _; omega
  | succ n ih =>
    intro l h
    have hm := h n (by omega)
    have := ih (l.erase n) fun p hp => (List.mem_erase_of_ne (by omega)).mpr (h p (by omega))
    rw [List.length_erase_of_mem hm] at this
    have := List.length_pos_of_mem hm
    omega
theorem nodup_len : ∀ (n : Nat) (l : List Nat), l.Nodup → (∀ p ∈ l, p < n) → l.length ≤ n := by
  intro n
  induction n with
  | zero => intro l _ h; cases l with
    | nil => simp
    | cons a l => have := h a (.head _); omega
  | succ n ih =>
    intro l hd h
    have := ih (l.erase n) (hd.erase n) fun p hp => by
      have h1 := List.mem_of_mem_erase hp
      have h2 : p ≠ n := by rintro rfl; exact (List.Nodup.not_mem_erase hd) hp
      have := h p h1; omega
    have h3 : l.length ≤ (l.erase n).length + 1 := by
      by_cases hm : n ∈ l
      · rw [List.length_erase_of_mem hm]; omega
      · rw [List.erase_of_not_mem hm]; omega
    omega
theorem erase_perm {α : Type} : ∀ (l : List α) (i : Nat) (c : α), l[i]? = some c → (c :: l.eraseIdx i).Perm l
  | [], i, c, h => by simp at h
  | x :: l, 0, c, h => by simp at h; subst h; exact .refl _
  | x :: l, i + 1, c, h => by
    have := erase_perm l i c (by simpa using h)
    exact (List.Perm.swap x c _).trans (this.cons x)
/-- the drawing, amid -/
structure Draw (n : Nat) (ord free : List Nat) : Prop where
  nd : (ord ++ free).Nodup
  lt : ∀ p ∈ ord ++ free, p < n
  zero : 0 ∈ ord ++ free
  par : ∀ pre p post, ord = pre ++ p :: post → p ≠ 0 → (p - 1) / 2 ∈ pre
  fpar : ∀ p ∈ free, p ≠ 0 → (p - 1) / 2 ∈ ord
  kid : ∀ p ∈ ord, ∀ c, (c = 2 * p + 1 ∨ c = 2 * p + 2) → c < n → c ∈ ord ++ free
def kidsN (n c : Nat) : List Nat := [2 * c + 1, 2 * c + 2].filter fun k => decide (k < n)
theorem draw_start {n : Nat} (h : 0 < n) : Draw n [] [0] :=
  ⟨by simp, fun p hp => by simp at hp; omega, by simp, fun pre p post e => by simp at e, fun p hp h0 => by simp at hp; omega, fun p hp => by simp at hp⟩
theorem Draw.step {n : Nat} {ord free : List Nat} (d : Draw n ord free) {i c : Nat} (hc : free[i]? = some c) : Draw n (ord ++ [c]) (free.eraseIdx i ++ kidsN n c) := by
  obtain ⟨hi, ec⟩ := List.getElem?_eq_some_iff.mp hc
  have pe : (c :: free.eraseIdx i).Perm free := erase_perm free i c hc
  have cm : c ∈ free := List.mem_of_getElem? hc
  have ms : ∀ x, x ∈ free ↔ x = c ∨ x ∈ free.eraseIdx i := fun x => by rw [← pe.mem_iff]; exact List.mem_cons
  have kk : ∀ x, x ∈ kidsN n c ↔ (x = 2 * c + 1 ∨ x = 2 * c + 2) ∧ x < n := fun x => by simp [kidsN]
  have notin : ∀ x, x ∈ kidsN n c → x ∉ ord ++ free := fun x hx hm => by
    obtain ⟨hk, _⟩ := (kk x).mp hx
    have px : (x - 1) / 2 = c := by omega
    have c_no : c ∉ ord := fun h => by
      have := (List.nodup_append.mp d.nd).2.2 c h c cm
      exact this rfl
    rcases List.mem_append.mp hm with h | h
    · obtain ⟨a, b, e⟩ := List.append_of_mem h
      have := d.par a x b e (by omega)
      rw [px] at this
      exact c_no (by rw [e]; exact List.mem_append_left _ this)
    · have := d.fpar x h (by omega)
      rw [px] at this
      exact c_no this
  have np : ((ord ++ [c]) ++ (free.eraseIdx i ++ kidsN n c)).Perm ((ord ++ free) ++ kidsN n c) := by
    have : ((ord ++ [c]) ++ free.eraseIdx i).Perm (ord ++ free) := by
      rw [List.append_assoc]; exact List.Perm.append_left _ pe
    rw [← List.append_assoc]
    exact this.append_right _
  refine ⟨?_, fun p hp => ?_, ?_, fun pre p post e h0 => ?_, fun p hp h0 => ?_, fun p hp k hk hn => ?_⟩
  · rw [np.nodup_iff, List.nodup_append]
    refine ⟨d.nd, ?_, fun a ha b hb => by rintro rfl; exact notin a hb ha⟩
    unfold kidsN
    exact List.Nodup.sublist List.filter_sublist (by simp)
  · rcases List.mem_append.mp (np.mem_iff.mp hp) with h | h
    · exact d.lt p h
    · exact ((kk p).mp h).2
  · exact np.mem_iff.mpr (List.mem_append_left _ d.zero)
  · rcases List.append_eq_append_iff.mp e with ⟨as, e1, e2⟩ | ⟨bs, e1, e2⟩
    · cases as with
      | nil =>
        simp at e2 e1
        obtain ⟨rfl, rfl⟩ := e2
        rw [e1]; exact d.fpar c cm h0
      | cons a as => simp at e2
    · cases bs with
      | nil =>
        simp at e2 e1
        obtain ⟨rfl, rfl⟩ := e2
        rw [← e1]; exact d.fpar p cm h0
      | cons b bs =>
        simp at e2
        obtain ⟨rfl, e2⟩ := e2
        exact d.par pre p bs e1 h0
  · rcases List.mem_append.mp hp with h | h
    · exact List.mem_append_left _ (d.fpar p ((ms p).mpr (.inr h)) h0)
    · obtain ⟨hk, _⟩ := (kk p).mp h
      have : (p - 1) / 2 = c := by omega
      rw [this]; simp
  · refine np.mem_iff.mpr ?_
    rcases List.mem_append.mp hp with h | h
    · exact List.mem_append_left _ (d.kid p h k hk hn)
    · simp at h; subst h
      exact List.mem_append_right _ ((kk k).mpr ⟨hk, hn⟩)
theorem Draw.cover {n : Nat} {ord : List Nat} (d : Draw n ord []) : ∀ p, p < n → p ∈ ord := by
  intro p
  induction p using Nat.strongRecOn with
  | ind p ih =>
    intro hp
    rcases Nat.eq_zero_or_pos p with h | h
    · subst h; simpa using d.zero
    · have := ih ((p - 1) / 2) (by omega) (by omega)
      simpa using d.kid _ this p (by omega) hp
theorem Draw.more {n : Nat} {ord free : List Nat} (d : Draw n ord free) (h : ord.length < n) : 0 < free.length := by
  cases free with
  | nil => have := all_len n ord d.cover; omega
  | cons a l => simp
theorem Draw.done {n : Nat} {ord free : List Nat} (d : Draw n ord free) (h : ord.length = n) : free = [] := by
  have := nodup_len n _ d.nd d.lt
  rw [List.length_append] at this
  exact List.length_eq_zero_iff.mp (by omega)
theorem Draw.anc {n : Nat} {ord free : List Nat} (d : Draw n ord free) {p q : Nat} (h : Desc p q) : ∀ pre post, ord = pre ++ q :: post → q ≠ p → p ∈ pre := by
  induction h with
  | refl => intro pre post e n; exact absurd rfl n
  | left h ih =>
    rename_i r
    intro pre post e hn
    have := d.par pre _ post e (by omega)
    have e2 : (2 * r + 1 - 1) / 2 = r := by omega
    rw [e2] at this
    by_cases hr : r = p
    · subst hr; exact this
    · obtain ⟨u, v, e3⟩ := List.append_of_mem this
      have := ih u (v ++ (2 * r + 1) :: post) (by rw [e, e3]; simp) hr
      rw [e3]; exact List.mem_append_left _ this
  | right h ih =>
    rename_i r
    intro pre post e hn
    have := d.par pre _ post e (by omega)
    have e2 : (2 * r + 2 - 1) / 2 = r := by omega
    rw [e2] at this
    by_cases hr : r = p
    · subst hr; exact this
    · obtain ⟨u, v, e3⟩ := List.append_of_mem this
      have := ih u (v ++ (2 * r + 2) :: post) (by rw [e, e3]; simp) hr
      rw [e3]; exact List.mem_append_left _ this
/-- an order good for sinking -/
structure GoodOrd (n : Nat) (ord : List Nat) : Prop where
  nd : ord.Nodup
  lt : ∀ p ∈ ord, p < n
  all : ∀ p, p < n → p ∈ ord
  low : ∀ pre p post, ord = pre ++ p :: post → ∀ q, Desc p q → q ≠ p → q < n → q ∈ pre
theorem Draw.good {n : Nat} {ord free : List Nat} (d : Draw n ord free) (h : ord.length = n) : GoodOrd n ord.reverse := by
  have hf := d.done h
  subst hf
  have nd : ord.Nodup := by have := d.nd; simpa using this
  have lt : ∀ p ∈ ord, p < n := fun p hp => d.lt p (List.mem_append_left _ hp)
  refine ⟨List.pairwise_reverse.mpr (nd.imp fun h e => h e.symm), fun p hp => lt p (by simpa using hp), fun p hp => by simpa using d.cover p hp, fun pre p post e q hd hq hn => ?_⟩
  have e' : ord = post.reverse ++ p :: pre.reverse := by
    have := congrArg List.reverse e
    simpa using this
  have hm := d.cover q hn
  rw [e'] at hm
  rcases List.mem_append.mp hm with h1 | h1
  · exfalso
    have : q ∈ post.reverse := h1
    obtain ⟨u, v, e3⟩ := List.append_of_mem this
    have := d.anc hd u (v ++ p :: pre.reverse) (by rw [e', e3]; simp) hq
    rw [e', e3] at nd
    have := (List.nodup_append.mp nd).2.2 p (List.mem_append_left _ this) p (by simp)
    exact this rfl
  · rcases List.mem_cons.mp h1 with h1 | h1
    · exact absurd h1 hq
    · simpa using h1
section
variable {α : Type} {lt : α → α → Bool}
theorem GoodOrd.fold (S : SW lt) {items : List α} {ord : List Nat} (g : GoodOrd items.length ord) (h0 : 0 < items.length) : tr (ord.foldl (siftAt lt) items) 0 = heapT lt (tr items 0) :=
  fold_tr S items ord [] items rfl (fun p h => by cases h) (fun _ _ _ => rfl) (fun p h => by cases h) (fun p h => by cases h) g.nd (fun p hp => ⟨g.lt p hp, by simp⟩) (fun pre p post e q hd hq hn => .inr (g.low pre p post e q hd hq hn)) (fun p hp => .inr (g.all p hp)) h0
theorem GoodOrd.heapify (S : SW lt) {items : List α} {ord : List Nat} (g : GoodOrd items.length ord) (h0 : 0 < items.length) : ord.foldl (siftAt lt) items = heapifyF lt items :=
  tr_inj ((g.fold S h0).trans (heapify_tr S items h0).symm)
def Tr.ht : Tr α → Nat
  | .nil => 0
  | .node _ l r => max l.ht r.ht + 1
theorem tr_ht {ns : List α} : ∀ (d p : Nat), ns.length < 2 ^ d * (p + 1) → (tr ns p).ht ≤ d
  | 0, p, h => by rw [tr_none (by omega)]; simp [Tr.ht]
  | d + 1, p, h => by
    rcases Nat.lt_or_ge p ns.length with hp | hp
    · rw [tr_some (List.getElem?_eq_getElem hp)]
      have e : 2 ^ (d + 1) * (p + 1) = 2 ^ d * (2 * p + 1 + 1) := by
        rw [Nat.pow_succ, Nat.mul_assoc]
        have : 2 * (p + 1) = 2 * p + 1 + 1 := by omega
        rw [this]
      have le : 2 ^ d * (2 * p + 1 + 1) ≤ 2 ^ d * (2 * p + 2 + 1) := Nat.mul_le_mul_left _ (by omega)
      have h1 := tr_ht (ns := ns) d (2 * p + 1) (by omega)
      have h2 := tr_ht (ns := ns) d (2 * p + 2) (by omega)
      simp only [Tr.ht]; omega
    · rw [tr_none hp]; simp [Tr.ht]
theorem sinkT_ht (v : α) : ∀ (k : Nat) (l r : Tr α), l.ht ≤ k → r.ht ≤ k → (sinkT lt v l r).ht ≤ k + 1 := by
  intro k
  induction k with
  | zero =>
    intro l r h1 h2
    cases l with
    | nil => rw [sinkT]; simp [Tr.ht]
    | node a la ra => simp [Tr.ht] at h1
  | succ k ih =>
    intro l r h1 h2
    cases l with
    | nil => rw [sinkT]; simp [Tr.ht]
    | node a la ra =>
      simp only [Tr.ht] at h1
      have i1 := ih la ra (by omega) (by omega)
      cases r with
      | nil =>
        rw [sinkT]; split
        · simp only [Tr.ht]; omega
        · simp only [Tr.ht]; omega
      | node b lb rb =>
        simp only [Tr.ht] at h2
        have i2 := ih lb rb (by omega) (by omega)
        rw [sinkT]; split
        · split <;> simp only [Tr.ht] <;> omega
        · split <;> simp only [Tr.ht] <;> omega
theorem heapT_ht (lt : α → α → Bool) : ∀ t : Tr α, (heapT lt t).ht ≤ t.ht
  | .nil => Nat.le_refl _
  | .node x l r => by
    have h1 := heapT_ht lt l
    have h2 := heapT_ht lt r
    have := sinkT_ht (lt := lt) x (max l.ht r.ht) (heapT lt l) (heapT lt r) (by omega) (by omega)
    simp only [heapT, Tr.ht]; omega
end

/-! Vc05 -/
theorem Ext.set {σ τ : Hp} {a : Addr} (h : Ext σ τ) (o : AObj) (f : σ a = none) : Ext σ (Mine.upd τ a o) := fun b p e => by
  rw [upd_ne _ _ (ne_of e f)]; exact h b p e
section
variable {α : Type}
def TreeAt (f : α → V) (B σ : Hp) : Tr α → V → Prop
  | .nil, _ => False
  | .node x l r, v => ∃ a tb kids, v = .ref a ∧ σ a = some (.list [f x, .ref tb]) ∧ σ tb = some (.list kids) ∧ (B a = none ∧ B tb = none) ∧
      ((l = .nil ∧ r = .nil ∧ kids = []) ∨ (r = .nil ∧ ∃ u, kids = [u] ∧ TreeAt f B σ l u) ∨ (∃ u w, kids = [u, w] ∧ TreeAt f B σ l u ∧ TreeAt f B σ r w))
def Kids (f : α → V) (B σ : Hp) (l r : Tr α) (kids : List V) : Prop := (l = .nil ∧ r = .nil ∧ kids = []) ∨ (r = .nil ∧ ∃ u, kids = [u] ∧ TreeAt f B σ l u) ∨ (∃ u w, kids = [u, w] ∧ TreeAt f B σ l u ∧ TreeAt f B σ r w)
theorem TreeAt.ext {f : α → V} {B σ τ : Hp} (h : Ext σ τ) : ∀ {t : Tr α} {v : V}, TreeAt f B σ t v → TreeAt f B τ t v
  | .nil, _, q => q
  | .node x l r, v, ⟨a, tb, kids, e1, e2, e3, eB, e4⟩ => by
    refine ⟨a, tb, kids, e1, h _ _ e2, h _ _ e3, eB, ?_⟩
    rcases e4 with q | ⟨q, u, q1, q2⟩ | ⟨u, w, q1, q2, q3⟩
    · exact .inl q
    · exact .inr (.inl ⟨q, u, q1, TreeAt.ext h q2⟩)
    · exact .inr (.inr ⟨u, w, q1, TreeAt.ext h q2, TreeAt.ext h q3⟩)
theorem Kids.ext {f : α → V} {B σ τ : Hp} (h : Ext σ τ) {l r : Tr α} {kids : List V} (q : Kids f B σ l r kids) : Kids f B τ l r kids := by
  rcases q with q | ⟨q, u, q1, q2⟩ | ⟨u, w, q1, q2, q3⟩
  · exact .inl q
  · exact .inr (.inl ⟨q, u, q1, q2.ext h⟩)
  · exact .inr (.inr ⟨u, w, q1, q2.ext h, q3.ext h⟩)
/-- the order of the items, told by the machine -/
def LtX (σ : Hp) (f : α → V) (lt : α → α → Bool) : Prop := ∀ x y τ (Q : V → Hp → Prop), Ext σ τ → Q (.bool (lt x y)) τ → opCmp .Lt (f x) (f y) Q τ
theorem LtX.ext {f : α → V} {lt : α → α → Bool} {σ τ : Hp} (h : LtX σ f lt) (e : Ext σ τ) : LtX τ f lt := fun x y ρ Q e2 q => h x y ρ Q (e.trans e2) q
end
def sinkC (d : Nat) (args : List V) (Q : V → Hp → Prop) (σ : Hp) : Prop :=
  ∃ (α : Type) (f : α → V) (lt : α → α → Bool) (item : α) (tb : Addr) (l r : Tr α) (kids : List V) (B : Hp), args = [f item, .ref tb] ∧ σ tb = some (.list kids) ∧ Ext B σ ∧ B tb = none ∧ Kids f B σ l r kids ∧ l.ht ≤ d ∧ r.ht ≤ d ∧ LtX σ f lt ∧
    ∀ τ v, Ext σ τ → TreeAt f B τ (sinkT lt item l r) v → Q v τ
def ps_sink2 (i : Nat) : List PS := [
  .ifs (.cmp .Lt (.sub (.sub (.var 1) (.var 2)) (.int 0)) (.var 0)) [.ret (.list [(.var 0), (.var 1)])] [],
  .ret (.list [(.sub (.sub (.var 1) (.var 2)) (.int 0)), (.bin .Add (.bin .Add (.slice (.var 1) none (some (.var 2)) none) (.list [(.ucall i [(.var 0), (.sub (.sub (.var 1) (.var 2)) (.int 1))])])) (.slice (.var 1) (some (.bin .Add (.var 2) (.int 1))) none none))])]
def ps_sink (i : Nat) : List PS := 
  .ifs (.cmp .Eq (.var 1) (.list [])) [.ret (.list [(.var 0), (.var 1)])] [] ::
  .assign (.name 2) (.ite (.cmp .Lt (.sub (.sub (.var 1) (.neg (.int 1))) (.int 0)) (.sub (.sub (.var 1) (.int 0)) (.int 0))) (.int 0) (.bin .Sub (.call .len [(.var 1)]) (.int 1))) ::
  ps_sink2 i
theorem set_split {α : Type} {l : List α} {k : Nat} {v : α} (h : k < l.length) : l.take k ++ [v] ++ l.drop (k + 1) = l.set k v := by
  rw [List.set_eq_take_append_cons_drop, if_pos h]; simp
theorem sink_tail {α : Type} {f : α → V} {lt : α → α → Bool} (Φ : Fns) (i d : Nat) (hΦ : ∀ args Q σ, sinkC d args Q σ → Φ i args Q σ) {Q : V → Hp → Prop} {τ : Hp} {item a : α} {tb ua ub : Addr} {kids ukids : List V} {k : Nat} {la ra : Tr α} (htb : τ tb = some (.list kids)) (hk : kids[k]? = some (.ref ua))
    (hu : τ ua = some (.list [f a, .ref ub])) (hub : τ ub = some (.list ukids)) {B : Hp} (xB : Ext B τ) (hbu : B ub = none) (hK : Kids f B τ la ra ukids) (h1 : la.ht ≤ d) (h2 : ra.ht ≤ d) (hl : kids.length ≤ 2) (X : LtX τ f lt)
    (q1 : lt a item = true → ∀ τ' va, Ext τ τ' → B va = none → τ' va = some (.list [f item, .ref tb]) → Q (.ref va) τ')
    (q2 : lt a item = false → ∀ τ' u' va vb, Ext τ τ' → B va = none ∧ B vb = none → TreeAt f B τ' (sinkT lt item la ra) u' → τ' va = some (.list [f a, .ref vb]) → τ' vb = some (.list (kids.set k u')) → Q (.ref va) τ') :
    vSs Φ (ps_sink2 i) (retV Q) [some (f item), some (.ref tb), some (.int (k : Nat))] τ := by
  have hk' := lt_of_some hk
  have s1 : nth kids (k : Int) = some (.ref ua) := by rw [nth_nat]; exact hk
  unfold ps_sink2
  (rw [ss_cons]; ((try simp only [e_int, e_bool, e_none, e_str, e_var, e_bin, e_neg, n_int, e_not, e_cmp, e_and, e_or, e_ite, e_sub, e_slice, e_list, e_tuple, e_call, e_ucall, e_meth, e_comp, t_not, t_and, t_or, t_cmp, t_var, t_sub, t_call, t_ucall, s_expr, s_assign, s_setitem, s_aug, s_augi, s_ifs, s_while, s_for, s_ret, s_brk, s_cont, ss_nil, c_range1, c_range2, c_range3, i_rng, i_ref, i_tup, i_enm, i_rev, bt_name, bt_tup, look_zero, look_succ, r_next, r_ret, sa_nil, sa_cons, es_nil, es_cons, o_none, o_some, ts_nil, ts_cons, c_lt, c_le, c_gt, c_ge, c_eq, c_ne, b_add, b_sub, b_mul, b_div, b_mod, b_pow, b_shr, a_add, a_mul, t_bool, t_int, List.map, List.cons_append, List.nil_append, List.getElem?_cons_succ, List.getElem?_cons_zero, List.set_cons_succ, List.set_cons_zero, frOf]); (repeat (first | rw [q_next] | rw [q_ret] | rw [q_cont] | rw [q_brk] | rw [ss_nil])); (try simp only [r_next, r_ret])))
  refine sub_list (listAt_list htb) s1 ?_
  refine sub_list (listAt_list hu) (k := 0) rfl ?_
  refine X a item τ _ .rfl ?_
  ((try simp only [e_int, e_bool, e_none, e_str, e_var, e_bin, e_neg, n_int, e_not, e_cmp, e_and, e_or, e_ite, e_sub, e_slice, e_list, e_tuple, e_call, e_ucall, e_meth, e_comp, t_not, t_and, t_or, t_cmp, t_var, t_sub, t_call, t_ucall, s_expr, s_assign, s_setitem, s_aug, s_augi, s_ifs, s_while, s_for, s_ret, s_brk, s_cont, ss_nil, c_range1, c_range2, c_range3, i_rng, i_ref, i_tup, i_enm, i_rev, bt_name, bt_tup, look_zero, look_succ, r_next, r_ret, sa_nil, sa_cons, es_nil, es_cons, o_none, o_some, ts_nil, ts_cons, c_lt, c_le, c_gt, c_ge, c_eq, c_ne, b_add, b_sub, b_mul, b_div, b_mod, b_pow, b_shr, a_add, a_mul, t_bool, t_int, List.map, List.cons_append, List.nil_append, List.getElem?_cons_succ, List.getElem?_cons_zero, List.set_cons_succ, List.set_cons_zero, frOf]); (repeat (first | rw [q_next] | rw [q_ret] | rw [q_cont] | rw [q_brk] | rw [ss_nil])); (try simp only [r_next, r_ret]))
  cases hc : lt a item with
  | true =>
    rw [if_pos rfl]
    (rw [ss_cons]; ((try simp only [e_int, e_bool, e_none, e_str, e_var, e_bin, e_neg, n_int, e_not, e_cmp, e_and, e_or, e_ite, e_sub, e_slice, e_list, e_tuple, e_call, e_ucall, e_meth, e_comp, t_not, t_and, t_or, t_cmp, t_var, t_sub, t_call, t_ucall, s_expr, s_assign, s_setitem, s_aug, s_augi, s_ifs, s_while, s_for, s_ret, s_brk, s_cont, ss_nil, c_range1, c_range2, c_range3, i_rng, i_ref, i_tup, i_enm, i_rev, bt_name, bt_tup, look_zero, look_succ, r_next, r_ret, sa_nil, sa_cons, es_nil, es_cons, o_none, o_some, ts_nil, ts_cons, c_lt, c_le, c_gt, c_ge, c_eq, c_ne, b_add, b_sub, b_mul, b_div, b_mod, b_pow, b_shr, a_add, a_mul, t_bool, t_int, List.map, List.cons_append, List.nil_append, List.getElem?_cons_succ, List.getElem?_cons_zero, List.set_cons_succ, List.set_cons_zero, frOf]); (repeat (first | rw [q_next] | rw [q_ret] | rw [q_cont] | rw [q_brk] | rw [ss_nil])); (try simp only [r_next, r_ret])))
    refine newL_of (big_of (by simp)) fun va τ1 x1 f1 g1 => ?_
    ((try simp only [e_int, e_bool, e_none, e_str, e_var, e_bin, e_neg, n_int, e_not, e_cmp, e_and, e_or, e_ite, e_sub, e_slice, e_list, e_tuple, e_call, e_ucall, e_meth, e_comp, t_not, t_and, t_or, t_cmp, t_var, t_sub, t_call, t_ucall, s_expr, s_assign, s_setitem, s_aug, s_augi, s_ifs, s_while, s_for, s_ret, s_brk, s_cont, ss_nil, c_range1, c_range2, c_range3, i_rng, i_ref, i_tup, i_enm, i_rev, bt_name, bt_tup, look_zero, look_succ, r_next, r_ret, sa_nil, sa_cons, es_nil, es_cons, o_none, o_some, ts_nil, ts_cons, c_lt, c_le, c_gt, c_ge, c_eq, c_ne, b_add, b_sub, b_mul, b_div, b_mod, b_pow, b_shr, a_add, a_mul, t_bool, t_int, List.map, List.cons_append, List.nil_append, List.getElem?_cons_succ, List.getElem?_cons_zero, List.set_cons_succ, List.set_cons_zero, frOf]); (repeat (first | rw [q_next] | rw [q_ret] | rw [q_cont] | rw [q_brk] | rw [ss_nil])); (try simp only [r_next, r_ret]))
    exact q1 hc τ1 va x1 (xB.fresh f1) g1
  | false =>
    rw [if_neg (by decide)]
    ((try simp only [e_int, e_bool, e_none, e_str, e_var, e_bin, e_neg, n_int, e_not, e_cmp, e_and, e_or, e_ite, e_sub, e_slice, e_list, e_tuple, e_call, e_ucall, e_meth, e_comp, t_not, t_and, t_or, t_cmp, t_var, t_sub, t_call, t_ucall, s_expr, s_assign, s_setitem, s_aug, s_augi, s_ifs, s_while, s_for, s_ret, s_brk, s_cont, ss_nil, c_range1, c_range2, c_range3, i_rng, i_ref, i_tup, i_enm, i_rev, bt_name, bt_tup, look_zero, look_succ, r_next, r_ret, sa_nil, sa_cons, es_nil, es_cons, o_none, o_some, ts_nil, ts_cons, c_lt, c_le, c_gt, c_ge, c_eq, c_ne, b_add, b_sub, b_mul, b_div, b_mod, b_pow, b_shr, a_add, a_mul, t_bool, t_int, List.map, List.cons_append, List.nil_append, List.getElem?_cons_succ, List.getElem?_cons_zero, List.set_cons_succ, List.set_cons_zero, frOf]); (repeat (first | rw [q_next] | rw [q_ret] | rw [q_cont] | rw [q_brk] | rw [ss_nil])); (try simp only [r_next, r_ret]))
    (rw [ss_cons]; ((try simp only [e_int, e_bool, e_none, e_str, e_var, e_bin, e_neg, n_int, e_not, e_cmp, e_and, e_or, e_ite, e_sub, e_slice, e_list, e_tuple, e_call, e_ucall, e_meth, e_comp, t_not, t_and, t_or, t_cmp, t_var, t_sub, t_call, t_ucall, s_expr, s_assign, s_setitem, s_aug, s_augi, s_ifs, s_while, s_for, s_ret, s_brk, s_cont, ss_nil, c_range1, c_range2, c_range3, i_rng, i_ref, i_tup, i_enm, i_rev, bt_name, bt_tup, look_zero, look_succ, r_next, r_ret, sa_nil, sa_cons, es_nil, es_cons, o_none, o_some, ts_nil, ts_cons, c_lt, c_le, c_gt, c_ge, c_eq, c_ne, b_add, b_sub, b_mul, b_div, b_mod, b_pow, b_shr, a_add, a_mul, t_bool, t_int, List.map, List.cons_append, List.nil_append, List.getElem?_cons_succ, List.getElem?_cons_zero, List.set_cons_succ, List.set_cons_zero, frOf]); (repeat (first | rw [q_next] | rw [q_ret] | rw [q_cont] | rw [q_brk] | rw [ss_nil])); (try simp only [r_next, r_ret])))
    refine sub_list (listAt_list htb) s1 ?_
    refine sub_list (listAt_list hu) (k := 0) rfl ?_
    refine slice_take (listAt_list htb) (big_of (by omega)) (newL_of (big_of (by rw [List.length_take]; omega)) fun p1 τ1 x1 f1 g1 => ?_)
    refine sub_list (listAt_list (x1 _ _ htb)) s1 ?_
    refine sub_list (listAt_list (x1 _ _ hu)) (k := 1) rfl ?_
    refine hΦ _ _ _ ⟨α, f, lt, item, ub, la, ra, ukids, B, rfl, x1 _ _ hub, xB.trans x1, hbu, hK.ext x1, h1, h2, X.ext x1, fun τ2 u' x2 ht => ?_⟩
    refine newL_of (big_of (by simp)) fun p2 τ3 x3 f3 g3 => ?_
    refine add_lists (listAt_list (x3 _ _ (x2 _ _ g1))) (listAt_list g3) (newL_of (big_of (by rw [List.length_append, List.length_take]; simp; omega)) fun p4 τ4 x4 f4 g4 => ?_)
    have x14 := ((x1.trans x2).trans x3).trans x4
    have e1 : (k : Int) + 1 = ((k + 1 : Nat) : Int) := by omega
    rw [e1]
    refine slice_drop (listAt_list (x14 _ _ htb)) (big_of (by omega)) (newL_of (big_of (by rw [List.length_drop]; omega)) fun p5 τ5 x5 f5 g5 => ?_)
    refine add_lists (listAt_list (x5 _ _ g4)) (listAt_list g5) ?_
    rw [set_split hk']
    refine newL_of (big_of (by rw [List.length_set]; omega)) fun vb τ6 x6 f6 g6 => ?_
    refine newL_of (big_of (by simp)) fun va τ7 x7 f7 g7 => ?_
    ((try simp only [e_int, e_bool, e_none, e_str, e_var, e_bin, e_neg, n_int, e_not, e_cmp, e_and, e_or, e_ite, e_sub, e_slice, e_list, e_tuple, e_call, e_ucall, e_meth, e_comp, t_not, t_and, t_or, t_cmp, t_var, t_sub, t_call, t_ucall, s_expr, s_assign, s_setitem, s_aug, s_augi, s_ifs, s_while, s_for, s_ret, s_brk, s_cont, ss_nil, c_range1, c_range2, c_range3, i_rng, i_ref, i_tup, i_enm, i_rev, bt_name, bt_tup, look_zero, look_succ, r_next, r_ret, sa_nil, sa_cons, es_nil, es_cons, o_none, o_some, ts_nil, ts_cons, c_lt, c_le, c_gt, c_ge, c_eq, c_ne, b_add, b_sub, b_mul, b_div, b_mod, b_pow, b_shr, a_add, a_mul, t_bool, t_int, List.map, List.cons_append, List.nil_append, List.getElem?_cons_succ, List.getElem?_cons_zero, List.set_cons_succ, List.set_cons_zero, frOf]); (repeat (first | rw [q_next] | rw [q_ret] | rw [q_cont] | rw [q_brk] | rw [ss_nil])); (try simp only [r_next, r_ret]))
    refine q2 hc τ7 u' va vb (((x14.trans x5).trans x6).trans x7) ⟨(((xB.trans x14).trans x5).trans x6).fresh f7, ((xB.trans x14).trans x5).fresh f6⟩ (ht.ext ((((x3.trans x4).trans x5).trans x6).trans x7)) g7 (x7 _ _ g6)
theorem sink_v (Φ : Fns) (i d : Nat) (hΦ : ∀ d', d = d' + 1 → ∀ args Q σ, sinkC d' args Q σ → Φ i args Q σ) (args : List V) (Q : V → Hp → Prop) (σ : Hp) (F : Frm) (h : sinkC d args Q σ) (hF : F = args.map some ++ [none]) : vSs Φ (ps_sink i) (retV Q) F σ := by
  obtain ⟨α, f, lt, item, tb, l, r, kids, B, rfl, htb, xB, hBt, hK, h1, h2, X, q⟩ := h
  subst hF
  unfold ps_sink
  (rw [ss_cons]; ((try simp only [e_int, e_bool, e_none, e_str, e_var, e_bin, e_neg, n_int, e_not, e_cmp, e_and, e_or, e_ite, e_sub, e_slice, e_list, e_tuple, e_call, e_ucall, e_meth, e_comp, t_not, t_and, t_or, t_cmp, t_var, t_sub, t_call, t_ucall, s_expr, s_assign, s_setitem, s_aug, s_augi, s_ifs, s_while, s_for, s_ret, s_brk, s_cont, ss_nil, c_range1, c_range2, c_range3, i_rng, i_ref, i_tup, i_enm, i_rev, bt_name, bt_tup, look_zero, look_succ, r_next, r_ret, sa_nil, sa_cons, es_nil, es_cons, o_none, o_some, ts_nil, ts_cons, c_lt, c_le, c_gt, c_ge, c_eq, c_ne, b_add, b_sub, b_mul, b_div, b_mod, b_pow, b_shr, a_add, a_mul, t_bool, t_int, List.map, List.cons_append, List.nil_append, List.getElem?_cons_succ, List.getElem?_cons_zero, List.set_cons_succ, List.set_cons_zero, frOf]); (repeat (first | rw [q_next] | rw [q_ret] | rw [q_cont] | rw [q_brk] | rw [ss_nil])); (try simp only [r_next, r_ret])))
  refine newL_of (big_of (by simp)) fun nb τ0 x0 f0 g0 => ?_
  refine eq_nil (listAt_list (x0 _ _ htb)) (listAt_list g0) ?_
  ((try simp only [e_int, e_bool, e_none, e_str, e_var, e_bin, e_neg, n_int, e_not, e_cmp, e_and, e_or, e_ite, e_sub, e_slice, e_list, e_tuple, e_call, e_ucall, e_meth, e_comp, t_not, t_and, t_or, t_cmp, t_var, t_sub, t_call, t_ucall, s_expr, s_assign, s_setitem, s_aug, s_augi, s_ifs, s_while, s_for, s_ret, s_brk, s_cont, ss_nil, c_range1, c_range2, c_range3, i_rng, i_ref, i_tup, i_enm, i_rev, bt_name, bt_tup, look_zero, look_succ, r_next, r_ret, sa_nil, sa_cons, es_nil, es_cons, o_none, o_some, ts_nil, ts_cons, c_lt, c_le, c_gt, c_ge, c_eq, c_ne, b_add, b_sub, b_mul, b_div, b_mod, b_pow, b_shr, a_add, a_mul, t_bool, t_int, List.map, List.cons_append, List.nil_append, List.getElem?_cons_succ, List.getElem?_cons_zero, List.set_cons_succ, List.set_cons_zero, frOf]); (repeat (first | rw [q_next] | rw [q_ret] | rw [q_cont] | rw [q_brk] | rw [ss_nil])); (try simp only [r_next, r_ret]))
  have ht0 := x0 _ _ htb
  rcases hK with ⟨rfl, rfl, rfl⟩ | ⟨rfl, u, rfl, hu⟩ | ⟨u, w, rfl, hu, hw⟩
  · rw [if_pos (by simp)]
    (rw [ss_cons]; ((try simp only [e_int, e_bool, e_none, e_str, e_var, e_bin, e_neg, n_int, e_not, e_cmp, e_and, e_or, e_ite, e_sub, e_slice, e_list, e_tuple, e_call, e_ucall, e_meth, e_comp, t_not, t_and, t_or, t_cmp, t_var, t_sub, t_call, t_ucall, s_expr, s_assign, s_setitem, s_aug, s_augi, s_ifs, s_while, s_for, s_ret, s_brk, s_cont, ss_nil, c_range1, c_range2, c_range3, i_rng, i_ref, i_tup, i_enm, i_rev, bt_name, bt_tup, look_zero, look_succ, r_next, r_ret, sa_nil, sa_cons, es_nil, es_cons, o_none, o_some, ts_nil, ts_cons, c_lt, c_le, c_gt, c_ge, c_eq, c_ne, b_add, b_sub, b_mul, b_div, b_mod, b_pow, b_shr, a_add, a_mul, t_bool, t_int, List.map, List.cons_append, List.nil_append, List.getElem?_cons_succ, List.getElem?_cons_zero, List.set_cons_succ, List.set_cons_zero, frOf]); (repeat (first | rw [q_next] | rw [q_ret] | rw [q_cont] | rw [q_brk] | rw [ss_nil])); (try simp only [r_next, r_ret])))
    refine newL_of (big_of (by simp)) fun va τ1 x1 f1 g1 => ?_
    ((try simp only [e_int, e_bool, e_none, e_str, e_var, e_bin, e_neg, n_int, e_not, e_cmp, e_and, e_or, e_ite, e_sub, e_slice, e_list, e_tuple, e_call, e_ucall, e_meth, e_comp, t_not, t_and, t_or, t_cmp, t_var, t_sub, t_call, t_ucall, s_expr, s_assign, s_setitem, s_aug, s_augi, s_ifs, s_while, s_for, s_ret, s_brk, s_cont, ss_nil, c_range1, c_range2, c_range3, i_rng, i_ref, i_tup, i_enm, i_rev, bt_name, bt_tup, look_zero, look_succ, r_next, r_ret, sa_nil, sa_cons, es_nil, es_cons, o_none, o_some, ts_nil, ts_cons, c_lt, c_le, c_gt, c_ge, c_eq, c_ne, b_add, b_sub, b_mul, b_div, b_mod, b_pow, b_shr, a_add, a_mul, t_bool, t_int, List.map, List.cons_append, List.nil_append, List.getElem?_cons_succ, List.getElem?_cons_zero, List.set_cons_succ, List.set_cons_zero, frOf]); (repeat (first | rw [q_next] | rw [q_ret] | rw [q_cont] | rw [q_brk] | rw [ss_nil])); (try simp only [r_next, r_ret]))
    refine q τ1 _ (x0.trans x1) ?_
    rw [sinkT]
    exact ⟨va, tb, [], rfl, g1, x1 _ _ ht0, ⟨(xB.trans x0).fresh f1, hBt⟩, .inl ⟨rfl, rfl, rfl⟩⟩
  · rw [if_neg (by simp)]
    cases l with
    | nil => exact hu.elim
    | node a la ra =>
    have hu0 := hu.ext x0
    obtain ⟨ua, ub, ukids, rfl, e1, e2, eB, e3⟩ := hu0
    simp only [Tr.ht] at h1
    obtain ⟨d', rfl⟩ : ∃ d', d = d' + 1 := ⟨d - 1, by omega⟩
    ((try simp only [e_int, e_bool, e_none, e_str, e_var, e_bin, e_neg, n_int, e_not, e_cmp, e_and, e_or, e_ite, e_sub, e_slice, e_list, e_tuple, e_call, e_ucall, e_meth, e_comp, t_not, t_and, t_or, t_cmp, t_var, t_sub, t_call, t_ucall, s_expr, s_assign, s_setitem, s_aug, s_augi, s_ifs, s_while, s_for, s_ret, s_brk, s_cont, ss_nil, c_range1, c_range2, c_range3, i_rng, i_ref, i_tup, i_enm, i_rev, bt_name, bt_tup, look_zero, look_succ, r_next, r_ret, sa_nil, sa_cons, es_nil, es_cons, o_none, o_some, ts_nil, ts_cons, c_lt, c_le, c_gt, c_ge, c_eq, c_ne, b_add, b_sub, b_mul, b_div, b_mod, b_pow, b_shr, a_add, a_mul, t_bool, t_int, List.map, List.cons_append, List.nil_append, List.getElem?_cons_succ, List.getElem?_cons_zero, List.set_cons_succ, List.set_cons_zero, frOf]); (repeat (first | rw [q_next] | rw [q_ret] | rw [q_cont] | rw [q_brk] | rw [ss_nil])); (try simp only [r_next, r_ret]))
    (rw [ss_cons]; ((try simp only [e_int, e_bool, e_none, e_str, e_var, e_bin, e_neg, n_int, e_not, e_cmp, e_and, e_or, e_ite, e_sub, e_slice, e_list, e_tuple, e_call, e_ucall, e_meth, e_comp, t_not, t_and, t_or, t_cmp, t_var, t_sub, t_call, t_ucall, s_expr, s_assign, s_setitem, s_aug, s_augi, s_ifs, s_while, s_for, s_ret, s_brk, s_cont, ss_nil, c_range1, c_range2, c_range3, i_rng, i_ref, i_tup, i_enm, i_rev, bt_name, bt_tup, look_zero, look_succ, r_next, r_ret, sa_nil, sa_cons, es_nil, es_cons, o_none, o_some, ts_nil, ts_cons, c_lt, c_le, c_gt, c_ge, c_eq, c_ne, b_add, b_sub, b_mul, b_div, b_mod, b_pow, b_shr, a_add, a_mul, t_bool, t_int, List.map, List.cons_append, List.nil_append, List.getElem?_cons_succ, List.getElem?_cons_zero, List.set_cons_succ, List.set_cons_zero, frOf]); (repeat (first | rw [q_next] | rw [q_ret] | rw [q_cont] | rw [q_brk] | rw [ss_nil])); (try simp only [r_next, r_ret])))
    refine sub_list (listAt_list ht0) (k := -1) rfl ?_
    refine sub_list (listAt_list e1) (k := 0) rfl ?_
    refine sub_list (listAt_list ht0) (k := 0) rfl ?_
    refine sub_list (listAt_list e1) (k := 0) rfl ?_
    refine X a a τ0 _ x0 ?_
    ((try simp only [e_int, e_bool, e_none, e_str, e_var, e_bin, e_neg, n_int, e_not, e_cmp, e_and, e_or, e_ite, e_sub, e_slice, e_list, e_tuple, e_call, e_ucall, e_meth, e_comp, t_not, t_and, t_or, t_cmp, t_var, t_sub, t_call, t_ucall, s_expr, s_assign, s_setitem, s_aug, s_augi, s_ifs, s_while, s_for, s_ret, s_brk, s_cont, ss_nil, c_range1, c_range2, c_range3, i_rng, i_ref, i_tup, i_enm, i_rev, bt_name, bt_tup, look_zero, look_succ, r_next, r_ret, sa_nil, sa_cons, es_nil, es_cons, o_none, o_some, ts_nil, ts_cons, c_lt, c_le, c_gt, c_ge, c_eq, c_ne, b_add, b_sub, b_mul, b_div, b_mod, b_pow, b_shr, a_add, a_mul, t_bool, t_int, List.map, List.cons_append, List.nil_append, List.getElem?_cons_succ, List.getElem?_cons_zero, List.set_cons_succ, List.set_cons_zero, frOf]); (repeat (first | rw [q_next] | rw [q_ret] | rw [q_cont] | rw [q_brk] | rw [ss_nil])); (try simp only [r_next, r_ret]))
    have fin : vSs Φ (ps_sink2 i) (retV Q) [some (f item), some (.ref tb), some (.int ((0 : Nat) : Int))] τ0 := by
      refine sink_tail Φ i d' (hΦ d' rfl) ht0 rfl e1 e2 (xB.trans x0) eB.2 e3 (by omega) (by omega) (by simp) (X.ext x0) (fun hc τ' va xx gB g => ?_) (fun hc τ' u' va vb xx gB ht g g' => ?_)
      · refine q τ' _ (x0.trans xx) ?_
        rw [sinkT, if_pos hc]
        exact ⟨va, tb, _, rfl, g, xx _ _ ht0, ⟨gB, hBt⟩, .inr (.inl ⟨rfl, _, rfl, hu.ext (x0.trans xx)⟩)⟩
      · refine q τ' _ (x0.trans xx) ?_
        rw [sinkT, if_neg (by rw [hc]; decide)]
        exact ⟨va, vb, _, rfl, g, g', gB, .inr (.inl ⟨rfl, u', rfl, ht⟩)⟩
    cases lt a a with
    | true => rw [if_pos rfl]; exact fin
    | false =>
      rw [if_neg (by decide)]
      refine call_len (listAt_list ht0) ?_
      ((try simp only [e_int, e_bool, e_none, e_str, e_var, e_bin, e_neg, n_int, e_not, e_cmp, e_and, e_or, e_ite, e_sub, e_slice, e_list, e_tuple, e_call, e_ucall, e_meth, e_comp, t_not, t_and, t_or, t_cmp, t_var, t_sub, t_call, t_ucall, s_expr, s_assign, s_setitem, s_aug, s_augi, s_ifs, s_while, s_for, s_ret, s_brk, s_cont, ss_nil, c_range1, c_range2, c_range3, i_rng, i_ref, i_tup, i_enm, i_rev, bt_name, bt_tup, look_zero, look_succ, r_next, r_ret, sa_nil, sa_cons, es_nil, es_cons, o_none, o_some, ts_nil, ts_cons, c_lt, c_le, c_gt, c_ge, c_eq, c_ne, b_add, b_sub, b_mul, b_div, b_mod, b_pow, b_shr, a_add, a_mul, t_bool, t_int, List.map, List.cons_append, List.nil_append, List.getElem?_cons_succ, List.getElem?_cons_zero, List.set_cons_succ, List.set_cons_zero, frOf]); (repeat (first | rw [q_next] | rw [q_ret] | rw [q_cont] | rw [q_brk] | rw [ss_nil])); (try simp only [r_next, r_ret]))
      exact fin
  · rw [if_neg (by simp)]
    cases l with
    | nil => exact hu.elim
    | node a la ra =>
    cases r with
    | nil => exact hw.elim
    | node b lb rb =>
    have hu0 := hu.ext x0
    have hw0 := hw.ext x0
    obtain ⟨ua, ub, ukids, rfl, e1, e2, eB, e3⟩ := hu0
    obtain ⟨wa, wb, wkids, rfl, e1', e2', eB', e3'⟩ := hw0
    simp only [Tr.ht] at h1 h2
    obtain ⟨d', rfl⟩ : ∃ d', d = d' + 1 := ⟨d - 1, by omega⟩
    ((try simp only [e_int, e_bool, e_none, e_str, e_var, e_bin, e_neg, n_int, e_not, e_cmp, e_and, e_or, e_ite, e_sub, e_slice, e_list, e_tuple, e_call, e_ucall, e_meth, e_comp, t_not, t_and, t_or, t_cmp, t_var, t_sub, t_call, t_ucall, s_expr, s_assign, s_setitem, s_aug, s_augi, s_ifs, s_while, s_for, s_ret, s_brk, s_cont, ss_nil, c_range1, c_range2, c_range3, i_rng, i_ref, i_tup, i_enm, i_rev, bt_name, bt_tup, look_zero, look_succ, r_next, r_ret, sa_nil, sa_cons, es_nil, es_cons, o_none, o_some, ts_nil, ts_cons, c_lt, c_le, c_gt, c_ge, c_eq, c_ne, b_add, b_sub, b_mul, b_div, b_mod, b_pow, b_shr, a_add, a_mul, t_bool, t_int, List.map, List.cons_append, List.nil_append, List.getElem?_cons_succ, List.getElem?_cons_zero, List.set_cons_succ, List.set_cons_zero, frOf]); (repeat (first | rw [q_next] | rw [q_ret] | rw [q_cont] | rw [q_brk] | rw [ss_nil])); (try simp only [r_next, r_ret]))
    (rw [ss_cons]; ((try simp only [e_int, e_bool, e_none, e_str, e_var, e_bin, e_neg, n_int, e_not, e_cmp, e_and, e_or, e_ite, e_sub, e_slice, e_list, e_tuple, e_call, e_ucall, e_meth, e_comp, t_not, t_and, t_or, t_cmp, t_var, t_sub, t_call, t_ucall, s_expr, s_assign, s_setitem, s_aug, s_augi, s_ifs, s_while, s_for, s_ret, s_brk, s_cont, ss_nil, c_range1, c_range2, c_range3, i_rng, i_ref, i_tup, i_enm, i_rev, bt_name, bt_tup, look_zero, look_succ, r_next, r_ret, sa_nil, sa_cons, es_nil, es_cons, o_none, o_some, ts_nil, ts_cons, c_lt, c_le, c_gt, c_ge, c_eq, c_ne, b_add, b_sub, b_mul, b_div, b_mod, b_pow, b_shr, a_add, a_mul, t_bool, t_int, List.map, List.cons_append, List.nil_append, List.getElem?_cons_succ, List.getElem?_cons_zero, List.set_cons_succ, List.set_cons_zero, frOf]); (repeat (first | rw [q_next] | rw [q_ret] | rw [q_cont] | rw [q_brk] | rw [ss_nil])); (try simp only [r_next, r_ret])))
    refine sub_list (listAt_list ht0) (k := -1) rfl ?_
    refine sub_list (listAt_list e1') (k := 0) rfl ?_
    refine sub_list (listAt_list ht0) (k := 0) rfl ?_
    refine sub_list (listAt_list e1) (k := 0) rfl ?_
    refine X b a τ0 _ x0 ?_
    ((try simp only [e_int, e_bool, e_none, e_str, e_var, e_bin, e_neg, n_int, e_not, e_cmp, e_and, e_or, e_ite, e_sub, e_slice, e_list, e_tuple, e_call, e_ucall, e_meth, e_comp, t_not, t_and, t_or, t_cmp, t_var, t_sub, t_call, t_ucall, s_expr, s_assign, s_setitem, s_aug, s_augi, s_ifs, s_while, s_for, s_ret, s_brk, s_cont, ss_nil, c_range1, c_range2, c_range3, i_rng, i_ref, i_tup, i_enm, i_rev, bt_name, bt_tup, look_zero, look_succ, r_next, r_ret, sa_nil, sa_cons, es_nil, es_cons, o_none, o_some, ts_nil, ts_cons, c_lt, c_le, c_gt, c_ge, c_eq, c_ne, b_add, b_sub, b_mul, b_div, b_mod, b_pow, b_shr, a_add, a_mul, t_bool, t_int, List.map, List.cons_append, List.nil_append, List.getElem?_cons_succ, List.getElem?_cons_zero, List.set_cons_succ, List.set_cons_zero, frOf]); (repeat (first | rw [q_next] | rw [q_ret] | rw [q_cont] | rw [q_brk] | rw [ss_nil])); (try simp only [r_next, r_ret]))
    cases hba : lt b a with
    | true =>
      rw [if_pos rfl]
      ((try simp only [e_int, e_bool, e_none, e_str, e_var, e_bin, e_neg, n_int, e_not, e_cmp, e_and, e_or, e_ite, e_sub, e_slice, e_list, e_tuple, e_call, e_ucall, e_meth, e_comp, t_not, t_and, t_or, t_cmp, t_var, t_sub, t_call, t_ucall, s_expr, s_assign, s_setitem, s_aug, s_augi, s_ifs, s_while, s_for, s_ret, s_brk, s_cont, ss_nil, c_range1, c_range2, c_range3, i_rng, i_ref, i_tup, i_enm, i_rev, bt_name, bt_tup, look_zero, look_succ, r_next, r_ret, sa_nil, sa_cons, es_nil, es_cons, o_none, o_some, ts_nil, ts_cons, c_lt, c_le, c_gt, c_ge, c_eq, c_ne, b_add, b_sub, b_mul, b_div, b_mod, b_pow, b_shr, a_add, a_mul, t_bool, t_int, List.map, List.cons_append, List.nil_append, List.getElem?_cons_succ, List.getElem?_cons_zero, List.set_cons_succ, List.set_cons_zero, frOf]); (repeat (first | rw [q_next] | rw [q_ret] | rw [q_cont] | rw [q_brk] | rw [ss_nil])); (try simp only [r_next, r_ret]))
      refine sink_tail (k := 0) Φ i d' (hΦ d' rfl) ht0 rfl e1 e2 (xB.trans x0) eB.2 e3 (by omega) (by omega) (by simp) (X.ext x0) (fun hc τ' va xx gB g => ?_) (fun hc τ' u' va vb xx gB ht g g' => ?_)
      · refine q τ' _ (x0.trans xx) ?_
        rw [sinkT, if_pos hba, if_pos hc]
        exact ⟨va, tb, _, rfl, g, xx _ _ ht0, ⟨gB, hBt⟩, .inr (.inr ⟨_, _, rfl, hu.ext (x0.trans xx), hw.ext (x0.trans xx)⟩)⟩
      · refine q τ' _ (x0.trans xx) ?_
        rw [sinkT, if_pos hba, if_neg (by rw [hc]; decide)]
        exact ⟨va, vb, _, rfl, g, g', gB, .inr (.inr ⟨u', _, rfl, ht, hw.ext (x0.trans xx)⟩)⟩
    | false =>
      rw [if_neg (by decide)]
      refine call_len (listAt_list ht0) ?_
      ((try simp only [e_int, e_bool, e_none, e_str, e_var, e_bin, e_neg, n_int, e_not, e_cmp, e_and, e_or, e_ite, e_sub, e_slice, e_list, e_tuple, e_call, e_ucall, e_meth, e_comp, t_not, t_and, t_or, t_cmp, t_var, t_sub, t_call, t_ucall, s_expr, s_assign, s_setitem, s_aug, s_augi, s_ifs, s_while, s_for, s_ret, s_brk, s_cont, ss_nil, c_range1, c_range2, c_range3, i_rng, i_ref, i_tup, i_enm, i_rev, bt_name, bt_tup, look_zero, look_succ, r_next, r_ret, sa_nil, sa_cons, es_nil, es_cons, o_none, o_some, ts_nil, ts_cons, c_lt, c_le, c_gt, c_ge, c_eq, c_ne, b_add, b_sub, b_mul, b_div, b_mod, b_pow, b_shr, a_add, a_mul, t_bool, t_int, List.map, List.cons_append, List.nil_append, List.getElem?_cons_succ, List.getElem?_cons_zero, List.set_cons_succ, List.set_cons_zero, frOf]); (repeat (first | rw [q_next] | rw [q_ret] | rw [q_cont] | rw [q_brk] | rw [ss_nil])); (try simp only [r_next, r_ret]))
      refine sink_tail (k := 1) Φ i d' (hΦ d' rfl) ht0 rfl e1' e2' (xB.trans x0) eB'.2 e3' (by omega) (by omega) (by simp) (X.ext x0) (fun hc τ' va xx gB g => ?_) (fun hc τ' u' va vb xx gB ht g g' => ?_)
      · refine q τ' _ (x0.trans xx) ?_
        rw [sinkT, if_neg (by rw [hba]; decide), if_pos hc]
        exact ⟨va, tb, _, rfl, g, xx _ _ ht0, ⟨gB, hBt⟩, .inr (.inr ⟨_, _, rfl, hu.ext (x0.trans xx), hw.ext (x0.trans xx)⟩)⟩
      · refine q τ' _ (x0.trans xx) ?_
        rw [sinkT, if_neg (by rw [hba]; decide), if_neg (by rw [hc]; decide)]
        exact ⟨va, vb, _, rfl, g, g', gB, .inr (.inr ⟨_, u', rfl, hu.ext (x0.trans xx), ht⟩)⟩
def treeC (d : Nat) (args : List V) (Q : V → Hp → Prop) (σ : Hp) : Prop :=
  ∃ (α : Type) (f : α → V) (lt : α → α → Bool) (ib : Addr) (items : List α) (p : Nat) (B : Hp), args = [.ref ib, .int (p : Nat)] ∧ σ ib = some (.list (items.map f)) ∧ Ext B σ ∧ p < items.length ∧ items.length < 2 ^ d * (p + 1) ∧ items.length ≤ 100 ∧ LtX σ f lt ∧
    ∀ τ v, Ext σ τ → TreeAt f B τ (heapT lt (tr items p)) v → Q v τ
def ps_tree (i j : Nat) : List PS := [
  .assign (.name 2) (.comp [none, none, some 0] (.var 1) (.name 1) .plain (.tuple [(.bin .Add (.bin .Mult (.int 2) (.var 1)) (.int 1)), (.bin .Add (.bin .Mult (.int 2) (.var 1)) (.int 2))]) [(.cmp .Lt (.var 1) (.call .len [(.var 2)]))]),
  .ret (.ucall i [(.sub (.var 0) (.var 1)), (.comp [none, none, some 0] (.ucall j [(.var 2), (.var 1)]) (.name 1) .plain (.var 2) [])])]
def keepLt (n : Nat) : V → Option V
  | .int k => if k < (n : Int) then some (.int k) else none
  | _ => none
theorem fm_kids (n p : Nat) : ([V.int (2 * (p : Int) + 1), V.int (2 * (p : Int) + 2)]).filterMap (keepLt n) = (kidsN n p).map fun (k : Nat) => V.int (k : Int) := by
  unfold kidsN
  have e1 : (2 * (p : Int) + 1 < (n : Int)) ↔ (2 * p + 1 < n) := by omega
  have e2 : (2 * (p : Int) + 2 < (n : Int)) ↔ (2 * p + 2 < n) := by omega
  by_cases h1 : 2 * p + 1 < n <;> by_cases h2 : 2 * p + 2 < n <;> simp [keepLt, e1, e2, h1, h2]
/-- the two places below, those that are there -/
theorem kids_comp {Φ : Fns} {Q : V → Hp → Prop} {τ : Hp} {ib : Addr} {xs : List V} {n p : Nat} (hi : listAt τ ib = some xs) (hn : xs.length = n) (q : ∀ τ' a, Ext τ τ' → τ a = none → τ' a = some (.list ((kidsN n p).map fun (k : Nat) => V.int (k : Int))) → Q (.ref a) τ') :
    CompG Φ [(.cmp .Lt (.var 1) (.call .len [(.var 2)]))] (.var 1) (.name 1) [none, none, some (.ref ib)] Q (.vals [V.int (2 * (p : Int) + 1), V.int (2 * (p : Int) + 2)]) τ := by
  refine comp_rule (xs := [V.int (2 * (p : Int) + 1), V.int (2 * (p : Int) + 2)]) (keepLt n) (big_of (by simp)) (yields_vals _ _) ?_ ?_
  · intro x hx τ' ex' K' N' hK hN'
    obtain ⟨k, rfl⟩ : ∃ k, x = .int k := by simp at hx; rcases hx with rfl | rfl <;> exact ⟨_, rfl⟩
    ((try simp only [e_int, e_bool, e_none, e_str, e_var, e_bin, e_neg, n_int, e_not, e_cmp, e_and, e_or, e_ite, e_sub, e_slice, e_list, e_tuple, e_call, e_ucall, e_meth, e_comp, t_not, t_and, t_or, t_cmp, t_var, t_sub, t_call, t_ucall, s_expr, s_assign, s_setitem, s_aug, s_augi, s_ifs, s_while, s_for, s_ret, s_brk, s_cont, ss_nil, c_range1, c_range2, c_range3, i_rng, i_ref, i_tup, i_enm, i_rev, bt_name, bt_tup, look_zero, look_succ, r_next, r_ret, sa_nil, sa_cons, es_nil, es_cons, o_none, o_some, ts_nil, ts_cons, c_lt, c_le, c_gt, c_ge, c_eq, c_ne, b_add, b_sub, b_mul, b_div, b_mod, b_pow, b_shr, a_add, a_mul, t_bool, t_int, List.map, List.cons_append, List.nil_append, List.getElem?_cons_succ, List.getElem?_cons_zero, List.set_cons_succ, List.set_cons_zero, frOf]); (repeat (first | rw [q_next] | rw [q_ret] | rw [q_cont] | rw [q_brk] | rw [ss_nil])); (try simp only [r_next, r_ret]))
    refine call_len (ex'.listAt hi) ?_
    rw [hn]
    ((try simp only [e_int, e_bool, e_none, e_str, e_var, e_bin, e_neg, n_int, e_not, e_cmp, e_and, e_or, e_ite, e_sub, e_slice, e_list, e_tuple, e_call, e_ucall, e_meth, e_comp, t_not, t_and, t_or, t_cmp, t_var, t_sub, t_call, t_ucall, s_expr, s_assign, s_setitem, s_aug, s_augi, s_ifs, s_while, s_for, s_ret, s_brk, s_cont, ss_nil, c_range1, c_range2, c_range3, i_rng, i_ref, i_tup, i_enm, i_rev, bt_name, bt_tup, look_zero, look_succ, r_next, r_ret, sa_nil, sa_cons, es_nil, es_cons, o_none, o_some, ts_nil, ts_cons, c_lt, c_le, c_gt, c_ge, c_eq, c_ne, b_add, b_sub, b_mul, b_div, b_mod, b_pow, b_shr, a_add, a_mul, t_bool, t_int, List.map, List.cons_append, List.nil_append, List.getElem?_cons_succ, List.getElem?_cons_zero, List.set_cons_succ, List.set_cons_zero, frOf]); (repeat (first | rw [q_next] | rw [q_ret] | rw [q_cont] | rw [q_brk] | rw [ss_nil])); (try simp only [r_next, r_ret]))
    by_cases h : k < (n : Int)
    · rw [decide_eq_true h, if_pos rfl]
      ((try simp only [e_int, e_bool, e_none, e_str, e_var, e_bin, e_neg, n_int, e_not, e_cmp, e_and, e_or, e_ite, e_sub, e_slice, e_list, e_tuple, e_call, e_ucall, e_meth, e_comp, t_not, t_and, t_or, t_cmp, t_var, t_sub, t_call, t_ucall, s_expr, s_assign, s_setitem, s_aug, s_augi, s_ifs, s_while, s_for, s_ret, s_brk, s_cont, ss_nil, c_range1, c_range2, c_range3, i_rng, i_ref, i_tup, i_enm, i_rev, bt_name, bt_tup, look_zero, look_succ, r_next, r_ret, sa_nil, sa_cons, es_nil, es_cons, o_none, o_some, ts_nil, ts_cons, c_lt, c_le, c_gt, c_ge, c_eq, c_ne, b_add, b_sub, b_mul, b_div, b_mod, b_pow, b_shr, a_add, a_mul, t_bool, t_int, List.map, List.cons_append, List.nil_append, List.getElem?_cons_succ, List.getElem?_cons_zero, List.set_cons_succ, List.set_cons_zero, frOf]); (repeat (first | rw [q_next] | rw [q_ret] | rw [q_cont] | rw [q_brk] | rw [ss_nil])); (try simp only [r_next, r_ret]))
      simp only [if_true]
      exact hK _ _ (by unfold keepLt; dsimp only; rw [if_pos h]) .rfl
    · rw [decide_eq_false h, if_neg (by decide), if_neg (by decide)]
      exact hN' (by unfold keepLt; dsimp only; rw [if_neg h]) _ .rfl
  intro τ1 x1 rb f1
  rw [fm_kids]
  exact q _ rb (x1.trans (Ext.upd _ f1)) (x1.fresh f1) (upd_same _ _ _)
theorem kidsN_at {n p k c : Nat} (h : (kidsN n p)[k]? = some c) : c = 2 * p + 1 + k ∧ c < n ∧ k < 2 := by
  unfold kidsN at h
  by_cases h1 : 2 * p + 1 < n <;> by_cases h2 : 2 * p + 2 < n
  · simp [h1, h2] at h
    match k, h with
    | 0, h => simp at h; omega
    | 1, h => simp at h; omega
    | k + 2, h => simp at h
  · simp [h1, h2] at h
    match k, h with
    | 0, h => simp at h; omega
    | k + 1, h => simp at h
  · omega
  · simp [h1, h2] at h
theorem kidsN_len {n p : Nat} : (kidsN n p).length = min (2 * p + 3) n - min (2 * p + 1) n := by
  unfold kidsN
  by_cases h1 : 2 * p + 1 < n <;> by_cases h2 : 2 * p + 2 < n <;> simp [h1, h2] <;> omega
theorem tree_v (Φ : Fns) (i j d : Nat) (hs : ∀ args Q σ, sinkC 8 args Q σ → Φ i args Q σ) (hΦ : ∀ d', d = d' + 1 → ∀ args Q σ, treeC d' args Q σ → Φ j args Q σ) (args : List V) (Q : V → Hp → Prop) (σ : Hp) (F : Frm) (h : treeC d args Q σ) (hF : F = args.map some ++ [none]) : vSs Φ (ps_tree i j) (retV Q) F σ := by
  obtain ⟨α, f, lt, ib, items, p, B, rfl, hi, xB, hp, hd, h100, X, q⟩ := h
  subst hF
  obtain ⟨d', rfl⟩ : ∃ d', d = d' + 1 := by
    cases d with
    | zero => omega
    | succ d => exact ⟨d, rfl⟩
  have hd2 : 2 ^ (d' + 1) * (p + 1) = 2 ^ d' * (2 * p + 1 + 1) := by
    rw [Nat.pow_succ, Nat.mul_assoc]
    have : 2 * (p + 1) = 2 * p + 1 + 1 := by omega
    rw [this]
  have hd3 : 2 ^ d' * (2 * p + 1 + 1) ≤ 2 ^ d' * (2 * p + 2 + 1) := Nat.mul_le_mul_left _ (by omega)
  unfold ps_tree
  (rw [ss_cons]; ((try simp only [e_int, e_bool, e_none, e_str, e_var, e_bin, e_neg, n_int, e_not, e_cmp, e_and, e_or, e_ite, e_sub, e_slice, e_list, e_tuple, e_call, e_ucall, e_meth, e_comp, t_not, t_and, t_or, t_cmp, t_var, t_sub, t_call, t_ucall, s_expr, s_assign, s_setitem, s_aug, s_augi, s_ifs, s_while, s_for, s_ret, s_brk, s_cont, ss_nil, c_range1, c_range2, c_range3, i_rng, i_ref, i_tup, i_enm, i_rev, bt_name, bt_tup, look_zero, look_succ, r_next, r_ret, sa_nil, sa_cons, es_nil, es_cons, o_none, o_some, ts_nil, ts_cons, c_lt, c_le, c_gt, c_ge, c_eq, c_ne, b_add, b_sub, b_mul, b_div, b_mod, b_pow, b_shr, a_add, a_mul, t_bool, t_int, List.map, List.cons_append, List.nil_append, List.getElem?_cons_succ, List.getElem?_cons_zero, List.set_cons_succ, List.set_cons_zero, frOf]); (repeat (first | rw [q_next] | rw [q_ret] | rw [q_cont] | rw [q_brk] | rw [ss_nil])); (try simp only [r_next, r_ret])))
  refine ⟨mul_l, mul_l, by simp [BIG], ?_⟩
  refine kids_comp (n := items.length) (listAt_list hi) (by simp) fun τ1 bb x1 f1 g1 => ?_
  ((try simp only [e_int, e_bool, e_none, e_str, e_var, e_bin, e_neg, n_int, e_not, e_cmp, e_and, e_or, e_ite, e_sub, e_slice, e_list, e_tuple, e_call, e_ucall, e_meth, e_comp, t_not, t_and, t_or, t_cmp, t_var, t_sub, t_call, t_ucall, s_expr, s_assign, s_setitem, s_aug, s_augi, s_ifs, s_while, s_for, s_ret, s_brk, s_cont, ss_nil, c_range1, c_range2, c_range3, i_rng, i_ref, i_tup, i_enm, i_rev, bt_name, bt_tup, look_zero, look_succ, r_next, r_ret, sa_nil, sa_cons, es_nil, es_cons, o_none, o_some, ts_nil, ts_cons, c_lt, c_le, c_gt, c_ge, c_eq, c_ne, b_add, b_sub, b_mul, b_div, b_mod, b_pow, b_shr, a_add, a_mul, t_bool, t_int, List.map, List.cons_append, List.nil_append, List.getElem?_cons_succ, List.getElem?_cons_zero, List.set_cons_succ, List.set_cons_zero, frOf]); (repeat (first | rw [q_next] | rw [q_ret] | rw [q_cont] | rw [q_brk] | rw [ss_nil])); (try simp only [r_next, r_ret]))
  (rw [ss_cons]; ((try simp only [e_int, e_bool, e_none, e_str, e_var, e_bin, e_neg, n_int, e_not, e_cmp, e_and, e_or, e_ite, e_sub, e_slice, e_list, e_tuple, e_call, e_ucall, e_meth, e_comp, t_not, t_and, t_or, t_cmp, t_var, t_sub, t_call, t_ucall, s_expr, s_assign, s_setitem, s_aug, s_augi, s_ifs, s_while, s_for, s_ret, s_brk, s_cont, ss_nil, c_range1, c_range2, c_range3, i_rng, i_ref, i_tup, i_enm, i_rev, bt_name, bt_tup, look_zero, look_succ, r_next, r_ret, sa_nil, sa_cons, es_nil, es_cons, o_none, o_some, ts_nil, ts_cons, c_lt, c_le, c_gt, c_ge, c_eq, c_ne, b_add, b_sub, b_mul, b_div, b_mod, b_pow, b_shr, a_add, a_mul, t_bool, t_int, List.map, List.cons_append, List.nil_append, List.getElem?_cons_succ, List.getElem?_cons_zero, List.set_cons_succ, List.set_cons_zero, frOf]); (repeat (first | rw [q_next] | rw [q_ret] | rw [q_cont] | rw [q_brk] | rw [ss_nil])); (try simp only [r_next, r_ret])))
  refine sub_list (listAt_list (x1 _ _ hi)) (k := (p : Int)) (x := f items[p]) (by rw [nth_nat]; simp [hp]) ?_
  refine ⟨⟨_, listAt_list g1⟩, ?_⟩
  have hkl := kidsN_len (n := items.length) (p := p)
  refine comp_inv (xs := (kidsN items.length p).map fun (k : Nat) => V.int (k : Int)) (fun k acc τ => Ext τ1 τ ∧ acc.length = k ∧ ∀ (m : Nat) v, acc[m]? = some v → TreeAt f B τ (heapT lt (tr items (2 * p + 1 + m))) v) (yields_lst (xs := (kidsN items.length p).map fun (k : Nat) => V.int (k : Int)) (fun τ'' ⟨_, _, h, _⟩ => listAt_list (h _ _ g1)) _ 0 rfl) ⟨.rfl, rfl, fun m v h => by simp at h⟩ (fun k acc τ h => by rw [h.2.1]; exact Nat.le_refl _) (big_of (by rw [List.length_map]; omega)) ?_ ?_
  · rintro k x acc τ hxk ⟨xt, hal, hat⟩ K N hK hN
    rw [List.getElem?_map] at hxk
    cases hc : (kidsN items.length p)[k]? with
    | none => rw [hc] at hxk; simp at hxk
    | some c =>
      rw [hc] at hxk
      simp at hxk
      subst hxk
      obtain ⟨e1, hcn, hk2⟩ := kidsN_at hc
      ((try simp only [e_int, e_bool, e_none, e_str, e_var, e_bin, e_neg, n_int, e_not, e_cmp, e_and, e_or, e_ite, e_sub, e_slice, e_list, e_tuple, e_call, e_ucall, e_meth, e_comp, t_not, t_and, t_or, t_cmp, t_var, t_sub, t_call, t_ucall, s_expr, s_assign, s_setitem, s_aug, s_augi, s_ifs, s_while, s_for, s_ret, s_brk, s_cont, ss_nil, c_range1, c_range2, c_range3, i_rng, i_ref, i_tup, i_enm, i_rev, bt_name, bt_tup, look_zero, look_succ, r_next, r_ret, sa_nil, sa_cons, es_nil, es_cons, o_none, o_some, ts_nil, ts_cons, c_lt, c_le, c_gt, c_ge, c_eq, c_ne, b_add, b_sub, b_mul, b_div, b_mod, b_pow, b_shr, a_add, a_mul, t_bool, t_int, List.map, List.cons_append, List.nil_append, List.getElem?_cons_succ, List.getElem?_cons_zero, List.set_cons_succ, List.set_cons_zero, frOf]); (repeat (first | rw [q_next] | rw [q_ret] | rw [q_cont] | rw [q_brk] | rw [ss_nil])); (try simp only [r_next, r_ret]))
      simp only [if_true]
      refine hΦ d' rfl _ _ _ ⟨α, f, lt, ib, items, c, B, rfl, xt _ _ (x1 _ _ hi), (xB.trans x1).trans xt, hcn, ?_, h100, (X.ext x1).ext xt, fun τ2 v x2 ht => ?_⟩
      · have : 2 ^ d' * (2 * p + 1 + 1) ≤ 2 ^ d' * (c + 1) := Nat.mul_le_mul_left _ (by omega)
        omega
      · refine hK _ _ ⟨xt.trans x2, by simp [hal], fun m v' hm => ?_⟩
        rcases Nat.lt_or_ge m acc.length with hl | hl
        · rw [List.getElem?_append_left hl] at hm
          exact (hat m v' hm).ext x2
        · rw [List.getElem?_append_right hl] at hm
          cases hml : m - acc.length with
          | zero =>
            rw [hml] at hm; simp at hm; subst hm
            have : 2 * p + 1 + m = c := by omega
            rw [this]; exact ht
          | succ z => rw [hml] at hm; simp at hm
  · rintro acc τ ⟨xt, hal, hat⟩
    rw [List.length_map, hkl] at hal
    refine newL_of (big_of (by omega)) fun tb τ2 x2 f2 g2 => ?_
    ((try simp only [e_int, e_bool, e_none, e_str, e_var, e_bin, e_neg, n_int, e_not, e_cmp, e_and, e_or, e_ite, e_sub, e_slice, e_list, e_tuple, e_call, e_ucall, e_meth, e_comp, t_not, t_and, t_or, t_cmp, t_var, t_sub, t_call, t_ucall, s_expr, s_assign, s_setitem, s_aug, s_augi, s_ifs, s_while, s_for, s_ret, s_brk, s_cont, ss_nil, c_range1, c_range2, c_range3, i_rng, i_ref, i_tup, i_enm, i_rev, bt_name, bt_tup, look_zero, look_succ, r_next, r_ret, sa_nil, sa_cons, es_nil, es_cons, o_none, o_some, ts_nil, ts_cons, c_lt, c_le, c_gt, c_ge, c_eq, c_ne, b_add, b_sub, b_mul, b_div, b_mod, b_pow, b_shr, a_add, a_mul, t_bool, t_int, List.map, List.cons_append, List.nil_append, List.getElem?_cons_succ, List.getElem?_cons_zero, List.set_cons_succ, List.set_cons_zero, frOf]); (repeat (first | rw [q_next] | rw [q_ret] | rw [q_cont] | rw [q_brk] | rw [ss_nil])); (try simp only [r_next, r_ret]))
    have h256 : ∀ c, items.length < 2 ^ 8 * (c + 1) := fun c => by
      have : (2 : Nat) ^ 8 = 256 := by decide
      rw [this]; omega
    have hh : ∀ c, (heapT lt (tr items c)).ht ≤ 8 := fun c => Nat.le_trans (heapT_ht lt _) (tr_ht 8 c (h256 c))
    refine hs _ _ _ ⟨α, f, lt, items[p], tb, heapT lt (tr items (2 * p + 1)), heapT lt (tr items (2 * p + 2)), acc, B, rfl, g2, ((xB.trans x1).trans xt).trans x2, ((xB.trans x1).trans xt).fresh f2, ?_, hh _, hh _, ((X.ext x1).ext xt).ext x2, fun τ3 v x3 ht => ?_⟩
    · rcases Nat.lt_or_ge (2 * p + 1) items.length with h1 | h1
      · rcases Nat.lt_or_ge (2 * p + 2) items.length with h2 | h2
        · match acc, hal, hat with
          | [u, w], _, hat => exact .inr (.inr ⟨u, w, rfl, (hat 0 u rfl).ext x2, (hat 1 w rfl).ext x2⟩)
          | [], hal, _ => simp at hal; omega
          | [_], hal, _ => simp at hal; omega
          | _ :: _ :: _ :: _, hal, _ => simp at hal; omega
        · match acc, hal, hat with
          | [u], _, hat => exact .inr (.inl ⟨by rw [tr_none h2]; rfl, u, rfl, (hat 0 u rfl).ext x2⟩)
          | [], hal, _ => simp at hal; omega
          | _ :: _ :: _, hal, _ => simp at hal; omega
      · match acc, hal, hat with
        | [], _, _ => exact .inl ⟨by rw [tr_none h1]; rfl, by rw [tr_none (by omega)]; rfl, rfl⟩
        | _ :: _, hal, _ => simp at hal; omega
    · ((try simp only [e_int, e_bool, e_none, e_str, e_var, e_bin, e_neg, n_int, e_not, e_cmp, e_and, e_or, e_ite, e_sub, e_slice, e_list, e_tuple, e_call, e_ucall, e_meth, e_comp, t_not, t_and, t_or, t_cmp, t_var, t_sub, t_call, t_ucall, s_expr, s_assign, s_setitem, s_aug, s_augi, s_ifs, s_while, s_for, s_ret, s_brk, s_cont, ss_nil, c_range1, c_range2, c_range3, i_rng, i_ref, i_tup, i_enm, i_rev, bt_name, bt_tup, look_zero, look_succ, r_next, r_ret, sa_nil, sa_cons, es_nil, es_cons, o_none, o_some, ts_nil, ts_cons, c_lt, c_le, c_gt, c_ge, c_eq, c_ne, b_add, b_sub, b_mul, b_div, b_mod, b_pow, b_shr, a_add, a_mul, t_bool, t_int, List.map, List.cons_append, List.nil_append, List.getElem?_cons_succ, List.getElem?_cons_zero, List.set_cons_succ, List.set_cons_zero, frOf]); (repeat (first | rw [q_next] | rw [q_ret] | rw [q_cont] | rw [q_brk] | rw [ss_nil])); (try simp only [r_next, r_ret]))
      refine q τ3 v (((x1.trans xt).trans x2).trans x3) ?_
      rw [tr_some (List.getElem?_eq_getElem hp)]
      exact ht
/-- the drawing -/
def orderC (args : List V) (Q : V → Hp → Prop) (σ : Hp) : Prop :=
  ∃ (db : Addr) (ds : List Int), args = [.ref db] ∧ listAt σ db = some (ds.map .int) ∧ 0 < ds.length ∧ ds.length ≤ 100 ∧
    ∀ τ b ord, Ext σ τ → σ b = none → GoodOrd ds.length ord → τ b = some (.list (ord.map fun (k : Nat) => V.int (k : Int))) → Q (.ref b) τ
def ps_order : List PS := [
  .assign (.name 1) (.list []),
  .assign (.name 2) (.list [(.int 0)]),
  .for (.name 3) .plain (.var 0) [.expr (.meth .append (.var 1) [(.meth .pop (.var 2) [(.bin .Mod (.var 3) (.call .len [(.var 2)]))])]), .expr (.meth .extend (.var 2) [(.comp [none, none, some 0] (.var 1) (.name 1) .plain (.tuple [(.bin .Add (.bin .Mult (.int 2) (.sub (.var 1) (.neg (.int 1)))) (.int 1)), (.bin .Add (.bin .Mult (.int 2) (.sub (.var 1) (.neg (.int 1)))) (.int 2))]) [(.cmp .Lt (.var 1) (.call .len [(.var 2)]))])])],
  .expr (.meth .reverse (.var 1) []),
  .ret (.var 1)]
def natV (k : Nat) : V := .int (k : Int)
theorem erase_map {α β : Type} (f : α → β) : ∀ (l : List α) (i : Nat), (l.map f).eraseIdx i = (l.eraseIdx i).map f
  | [], i => rfl
  | x :: l, 0 => rfl
  | x :: l, i + 1 => by simp only [List.map_cons, List.eraseIdx_cons_succ]; rw [erase_map f l i]
theorem order_v (Φ : Fns) (args : List V) (Q : V → Hp → Prop) (σ : Hp) (F : Frm) (h : orderC args Q σ) (hF : F = args.map some ++ [none, none, none]) : vSs Φ ps_order (retV Q) F σ := by
  obtain ⟨db, ds, rfl, hd, h0, h100, q⟩ := h
  subst hF
  unfold ps_order
  (rw [ss_cons]; ((try simp only [e_int, e_bool, e_none, e_str, e_var, e_bin, e_neg, n_int, e_not, e_cmp, e_and, e_or, e_ite, e_sub, e_slice, e_list, e_tuple, e_call, e_ucall, e_meth, e_comp, t_not, t_and, t_or, t_cmp, t_var, t_sub, t_call, t_ucall, s_expr, s_assign, s_setitem, s_aug, s_augi, s_ifs, s_while, s_for, s_ret, s_brk, s_cont, ss_nil, c_range1, c_range2, c_range3, i_rng, i_ref, i_tup, i_enm, i_rev, bt_name, bt_tup, look_zero, look_succ, r_next, r_ret, sa_nil, sa_cons, es_nil, es_cons, o_none, o_some, ts_nil, ts_cons, c_lt, c_le, c_gt, c_ge, c_eq, c_ne, b_add, b_sub, b_mul, b_div, b_mod, b_pow, b_shr, a_add, a_mul, t_bool, t_int, List.map, List.cons_append, List.nil_append, List.getElem?_cons_succ, List.getElem?_cons_zero, List.set_cons_succ, List.set_cons_zero, frOf]); (repeat (first | rw [q_next] | rw [q_ret] | rw [q_cont] | rw [q_brk] | rw [ss_nil])); (try simp only [r_next, r_ret])))
  refine newL_of (big_of (by simp)) fun ob τ0 x0 f0 g0 => ?_
  ((try simp only [e_int, e_bool, e_none, e_str, e_var, e_bin, e_neg, n_int, e_not, e_cmp, e_and, e_or, e_ite, e_sub, e_slice, e_list, e_tuple, e_call, e_ucall, e_meth, e_comp, t_not, t_and, t_or, t_cmp, t_var, t_sub, t_call, t_ucall, s_expr, s_assign, s_setitem, s_aug, s_augi, s_ifs, s_while, s_for, s_ret, s_brk, s_cont, ss_nil, c_range1, c_range2, c_range3, i_rng, i_ref, i_tup, i_enm, i_rev, bt_name, bt_tup, look_zero, look_succ, r_next, r_ret, sa_nil, sa_cons, es_nil, es_cons, o_none, o_some, ts_nil, ts_cons, c_lt, c_le, c_gt, c_ge, c_eq, c_ne, b_add, b_sub, b_mul, b_div, b_mod, b_pow, b_shr, a_add, a_mul, t_bool, t_int, List.map, List.cons_append, List.nil_append, List.getElem?_cons_succ, List.getElem?_cons_zero, List.set_cons_succ, List.set_cons_zero, frOf]); (repeat (first | rw [q_next] | rw [q_ret] | rw [q_cont] | rw [q_brk] | rw [ss_nil])); (try simp only [r_next, r_ret]))
  (rw [ss_cons]; ((try simp only [e_int, e_bool, e_none, e_str, e_var, e_bin, e_neg, n_int, e_not, e_cmp, e_and, e_or, e_ite, e_sub, e_slice, e_list, e_tuple, e_call, e_ucall, e_meth, e_comp, t_not, t_and, t_or, t_cmp, t_var, t_sub, t_call, t_ucall, s_expr, s_assign, s_setitem, s_aug, s_augi, s_ifs, s_while, s_for, s_ret, s_brk, s_cont, ss_nil, c_range1, c_range2, c_range3, i_rng, i_ref, i_tup, i_enm, i_rev, bt_name, bt_tup, look_zero, look_succ, r_next, r_ret, sa_nil, sa_cons, es_nil, es_cons, o_none, o_some, ts_nil, ts_cons, c_lt, c_le, c_gt, c_ge, c_eq, c_ne, b_add, b_sub, b_mul, b_div, b_mod, b_pow, b_shr, a_add, a_mul, t_bool, t_int, List.map, List.cons_append, List.nil_append, List.getElem?_cons_succ, List.getElem?_cons_zero, List.set_cons_succ, List.set_cons_zero, frOf]); (repeat (first | rw [q_next] | rw [q_ret] | rw [q_cont] | rw [q_brk] | rw [ss_nil])); (try simp only [r_next, r_ret])))
  refine newL_of (big_of (by simp)) fun fb τ1 x1 f1 g1 => ?_
  ((try simp only [e_int, e_bool, e_none, e_str, e_var, e_bin, e_neg, n_int, e_not, e_cmp, e_and, e_or, e_ite, e_sub, e_slice, e_list, e_tuple, e_call, e_ucall, e_meth, e_comp, t_not, t_and, t_or, t_cmp, t_var, t_sub, t_call, t_ucall, s_expr, s_assign, s_setitem, s_aug, s_augi, s_ifs, s_while, s_for, s_ret, s_brk, s_cont, ss_nil, c_range1, c_range2, c_range3, i_rng, i_ref, i_tup, i_enm, i_rev, bt_name, bt_tup, look_zero, look_succ, r_next, r_ret, sa_nil, sa_cons, es_nil, es_cons, o_none, o_some, ts_nil, ts_cons, c_lt, c_le, c_gt, c_ge, c_eq, c_ne, b_add, b_sub, b_mul, b_div, b_mod, b_pow, b_shr, a_add, a_mul, t_bool, t_int, List.map, List.cons_append, List.nil_append, List.getElem?_cons_succ, List.getElem?_cons_zero, List.set_cons_succ, List.set_cons_zero, frOf]); (repeat (first | rw [q_next] | rw [q_ret] | rw [q_cont] | rw [q_brk] | rw [ss_nil])); (try simp only [r_next, r_ret]))
  have nof : ob ≠ fb := ne_of g0 f1
  have ff : σ fb = none := x0.fresh f1
  (rw [ss_cons]; ((try simp only [e_int, e_bool, e_none, e_str, e_var, e_bin, e_neg, n_int, e_not, e_cmp, e_and, e_or, e_ite, e_sub, e_slice, e_list, e_tuple, e_call, e_ucall, e_meth, e_comp, t_not, t_and, t_or, t_cmp, t_var, t_sub, t_call, t_ucall, s_expr, s_assign, s_setitem, s_aug, s_augi, s_ifs, s_while, s_for, s_ret, s_brk, s_cont, ss_nil, c_range1, c_range2, c_range3, i_rng, i_ref, i_tup, i_enm, i_rev, bt_name, bt_tup, look_zero, look_succ, r_next, r_ret, sa_nil, sa_cons, es_nil, es_cons, o_none, o_some, ts_nil, ts_cons, c_lt, c_le, c_gt, c_ge, c_eq, c_ne, b_add, b_sub, b_mul, b_div, b_mod, b_pow, b_shr, a_add, a_mul, t_bool, t_int, List.map, List.cons_append, List.nil_append, List.getElem?_cons_succ, List.getElem?_cons_zero, List.set_cons_succ, List.set_cons_zero, frOf]); (repeat (first | rw [q_next] | rw [q_ret] | rw [q_cont] | rw [q_brk] | rw [ss_nil])); (try simp only [r_next, r_ret])))
  refine ⟨⟨_, (x0.trans x1).listAt hd⟩, ?_⟩
  refine for_rule (xs := ds.map .int) (fun k F τ => ∃ (ord free : List Nat) (e3 : Option V), F = [some (.ref db), some (.ref ob), some (.ref fb), e3] ∧ Ext σ τ ∧ τ ob = some (.list (ord.map natV)) ∧ τ fb = some (.list (free.map natV)) ∧ ord.length = k ∧ k ≤ ds.length ∧ Draw ds.length ord free) (yields_lst (xs := ds.map .int) (fun τ' ⟨_, _, _, _, _, _, h, _⟩ => h.listAt hd) _ 0 rfl) ?_ ?_ ?_
  · exact ⟨[], [0], none, rfl, x0.trans x1, x1 _ _ g0, g1, rfl, by omega, draw_start h0⟩
  · rintro k x F τ hx ⟨ord, free, e3, rfl, xτ, go, gf, hl, hk, hD⟩ K k1 k2 k3 k4
    have hk' : k < ds.length := by have := lt_of_some hx; simpa using this
    obtain ⟨y, rfl⟩ : ∃ y, x = .int y := by
      rw [List.getElem?_map] at hx
      cases e : ds[k]? with
      | none => rw [e] at hx; simp at hx
      | some y => rw [e] at hx; simp at hx; exact ⟨y, hx.symm⟩
    clear hx
    have hfl : 0 < free.length := hD.more (by omega)
    have hfl2 : free.length ≤ 100 := by
      have := nodup_len _ _ hD.nd hD.lt
      rw [List.length_append] at this; omega
    ((try simp only [e_int, e_bool, e_none, e_str, e_var, e_bin, e_neg, n_int, e_not, e_cmp, e_and, e_or, e_ite, e_sub, e_slice, e_list, e_tuple, e_call, e_ucall, e_meth, e_comp, t_not, t_and, t_or, t_cmp, t_var, t_sub, t_call, t_ucall, s_expr, s_assign, s_setitem, s_aug, s_augi, s_ifs, s_while, s_for, s_ret, s_brk, s_cont, ss_nil, c_range1, c_range2, c_range3, i_rng, i_ref, i_tup, i_enm, i_rev, bt_name, bt_tup, look_zero, look_succ, r_next, r_ret, sa_nil, sa_cons, es_nil, es_cons, o_none, o_some, ts_nil, ts_cons, c_lt, c_le, c_gt, c_ge, c_eq, c_ne, b_add, b_sub, b_mul, b_div, b_mod, b_pow, b_shr, a_add, a_mul, t_bool, t_int, List.map, List.cons_append, List.nil_append, List.getElem?_cons_succ, List.getElem?_cons_zero, List.set_cons_succ, List.set_cons_zero, frOf]); (repeat (first | rw [q_next] | rw [q_ret] | rw [q_cont] | rw [q_brk] | rw [ss_nil])); (try simp only [r_next, r_ret]))
    (rw [ss_cons]; ((try simp only [e_int, e_bool, e_none, e_str, e_var, e_bin, e_neg, n_int, e_not, e_cmp, e_and, e_or, e_ite, e_sub, e_slice, e_list, e_tuple, e_call, e_ucall, e_meth, e_comp, t_not, t_and, t_or, t_cmp, t_var, t_sub, t_call, t_ucall, s_expr, s_assign, s_setitem, s_aug, s_augi, s_ifs, s_while, s_for, s_ret, s_brk, s_cont, ss_nil, c_range1, c_range2, c_range3, i_rng, i_ref, i_tup, i_enm, i_rev, bt_name, bt_tup, look_zero, look_succ, r_next, r_ret, sa_nil, sa_cons, es_nil, es_cons, o_none, o_some, ts_nil, ts_cons, c_lt, c_le, c_gt, c_ge, c_eq, c_ne, b_add, b_sub, b_mul, b_div, b_mod, b_pow, b_shr, a_add, a_mul, t_bool, t_int, List.map, List.cons_append, List.nil_append, List.getElem?_cons_succ, List.getElem?_cons_zero, List.set_cons_succ, List.set_cons_zero, frOf]); (repeat (first | rw [q_next] | rw [q_ret] | rw [q_cont] | rw [q_brk] | rw [ss_nil])); (try simp only [r_next, r_ret])))
    refine ⟨⟨_, _, rfl, go⟩, ⟨_, _, rfl, gf⟩, ?_⟩
    refine call_len (listAt_list gf) ?_
    rw [List.length_map]
    ((try simp only [e_int, e_bool, e_none, e_str, e_var, e_bin, e_neg, n_int, e_not, e_cmp, e_and, e_or, e_ite, e_sub, e_slice, e_list, e_tuple, e_call, e_ucall, e_meth, e_comp, t_not, t_and, t_or, t_cmp, t_var, t_sub, t_call, t_ucall, s_expr, s_assign, s_setitem, s_aug, s_augi, s_ifs, s_while, s_for, s_ret, s_brk, s_cont, ss_nil, c_range1, c_range2, c_range3, i_rng, i_ref, i_tup, i_enm, i_rev, bt_name, bt_tup, look_zero, look_succ, r_next, r_ret, sa_nil, sa_cons, es_nil, es_cons, o_none, o_some, ts_nil, ts_cons, c_lt, c_le, c_gt, c_ge, c_eq, c_ne, b_add, b_sub, b_mul, b_div, b_mod, b_pow, b_shr, a_add, a_mul, t_bool, t_int, List.map, List.cons_append, List.nil_append, List.getElem?_cons_succ, List.getElem?_cons_zero, List.set_cons_succ, List.set_cons_zero, frOf]); (repeat (first | rw [q_next] | rw [q_ret] | rw [q_cont] | rw [q_brk] | rw [ss_nil])); (try simp only [r_next, r_ret]))
    refine ⟨by omega, ?_⟩
    obtain ⟨b1, b2⟩ : 0 ≤ y.fmod (free.length : Int) ∧ y.fmod (free.length : Int) < free.length := by
      rw [Int.fmod_eq_emod_of_nonneg _ (by omega)]
      exact ⟨Int.emod_nonneg _ (by omega), Int.emod_lt_of_pos _ (by omega)⟩
    generalize y.fmod (free.length : Int) = z at *
    obtain ⟨m, rfl⟩ := Int.eq_ofNat_of_zero_le b1
    have hm : m < free.length := by omega
    have hD' := hD.step (List.getElem?_eq_getElem hm)
    have hc1 : free[m] < ds.length := hD.lt _ (List.mem_append_right _ (List.getElem_mem hm))
    have hfm : free[m]? = some free[m] := List.getElem?_eq_getElem hm
    generalize free[m] = c at *
    refine m_pop gf (by omega) (x := natV c) (by rw [List.getElem?_map]; simp [hfm]) ?_
    have em : ((m : Nat) : Int).toNat = m := by omega
    rw [em]
    have ef : (free.map natV).eraseIdx m = (free.eraseIdx m).map natV := erase_map natV free m
    rw [ef]
    have go2 : (upd τ fb (.list ((free.eraseIdx m).map natV))) ob = some (.list (ord.map natV)) := by rw [upd_ne _ _ nof]; exact go
    refine m_append go2 (by rw [List.length_map]; unfold BIG; omega) ?_
    have eo : ord.map natV ++ [natV c] = (ord ++ [c]).map natV := by simp
    rw [eo]
    have x2 : Ext σ (upd (upd τ fb (.list ((free.eraseIdx m).map natV))) ob (.list ((ord ++ [c]).map natV))) := (xτ.set _ ff).set _ f0
    have go3 := upd_same (upd τ fb (.list ((free.eraseIdx m).map natV))) ob (.list ((ord ++ [c]).map natV))
    have gf3 : (upd (upd τ fb (.list ((free.eraseIdx m).map natV))) ob (.list ((ord ++ [c]).map natV))) fb = some (.list ((free.eraseIdx m).map natV)) := by rw [upd_ne _ _ nof.symm, upd_same]
    generalize upd (upd τ fb (.list ((free.eraseIdx m).map natV))) ob (.list ((ord ++ [c]).map natV)) = τ2 at *
    ((try simp only [e_int, e_bool, e_none, e_str, e_var, e_bin, e_neg, n_int, e_not, e_cmp, e_and, e_or, e_ite, e_sub, e_slice, e_list, e_tuple, e_call, e_ucall, e_meth, e_comp, t_not, t_and, t_or, t_cmp, t_var, t_sub, t_call, t_ucall, s_expr, s_assign, s_setitem, s_aug, s_augi, s_ifs, s_while, s_for, s_ret, s_brk, s_cont, ss_nil, c_range1, c_range2, c_range3, i_rng, i_ref, i_tup, i_enm, i_rev, bt_name, bt_tup, look_zero, look_succ, r_next, r_ret, sa_nil, sa_cons, es_nil, es_cons, o_none, o_some, ts_nil, ts_cons, c_lt, c_le, c_gt, c_ge, c_eq, c_ne, b_add, b_sub, b_mul, b_div, b_mod, b_pow, b_shr, a_add, a_mul, t_bool, t_int, List.map, List.cons_append, List.nil_append, List.getElem?_cons_succ, List.getElem?_cons_zero, List.set_cons_succ, List.set_cons_zero, frOf]); (repeat (first | rw [q_next] | rw [q_ret] | rw [q_cont] | rw [q_brk] | rw [ss_nil])); (try simp only [r_next, r_ret]))
    (rw [ss_cons]; ((try simp only [e_int, e_bool, e_none, e_str, e_var, e_bin, e_neg, n_int, e_not, e_cmp, e_and, e_or, e_ite, e_sub, e_slice, e_list, e_tuple, e_call, e_ucall, e_meth, e_comp, t_not, t_and, t_or, t_cmp, t_var, t_sub, t_call, t_ucall, s_expr, s_assign, s_setitem, s_aug, s_augi, s_ifs, s_while, s_for, s_ret, s_brk, s_cont, ss_nil, c_range1, c_range2, c_range3, i_rng, i_ref, i_tup, i_enm, i_rev, bt_name, bt_tup, look_zero, look_succ, r_next, r_ret, sa_nil, sa_cons, es_nil, es_cons, o_none, o_some, ts_nil, ts_cons, c_lt, c_le, c_gt, c_ge, c_eq, c_ne, b_add, b_sub, b_mul, b_div, b_mod, b_pow, b_shr, a_add, a_mul, t_bool, t_int, List.map, List.cons_append, List.nil_append, List.getElem?_cons_succ, List.getElem?_cons_zero, List.set_cons_succ, List.set_cons_zero, frOf]); (repeat (first | rw [q_next] | rw [q_ret] | rw [q_cont] | rw [q_brk] | rw [ss_nil])); (try simp only [r_next, r_ret])))
    refine ⟨⟨_, _, rfl, gf3⟩, ?_⟩
    have hlast : nth ((ord ++ [c]).map natV) (-1) = some (.int (c : Int)) := by
      unfold nth
      rw [if_neg (by decide), if_pos (by simp; omega)]
      have : (-1 + (((ord ++ [c]).map natV).length : Int)).toNat = ord.length := by simp; omega
      rw [this]; simp [natV]
    refine sub_list (listAt_list go3) hlast ?_
    ((try simp only [e_int, e_bool, e_none, e_str, e_var, e_bin, e_neg, n_int, e_not, e_cmp, e_and, e_or, e_ite, e_sub, e_slice, e_list, e_tuple, e_call, e_ucall, e_meth, e_comp, t_not, t_and, t_or, t_cmp, t_var, t_sub, t_call, t_ucall, s_expr, s_assign, s_setitem, s_aug, s_augi, s_ifs, s_while, s_for, s_ret, s_brk, s_cont, ss_nil, c_range1, c_range2, c_range3, i_rng, i_ref, i_tup, i_enm, i_rev, bt_name, bt_tup, look_zero, look_succ, r_next, r_ret, sa_nil, sa_cons, es_nil, es_cons, o_none, o_some, ts_nil, ts_cons, c_lt, c_le, c_gt, c_ge, c_eq, c_ne, b_add, b_sub, b_mul, b_div, b_mod, b_pow, b_shr, a_add, a_mul, t_bool, t_int, List.map, List.cons_append, List.nil_append, List.getElem?_cons_succ, List.getElem?_cons_zero, List.set_cons_succ, List.set_cons_zero, frOf]); (repeat (first | rw [q_next] | rw [q_ret] | rw [q_cont] | rw [q_brk] | rw [ss_nil])); (try simp only [r_next, r_ret]))
    refine ⟨mul_l, ?_⟩
    refine sub_list (listAt_list go3) hlast ?_
    ((try simp only [e_int, e_bool, e_none, e_str, e_var, e_bin, e_neg, n_int, e_not, e_cmp, e_and, e_or, e_ite, e_sub, e_slice, e_list, e_tuple, e_call, e_ucall, e_meth, e_comp, t_not, t_and, t_or, t_cmp, t_var, t_sub, t_call, t_ucall, s_expr, s_assign, s_setitem, s_aug, s_augi, s_ifs, s_while, s_for, s_ret, s_brk, s_cont, ss_nil, c_range1, c_range2, c_range3, i_rng, i_ref, i_tup, i_enm, i_rev, bt_name, bt_tup, look_zero, look_succ, r_next, r_ret, sa_nil, sa_cons, es_nil, es_cons, o_none, o_some, ts_nil, ts_cons, c_lt, c_le, c_gt, c_ge, c_eq, c_ne, b_add, b_sub, b_mul, b_div, b_mod, b_pow, b_shr, a_add, a_mul, t_bool, t_int, List.map, List.cons_append, List.nil_append, List.getElem?_cons_succ, List.getElem?_cons_zero, List.set_cons_succ, List.set_cons_zero, frOf]); (repeat (first | rw [q_next] | rw [q_ret] | rw [q_cont] | rw [q_brk] | rw [ss_nil])); (try simp only [r_next, r_ret]))
    refine ⟨mul_l, by simp [BIG], ?_⟩
    refine kids_comp (n := ds.length) (x2.listAt hd) (by simp) fun τ3 nb x3 f3 g3 => ?_
    have hkl := kidsN_len (n := ds.length) (p := c)
    have hel : (free.eraseIdx m).length ≤ free.length := List.length_eraseIdx_le _ _
    refine m_extend (x3 _ _ gf3) g3 (by rw [List.length_map, List.length_map]; unfold BIG; omega) ?_
    ((try simp only [e_int, e_bool, e_none, e_str, e_var, e_bin, e_neg, n_int, e_not, e_cmp, e_and, e_or, e_ite, e_sub, e_slice, e_list, e_tuple, e_call, e_ucall, e_meth, e_comp, t_not, t_and, t_or, t_cmp, t_var, t_sub, t_call, t_ucall, s_expr, s_assign, s_setitem, s_aug, s_augi, s_ifs, s_while, s_for, s_ret, s_brk, s_cont, ss_nil, c_range1, c_range2, c_range3, i_rng, i_ref, i_tup, i_enm, i_rev, bt_name, bt_tup, look_zero, look_succ, r_next, r_ret, sa_nil, sa_cons, es_nil, es_cons, o_none, o_some, ts_nil, ts_cons, c_lt, c_le, c_gt, c_ge, c_eq, c_ne, b_add, b_sub, b_mul, b_div, b_mod, b_pow, b_shr, a_add, a_mul, t_bool, t_int, List.map, List.cons_append, List.nil_append, List.getElem?_cons_succ, List.getElem?_cons_zero, List.set_cons_succ, List.set_cons_zero, frOf]); (repeat (first | rw [q_next] | rw [q_ret] | rw [q_cont] | rw [q_brk] | rw [ss_nil])); (try simp only [r_next, r_ret]))
    refine k1 _ _ ⟨ord ++ [c], free.eraseIdx m ++ kidsN ds.length c, _, rfl, (x2.trans x3).set _ ff, ?_, ?_, by simp [hl], by omega, hD'⟩
    · rw [upd_ne _ _ nof]; exact x3 _ _ go3
    · rw [upd_same, List.map_append]; rfl
  · rintro F τ ⟨ord, free, e3, rfl, xτ, go, gf, hl, hk, hD⟩
    rw [List.length_map] at hl
    ((try simp only [e_int, e_bool, e_none, e_str, e_var, e_bin, e_neg, n_int, e_not, e_cmp, e_and, e_or, e_ite, e_sub, e_slice, e_list, e_tuple, e_call, e_ucall, e_meth, e_comp, t_not, t_and, t_or, t_cmp, t_var, t_sub, t_call, t_ucall, s_expr, s_assign, s_setitem, s_aug, s_augi, s_ifs, s_while, s_for, s_ret, s_brk, s_cont, ss_nil, c_range1, c_range2, c_range3, i_rng, i_ref, i_tup, i_enm, i_rev, bt_name, bt_tup, look_zero, look_succ, r_next, r_ret, sa_nil, sa_cons, es_nil, es_cons, o_none, o_some, ts_nil, ts_cons, c_lt, c_le, c_gt, c_ge, c_eq, c_ne, b_add, b_sub, b_mul, b_div, b_mod, b_pow, b_shr, a_add, a_mul, t_bool, t_int, List.map, List.cons_append, List.nil_append, List.getElem?_cons_succ, List.getElem?_cons_zero, List.set_cons_succ, List.set_cons_zero, frOf]); (repeat (first | rw [q_next] | rw [q_ret] | rw [q_cont] | rw [q_brk] | rw [ss_nil])); (try simp only [r_next, r_ret]))
    (rw [ss_cons]; ((try simp only [e_int, e_bool, e_none, e_str, e_var, e_bin, e_neg, n_int, e_not, e_cmp, e_and, e_or, e_ite, e_sub, e_slice, e_list, e_tuple, e_call, e_ucall, e_meth, e_comp, t_not, t_and, t_or, t_cmp, t_var, t_sub, t_call, t_ucall, s_expr, s_assign, s_setitem, s_aug, s_augi, s_ifs, s_while, s_for, s_ret, s_brk, s_cont, ss_nil, c_range1, c_range2, c_range3, i_rng, i_ref, i_tup, i_enm, i_rev, bt_name, bt_tup, look_zero, look_succ, r_next, r_ret, sa_nil, sa_cons, es_nil, es_cons, o_none, o_some, ts_nil, ts_cons, c_lt, c_le, c_gt, c_ge, c_eq, c_ne, b_add, b_sub, b_mul, b_div, b_mod, b_pow, b_shr, a_add, a_mul, t_bool, t_int, List.map, List.cons_append, List.nil_append, List.getElem?_cons_succ, List.getElem?_cons_zero, List.set_cons_succ, List.set_cons_zero, frOf]); (repeat (first | rw [q_next] | rw [q_ret] | rw [q_cont] | rw [q_brk] | rw [ss_nil])); (try simp only [r_next, r_ret])))
    refine ⟨⟨_, _, rfl, go⟩, m_reverse go ?_⟩
    ((try simp only [e_int, e_bool, e_none, e_str, e_var, e_bin, e_neg, n_int, e_not, e_cmp, e_and, e_or, e_ite, e_sub, e_slice, e_list, e_tuple, e_call, e_ucall, e_meth, e_comp, t_not, t_and, t_or, t_cmp, t_var, t_sub, t_call, t_ucall, s_expr, s_assign, s_setitem, s_aug, s_augi, s_ifs, s_while, s_for, s_ret, s_brk, s_cont, ss_nil, c_range1, c_range2, c_range3, i_rng, i_ref, i_tup, i_enm, i_rev, bt_name, bt_tup, look_zero, look_succ, r_next, r_ret, sa_nil, sa_cons, es_nil, es_cons, o_none, o_some, ts_nil, ts_cons, c_lt, c_le, c_gt, c_ge, c_eq, c_ne, b_add, b_sub, b_mul, b_div, b_mod, b_pow, b_shr, a_add, a_mul, t_bool, t_int, List.map, List.cons_append, List.nil_append, List.getElem?_cons_succ, List.getElem?_cons_zero, List.set_cons_succ, List.set_cons_zero, frOf]); (repeat (first | rw [q_next] | rw [q_ret] | rw [q_cont] | rw [q_brk] | rw [ss_nil])); (try simp only [r_next, r_ret]))
    (rw [ss_cons]; ((try simp only [e_int, e_bool, e_none, e_str, e_var, e_bin, e_neg, n_int, e_not, e_cmp, e_and, e_or, e_ite, e_sub, e_slice, e_list, e_tuple, e_call, e_ucall, e_meth, e_comp, t_not, t_and, t_or, t_cmp, t_var, t_sub, t_call, t_ucall, s_expr, s_assign, s_setitem, s_aug, s_augi, s_ifs, s_while, s_for, s_ret, s_brk, s_cont, ss_nil, c_range1, c_range2, c_range3, i_rng, i_ref, i_tup, i_enm, i_rev, bt_name, bt_tup, look_zero, look_succ, r_next, r_ret, sa_nil, sa_cons, es_nil, es_cons, o_none, o_some, ts_nil, ts_cons, c_lt, c_le, c_gt, c_ge, c_eq, c_ne, b_add, b_sub, b_mul, b_div, b_mod, b_pow, b_shr, a_add, a_mul, t_bool, t_int, List.map, List.cons_append, List.nil_append, List.getElem?_cons_succ, List.getElem?_cons_zero, List.set_cons_succ, List.set_cons_zero, frOf]); (repeat (first | rw [q_next] | rw [q_ret] | rw [q_cont] | rw [q_brk] | rw [ss_nil])); (try simp only [r_next, r_ret])))
    refine q _ ob ord.reverse (xτ.set _ f0) f0 (hD.good hl) ?_
    rw [upd_same, ← List.map_reverse]; rfl

/-! Vc05b -/
theorem lt_lists {σ : Hp} {Q : V → Hp → Prop} {a b : Addr} {xs ys : List Int} (e1 : listAt σ a = some (xs.map .int)) (e2 : listAt σ b = some (ys.map .int)) (q : Q (.bool (ltI xs ys)) σ) : opCmp .Lt (.ref a) (.ref b) Q σ :=
  lt_dat (d := .list (xs.map .int)) (e := .list (ys.map .int)) (.list e1 (dats_intsV σ xs)) (.list e2 (dats_intsV σ ys)) (by have := depthAll_ints xs; simp only [PyData.depth]; omega) (lexD_ints 58 xs ys) q
/-- the items: lists of one number each -/
structure ItemsAt (σ : Hp) (refs : List Addr) (vals : List Int) : Prop where
  len : refs.length = vals.length
  nd : refs.Nodup
  at' : ∀ (k : Nat) (a : Addr) (v : Int), refs[k]? = some a → vals[k]? = some v → σ a = some (.list [.int v])
theorem ItemsAt.ext {σ τ : Hp} {refs : List Addr} {vals : List Int} (h : ItemsAt σ refs vals) (e : Ext σ τ) : ItemsAt τ refs vals := ⟨h.len, h.nd, fun k a v x y => e _ _ (h.at' k a v x y)⟩
theorem ItemsAt.mem {σ : Hp} {refs : List Addr} {vals : List Int} (h : ItemsAt σ refs vals) {a : Addr} (m : a ∈ refs) : ∃ o, σ a = some o := by
  obtain ⟨k, hk⟩ := List.getElem?_of_mem m
  have := (List.getElem?_eq_some_iff.mp hk).1
  exact ⟨_, h.at' k a _ hk (List.getElem?_eq_getElem (by rw [← h.len]; exact this))⟩
theorem ItemsAt.snoc {σ : Hp} {refs : List Addr} {vals : List Int} {a : Addr} {v : Int} (h : ItemsAt σ refs vals) (n : a ∉ refs) (g : σ a = some (.list [.int v])) : ItemsAt σ (refs ++ [a]) (vals ++ [v]) := by
  refine ⟨by simp [h.len], ?_, fun k c d x y => ?_⟩
  · rw [List.nodup_append]
    exact ⟨h.nd, by simp, fun x hx y hy => by simp at hy; subst hy; rintro rfl; exact n hx⟩
  · rcases Nat.lt_or_ge k refs.length with q | q
    · rw [List.getElem?_append_left q] at x
      rw [List.getElem?_append_left (by rw [← h.len]; exact q)] at y
      exact h.at' k c d x y
    · rw [List.getElem?_append_right q] at x
      rw [List.getElem?_append_right (by rw [← h.len]; exact q)] at y
      rw [h.len] at x
      generalize k - vals.length = i at *
      cases i with
      | zero => simp at x y; subst x y; exact g
      | succ i => simp at x
def fV (refs : List Addr) (k : Fin refs.length) : V := .ref refs[k]
def ltF (refs : List Addr) (vals : List Int) (i j : Fin refs.length) : Bool := decide (vals.getD i 0 < vals.getD j 0)
theorem ltF_sw (refs : List Addr) (vals : List Int) : SW (ltF refs vals) := ⟨fun a b h => by simp [ltF] at h ⊢; omega, fun a b c h => by simp [ltF] at h ⊢; omega⟩
theorem ItemsAt.ltX {σ : Hp} {refs : List Addr} {vals : List Int} (h : ItemsAt σ refs vals) : LtX σ (fV refs) (ltF refs vals) := by
  intro x y τ Q e q
  have g : ∀ k : Fin refs.length, listAt τ refs[k] = some ([vals.getD k 0].map .int) := fun k => by
    have hk : (k : Nat) < vals.length := by rw [← h.len]; exact k.2
    refine listAt_list (e _ _ (h.at' k _ _ (List.getElem?_eq_getElem k.2) ?_))
    exact getD_some hk
  refine lt_lists (g x) (g y) ?_
  have : ltI [vals.getD x 0] [vals.getD y 0] = ltF refs vals x y := by
    simp only [ltI, ltF]
    by_cases e : vals.getD x 0 = vals.getD y 0
    · rw [if_pos e, decide_eq_false (show ¬ vals.getD x 0 < vals.getD y 0 by omega)]; rfl
    · rw [if_neg e]
  rw [this]; exact q
theorem fin_refs (refs : List Addr) : (List.finRange refs.length).map (fV refs) = refs.map .ref := by
  apply List.ext_getElem
  · simp
  · intro i h1 h2
    simp [fV]
/-- the trees of a level -/
structure LevelAt {α : Type} (f : α → V) (B τ : Hp) (R : List α) (a : Nat) (vs : List V) : Prop where
  len : a + vs.length = min (2 * a + 1) R.length
  at' : ∀ (j : Nat) v, vs[j]? = some v → TreeAt f B τ (tr R (a + j)) v
def kidsOf (τ : Hp) : V → List V
  | .ref a => match τ a with
    | some (.list [_, .ref tb]) => (match τ tb with | some (.list kids) => kids | _ => [])
    | _ => []
  | _ => []
section
variable {α : Type} {f : α → V} {B τ : Hp} {R : List α}
theorem kids_at {p : Nat} {v : V} (h : TreeAt f B τ (tr R p) v) : ∃ (x : α) (a tb : Addr) (kids : List V), R[p]? = some x ∧ v = .ref a ∧ τ a = some (.list [f x, .ref tb]) ∧ τ tb = some (.list kids) ∧ (B a = none ∧ B tb = none) ∧ kidsOf τ v = kids ∧ kids.length = min (2 * p + 3) R.length - min (2 * p + 1) R.length ∧ ∀ (k : Nat) u, kids[k]? = some u → TreeAt f B τ (tr R (2 * p + 1 + k)) u := by
  cases e : R[p]? with
  | none => rw [tr_none (List.getElem?_eq_none_iff.mp e)] at h; exact h.elim
  | some x =>
    rw [tr_some e] at h
    obtain ⟨a, tb, kids, rfl, h1, h2, hB, h3⟩ := h
    refine ⟨x, a, tb, kids, rfl, rfl, h1, h2, hB, by simp [kidsOf, h1, h2], ?_⟩
    have none_of : ∀ q, tr R q = .nil → R.length ≤ q := fun q hq => by
      rcases Nat.lt_or_ge q R.length with h | h
      · rw [tr_some (List.getElem?_eq_getElem h)] at hq; cases hq
      · exact h
    have some_of : ∀ q u, TreeAt f B τ (tr R q) u → q < R.length := fun q u hu => by
      rcases Nat.lt_or_ge q R.length with h | h
      · exact h
      · rw [tr_none h] at hu; exact hu.elim
    rcases h3 with ⟨q1, q2, rfl⟩ | ⟨q2, u, rfl, hu⟩ | ⟨u, w, rfl, hu, hw⟩
    · have := none_of _ q1
      exact ⟨by simp; omega, fun k u hk => by simp at hk⟩
    · have := none_of _ q2
      have := some_of _ _ hu
      refine ⟨by simp; omega, fun k u' hk => ?_⟩
      cases k with
      | zero => simp at hk; subst hk; exact hu
      | succ k => simp at hk
    · have := some_of _ _ hw
      refine ⟨by simp; omega, fun k u' hk => ?_⟩
      match k, hk with
      | 0, hk => simp at hk; subst hk; exact hu
      | 1, hk => simp at hk; subst hk; exact hw
      | k + 2, hk => simp at hk
theorem level_pre {a : Nat} {vs : List V} (hv : ∀ (j : Nat) v, vs[j]? = some v → TreeAt f B τ (tr R (a + j)) v) : ∀ i, i ≤ vs.length → ((vs.take i).flatMap (kidsOf τ)).length = min (2 * (a + i) + 1) R.length - min (2 * a + 1) R.length ∧ ∀ (j : Nat) v, ((vs.take i).flatMap (kidsOf τ))[j]? = some v → TreeAt f B τ (tr R (2 * a + 1 + j)) v
  | 0, _ => ⟨by simp, fun j v h => by simp at h⟩
  | i + 1, hi => by
    obtain ⟨h1, h2⟩ := level_pre hv i (by omega)
    have hi' : i < vs.length := by omega
    obtain ⟨x, b, tb, kids, e1, e2, e3, e4, eB, e5, e6, e7⟩ := kids_at (hv i _ (List.getElem?_eq_getElem hi'))
    have hlt := (List.getElem?_eq_some_iff.mp e1).1
    rw [List.take_add_one, List.getElem?_eq_getElem hi', List.flatMap_append]
    have e8 : (Option.toList (some vs[i])).flatMap (kidsOf τ) = kids := by simp [e5]
    rw [e8]
    generalize (vs.take i).flatMap (kidsOf τ) = ws at *
    refine ⟨by rw [List.length_append, h1, e6]; omega, fun j v hj => ?_⟩
    rcases Nat.lt_or_ge j ws.length with q | q
    · rw [List.getElem?_append_left q] at hj; exact h2 j v hj
    · rw [List.getElem?_append_right q] at hj
      have hk := (List.getElem?_eq_some_iff.mp hj).1
      have := e7 _ v hj
      have e9 : 2 * (a + i) + 1 + (j - ws.length) = 2 * a + 1 + j := by omega
      rw [e9] at this; exact this
theorem LevelAt.next {a : Nat} {vs : List V} (h : LevelAt f B τ R a vs) (ha : a ≤ R.length) : LevelAt f B τ R (a + vs.length) (vs.flatMap (kidsOf τ)) := by
  obtain ⟨h1, h2⟩ := level_pre h.at' vs.length (Nat.le_refl _)
  rw [List.take_length] at h1 h2
  have hl := h.len
  refine ⟨by rw [h1]; omega, fun j v hj => ?_⟩
  have hj' := (List.getElem?_eq_some_iff.mp hj).1
  have : a + vs.length + j = 2 * a + 1 + j := by omega
  rw [this]; exact h2 j v hj
end
def ps_law05c : List PS := [
  .for (.tup [8, 9]) .enum (.var 2) [.expr (.meth .append (.var 9) [(.var 8)])],
  .ret (.and (.cmp .Eq (.var 3) (.var 6)) (.cmp .Eq (.var 5) (.var 6)))]
def ps_law05b : List PS :=
  .whil (.cmp .NotEq (.var 7) (.list [])) [.expr (.meth .extend (.var 6) [(.comp [none, none] (.sub (.var 1) (.int 0)) (.name 1) .plain (.var 7) [])]), .assign (.name 7) (.comp2 [none, none, none] (.var 2) 1 (.var 7) 2 (.sub (.var 1) (.int 1)))] :: ps_law05c
def ps_law05 : List PS :=
  .assign (.name 1) (.bin .Add (.var 0) (.list [(.int 9), (.int 4), (.int 13), (.int 7), (.int 2), (.int 11)])) ::
  .assign (.name 2) (.comp [none, none] (.list [(.ite (.cmp .Eq (.bin .Mod (.var 1) (.int 2)) (.int 1)) (.bin .Mod (.bin .FloorDiv (.var 1) (.int 2)) (.int 4)) (.bin .FloorDiv (.var 1) (.int 2)))]) (.name 1) .plain (.var 1) []) ::
  .assign (.name 3) (.call .list [(.var 2)]) ::
  .for (.name 4) .plain (.ucall 3 [(.var 1)]) [.expr (.ucall 1 [(.var 3), (.var 4)])] ::
  .assign (.name 5) (.call .list [(.var 2)]) ::
  .expr (.ucall 2 [(.var 5)]) ::
  .assign (.name 6) (.list []) ::
  .assign (.name 7) (.list [(.ucall 5 [(.var 2), (.int 0)])]) ::
  ps_law05b

/-! Vc05d -/
theorem TreeAt.mono {α : Type} {f : α → V} {B σ τ : Hp} (h : ∀ a o, B a = none → σ a = some o → τ a = some o) : ∀ {t : Tr α} {v : V}, TreeAt f B σ t v → TreeAt f B τ t v
  | .nil, _, q => q
  | .node x l r, v, ⟨a, tb, kids, e1, e2, e3, eB, e4⟩ => by
    refine ⟨a, tb, kids, e1, h _ _ eB.1 e2, h _ _ eB.2 e3, eB, ?_⟩
    rcases e4 with q | ⟨q, u, q1, q2⟩ | ⟨u, w, q1, q2, q3⟩
    · exact .inl q
    · exact .inr (.inl ⟨q, u, q1, TreeAt.mono h q2⟩)
    · exact .inr (.inr ⟨u, w, q1, TreeAt.mono h q2, TreeAt.mono h q3⟩)
theorem LevelAt.mono {α : Type} {f : α → V} {B σ τ : Hp} {R : List α} {a : Nat} {vs : List V} (h : ∀ a o, B a = none → σ a = some o → τ a = some o) (x : LevelAt f B σ R a vs) : LevelAt f B τ R a vs := ⟨x.len, fun j v e => (x.at' j v e).mono h⟩
theorem eq_same {σ : Hp} {Q : V → Hp → Prop} {a b : Addr} {xs : List V} {ds : List PyData} (ha : listAt σ a = some xs) (hb : listAt σ b = some xs) (hd : Dats σ xs ds) (hdep : PyData.depthAll ds ≤ 40) (q : Q (.bool true) σ) : opCmp .Eq (.ref a) (.ref b) Q σ := by
  refine eq_dat (d := .list ds) (e := .list ds) (.list ha hd) (.list hb hd) (by simp only [PyData.depth]; omega) ?_
  rw [PySem.SeqAt.eqv_refl _ (Dat.lay (σ := σ) (.list ha hd))]; exact q
theorem dats_fV {σ : Hp} {refs : List Addr} {vals : List Int} (h : ∀ k : Fin refs.length, σ refs[k] = some (.list [.int (vals.getD k 0), .int ((k : Nat) : Int)])) : ∀ R : List (Fin refs.length), Dats σ (R.map (fV refs)) (R.map fun (k : Fin refs.length) => PyData.list [.int (vals.getD k 0), .int ((k : Nat) : Int)]) ∧ PyData.depthAll (R.map fun (k : Fin refs.length) => PyData.list [.int (vals.getD k 0), .int ((k : Nat) : Int)]) ≤ 40
  | [] => ⟨.nil, by simp [PyData.depthAll]⟩
  | k :: R => by
    obtain ⟨h1, h2⟩ := dats_fV h R
    refine ⟨.cons (.list (listAt_list (h k)) (.cons (.int _) (.cons (.int _) .nil))) h1, ?_⟩
    simp only [List.map_cons, PyData.depthAll, PyData.depth] at h2 ⊢
    omega
section
variable {refs : List Addr} {vals : List Int} {R : List (Fin refs.length)} {τ : Hp}
theorem law05c_v (Φ : Fns) {l ib ob wb hb : Addr} (I : ItemsAt τ refs vals) (gi : τ ib = some (.list (refs.map .ref))) (go : τ ob = some (.list (R.map (fV refs)))) (gw : τ wb = some (.list (R.map (fV refs)))) (gh : τ hb = some (.list (R.map (fV refs))))
    (hne : ∀ a ∈ refs, a ≠ ib ∧ a ≠ ob ∧ a ≠ wb ∧ a ≠ hb) (hn : refs.length ≤ 100) {e1 e4 e7 e8 e9 : Option V} :
    vSs Φ ps_law05c (retV fun v _ => v = .bool true) [some (.ref l), e1, some (.ref ib), some (.ref ob), e4, some (.ref wb), some (.ref hb), e7, e8, e9] τ := by
  have hlen := I.len
  unfold ps_law05c
  (rw [ss_cons]; ((try simp only [e_int, e_bool, e_none, e_str, e_var, e_bin, e_neg, n_int, e_not, e_cmp, e_and, e_or, e_ite, e_sub, e_slice, e_list, e_tuple, e_call, e_ucall, e_meth, e_comp, t_not, t_and, t_or, t_cmp, t_var, t_sub, t_call, t_ucall, s_expr, s_assign, s_setitem, s_aug, s_augi, s_ifs, s_while, s_for, s_ret, s_brk, s_cont, ss_nil, c_range1, c_range2, c_range3, i_rng, i_ref, i_tup, i_enm, i_rev, bt_name, bt_tup, look_zero, look_succ, r_next, r_ret, sa_nil, sa_cons, es_nil, es_cons, o_none, o_some, ts_nil, ts_cons, c_lt, c_le, c_gt, c_ge, c_eq, c_ne, b_add, b_sub, b_mul, b_div, b_mod, b_pow, b_shr, a_add, a_mul, t_bool, t_int, List.map, List.cons_append, List.nil_append, List.getElem?_cons_succ, List.getElem?_cons_zero, List.set_cons_succ, List.set_cons_zero, frOf]); (repeat (first | rw [q_next] | rw [q_ret] | rw [q_cont] | rw [q_brk] | rw [ss_nil])); (try simp only [r_next, r_ret])))
  refine ⟨⟨_, gi⟩, ?_⟩
  refine for_rule (xs := enumV (refs.map .ref)) (fun i F ρ => ∃ (e8 e9 : Option V), F = [some (.ref l), e1, some (.ref ib), some (.ref ob), e4, some (.ref wb), some (.ref hb), e7, e8, e9] ∧ ρ ib = some (.list (refs.map .ref)) ∧ ρ ob = some (.list (R.map (fV refs))) ∧ ρ wb = some (.list (R.map (fV refs))) ∧ ρ hb = some (.list (R.map (fV refs))) ∧
    ∀ (k : Nat) (a : Addr) (v : Int), refs[k]? = some a → vals[k]? = some v → ρ a = some (.list (if k < i then [.int v, .int (k : Int)] else [.int v]))) (yields_enm (xs := refs.map .ref) (fun τ' ⟨_, _, _, _, _, h, _⟩ => listAt_list h) _ 0 rfl) ?_ ?_ ?_
  · exact ⟨_, _, rfl, gi, go, gw, gh, fun k a v x y => by rw [if_neg (by omega)]; exact I.at' k a v x y⟩
  · rintro i x F ρ hx ⟨e8, e9, rfl, gi, go, gw, gh, hat⟩ K k1 k2 k3 k4
    have hi : i < refs.length := by have := lt_of_some hx; simpa [enumV] using this
    have hx' : x = .tup [.int (i : Nat), .ref refs[i]] := by
      unfold enumV at hx
      rw [List.length_map, List.getElem?_map, List.getElem?_range hi] at hx
      simp [hi] at hx
      exact hx.symm
    subst hx'
    obtain ⟨n1, n2, n3, n4⟩ := hne _ (List.getElem_mem hi)
    have hv : i < vals.length := by omega
    have ga := hat i _ _ (List.getElem?_eq_getElem hi) (List.getElem?_eq_getElem hv)
    rw [if_neg (by omega)] at ga
    ((try simp only [e_int, e_bool, e_none, e_str, e_var, e_bin, e_neg, n_int, e_not, e_cmp, e_and, e_or, e_ite, e_sub, e_slice, e_list, e_tuple, e_call, e_ucall, e_meth, e_comp, t_not, t_and, t_or, t_cmp, t_var, t_sub, t_call, t_ucall, s_expr, s_assign, s_setitem, s_aug, s_augi, s_ifs, s_while, s_for, s_ret, s_brk, s_cont, ss_nil, c_range1, c_range2, c_range3, i_rng, i_ref, i_tup, i_enm, i_rev, bt_name, bt_tup, look_zero, look_succ, r_next, r_ret, sa_nil, sa_cons, es_nil, es_cons, o_none, o_some, ts_nil, ts_cons, c_lt, c_le, c_gt, c_ge, c_eq, c_ne, b_add, b_sub, b_mul, b_div, b_mod, b_pow, b_shr, a_add, a_mul, t_bool, t_int, List.map, List.cons_append, List.nil_append, List.getElem?_cons_succ, List.getElem?_cons_zero, List.set_cons_succ, List.set_cons_zero, frOf]); (repeat (first | rw [q_next] | rw [q_ret] | rw [q_cont] | rw [q_brk] | rw [ss_nil])); (try simp only [r_next, r_ret]))
    refine ⟨rfl, ?_⟩
    ((try simp only [e_int, e_bool, e_none, e_str, e_var, e_bin, e_neg, n_int, e_not, e_cmp, e_and, e_or, e_ite, e_sub, e_slice, e_list, e_tuple, e_call, e_ucall, e_meth, e_comp, t_not, t_and, t_or, t_cmp, t_var, t_sub, t_call, t_ucall, s_expr, s_assign, s_setitem, s_aug, s_augi, s_ifs, s_while, s_for, s_ret, s_brk, s_cont, ss_nil, c_range1, c_range2, c_range3, i_rng, i_ref, i_tup, i_enm, i_rev, bt_name, bt_tup, look_zero, look_succ, r_next, r_ret, sa_nil, sa_cons, es_nil, es_cons, o_none, o_some, ts_nil, ts_cons, c_lt, c_le, c_gt, c_ge, c_eq, c_ne, b_add, b_sub, b_mul, b_div, b_mod, b_pow, b_shr, a_add, a_mul, t_bool, t_int, List.map, List.cons_append, List.nil_append, List.getElem?_cons_succ, List.getElem?_cons_zero, List.set_cons_succ, List.set_cons_zero, frOf]); (repeat (first | rw [q_next] | rw [q_ret] | rw [q_cont] | rw [q_brk] | rw [ss_nil])); (try simp only [r_next, r_ret]))
    (rw [ss_cons]; ((try simp only [e_int, e_bool, e_none, e_str, e_var, e_bin, e_neg, n_int, e_not, e_cmp, e_and, e_or, e_ite, e_sub, e_slice, e_list, e_tuple, e_call, e_ucall, e_meth, e_comp, t_not, t_and, t_or, t_cmp, t_var, t_sub, t_call, t_ucall, s_expr, s_assign, s_setitem, s_aug, s_augi, s_ifs, s_while, s_for, s_ret, s_brk, s_cont, ss_nil, c_range1, c_range2, c_range3, i_rng, i_ref, i_tup, i_enm, i_rev, bt_name, bt_tup, look_zero, look_succ, r_next, r_ret, sa_nil, sa_cons, es_nil, es_cons, o_none, o_some, ts_nil, ts_cons, c_lt, c_le, c_gt, c_ge, c_eq, c_ne, b_add, b_sub, b_mul, b_div, b_mod, b_pow, b_shr, a_add, a_mul, t_bool, t_int, List.map, List.cons_append, List.nil_append, List.getElem?_cons_succ, List.getElem?_cons_zero, List.set_cons_succ, List.set_cons_zero, frOf]); (repeat (first | rw [q_next] | rw [q_ret] | rw [q_cont] | rw [q_brk] | rw [ss_nil])); (try simp only [r_next, r_ret])))
    refine ⟨⟨_, _, rfl, ga⟩, ?_⟩
    refine m_append ga (by simp [BIG]) ?_
    ((try simp only [e_int, e_bool, e_none, e_str, e_var, e_bin, e_neg, n_int, e_not, e_cmp, e_and, e_or, e_ite, e_sub, e_slice, e_list, e_tuple, e_call, e_ucall, e_meth, e_comp, t_not, t_and, t_or, t_cmp, t_var, t_sub, t_call, t_ucall, s_expr, s_assign, s_setitem, s_aug, s_augi, s_ifs, s_while, s_for, s_ret, s_brk, s_cont, ss_nil, c_range1, c_range2, c_range3, i_rng, i_ref, i_tup, i_enm, i_rev, bt_name, bt_tup, look_zero, look_succ, r_next, r_ret, sa_nil, sa_cons, es_nil, es_cons, o_none, o_some, ts_nil, ts_cons, c_lt, c_le, c_gt, c_ge, c_eq, c_ne, b_add, b_sub, b_mul, b_div, b_mod, b_pow, b_shr, a_add, a_mul, t_bool, t_int, List.map, List.cons_append, List.nil_append, List.getElem?_cons_succ, List.getElem?_cons_zero, List.set_cons_succ, List.set_cons_zero, frOf]); (repeat (first | rw [q_next] | rw [q_ret] | rw [q_cont] | rw [q_brk] | rw [ss_nil])); (try simp only [r_next, r_ret]))
    refine k1 _ _ ⟨_, _, rfl, by rw [upd_ne _ _ n1.symm]; exact gi, by rw [upd_ne _ _ n2.symm]; exact go, by rw [upd_ne _ _ n3.symm]; exact gw, by rw [upd_ne _ _ n4.symm]; exact gh, fun k a v hxk hy => ?_⟩
    clear hx
    by_cases e : k = i
    · subst e
      rw [List.getElem?_eq_getElem hi] at hxk
      rw [List.getElem?_eq_getElem hv] at hy
      cases hxk; cases hy
      rw [upd_same, if_pos (by omega)]
    · have : a ≠ refs[i] := fun q => e (getElem_inj I.nd (by rw [← q]; exact hxk) (List.getElem?_eq_getElem hi))
      rw [upd_ne _ _ this, hat k a v hxk hy]
      by_cases hk : k < i
      · rw [if_pos hk, if_pos (by omega)]
      · rw [if_neg hk, if_neg (by omega)]
  · rintro F ρ ⟨e8, e9, rfl, gi, go, gw, gh, hat⟩
    have hl : (enumV (refs.map V.ref)).length = refs.length := by simp [enumV]
    rw [hl] at hat
    have hf : ∀ k : Fin refs.length, ρ refs[k] = some (.list [.int (vals.getD k 0), .int ((k : Nat) : Int)]) := fun k => by
      have hk : (k : Nat) < vals.length := by rw [← hlen]; exact k.2
      have := hat k _ (vals.getD k 0) (List.getElem?_eq_getElem k.2) (getD_some hk)
      rw [if_pos k.2] at this; exact this
    obtain ⟨h1, h2⟩ := dats_fV hf R
    ((try simp only [e_int, e_bool, e_none, e_str, e_var, e_bin, e_neg, n_int, e_not, e_cmp, e_and, e_or, e_ite, e_sub, e_slice, e_list, e_tuple, e_call, e_ucall, e_meth, e_comp, t_not, t_and, t_or, t_cmp, t_var, t_sub, t_call, t_ucall, s_expr, s_assign, s_setitem, s_aug, s_augi, s_ifs, s_while, s_for, s_ret, s_brk, s_cont, ss_nil, c_range1, c_range2, c_range3, i_rng, i_ref, i_tup, i_enm, i_rev, bt_name, bt_tup, look_zero, look_succ, r_next, r_ret, sa_nil, sa_cons, es_nil, es_cons, o_none, o_some, ts_nil, ts_cons, c_lt, c_le, c_gt, c_ge, c_eq, c_ne, b_add, b_sub, b_mul, b_div, b_mod, b_pow, b_shr, a_add, a_mul, t_bool, t_int, List.map, List.cons_append, List.nil_append, List.getElem?_cons_succ, List.getElem?_cons_zero, List.set_cons_succ, List.set_cons_zero, frOf]); (repeat (first | rw [q_next] | rw [q_ret] | rw [q_cont] | rw [q_brk] | rw [ss_nil])); (try simp only [r_next, r_ret]))
    (rw [ss_cons]; ((try simp only [e_int, e_bool, e_none, e_str, e_var, e_bin, e_neg, n_int, e_not, e_cmp, e_and, e_or, e_ite, e_sub, e_slice, e_list, e_tuple, e_call, e_ucall, e_meth, e_comp, t_not, t_and, t_or, t_cmp, t_var, t_sub, t_call, t_ucall, s_expr, s_assign, s_setitem, s_aug, s_augi, s_ifs, s_while, s_for, s_ret, s_brk, s_cont, ss_nil, c_range1, c_range2, c_range3, i_rng, i_ref, i_tup, i_enm, i_rev, bt_name, bt_tup, look_zero, look_succ, r_next, r_ret, sa_nil, sa_cons, es_nil, es_cons, o_none, o_some, ts_nil, ts_cons, c_lt, c_le, c_gt, c_ge, c_eq, c_ne, b_add, b_sub, b_mul, b_div, b_mod, b_pow, b_shr, a_add, a_mul, t_bool, t_int, List.map, List.cons_append, List.nil_append, List.getElem?_cons_succ, List.getElem?_cons_zero, List.set_cons_succ, List.set_cons_zero, frOf]); (repeat (first | rw [q_next] | rw [q_ret] | rw [q_cont] | rw [q_brk] | rw [ss_nil])); (try simp only [r_next, r_ret])))
    refine eq_same (listAt_list go) (listAt_list gh) h1 h2 ?_
    ((try simp only [e_int, e_bool, e_none, e_str, e_var, e_bin, e_neg, n_int, e_not, e_cmp, e_and, e_or, e_ite, e_sub, e_slice, e_list, e_tuple, e_call, e_ucall, e_meth, e_comp, t_not, t_and, t_or, t_cmp, t_var, t_sub, t_call, t_ucall, s_expr, s_assign, s_setitem, s_aug, s_augi, s_ifs, s_while, s_for, s_ret, s_brk, s_cont, ss_nil, c_range1, c_range2, c_range3, i_rng, i_ref, i_tup, i_enm, i_rev, bt_name, bt_tup, look_zero, look_succ, r_next, r_ret, sa_nil, sa_cons, es_nil, es_cons, o_none, o_some, ts_nil, ts_cons, c_lt, c_le, c_gt, c_ge, c_eq, c_ne, b_add, b_sub, b_mul, b_div, b_mod, b_pow, b_shr, a_add, a_mul, t_bool, t_int, List.map, List.cons_append, List.nil_append, List.getElem?_cons_succ, List.getElem?_cons_zero, List.set_cons_succ, List.set_cons_zero, frOf]); (repeat (first | rw [q_next] | rw [q_ret] | rw [q_cont] | rw [q_brk] | rw [ss_nil])); (try simp only [r_next, r_ret]))
    rw [if_pos trivial]
    refine eq_same (listAt_list gw) (listAt_list gh) h1 h2 ?_
    ((try simp only [e_int, e_bool, e_none, e_str, e_var, e_bin, e_neg, n_int, e_not, e_cmp, e_and, e_or, e_ite, e_sub, e_slice, e_list, e_tuple, e_call, e_ucall, e_meth, e_comp, t_not, t_and, t_or, t_cmp, t_var, t_sub, t_call, t_ucall, s_expr, s_assign, s_setitem, s_aug, s_augi, s_ifs, s_while, s_for, s_ret, s_brk, s_cont, ss_nil, c_range1, c_range2, c_range3, i_rng, i_ref, i_tup, i_enm, i_rev, bt_name, bt_tup, look_zero, look_succ, r_next, r_ret, sa_nil, sa_cons, es_nil, es_cons, o_none, o_some, ts_nil, ts_cons, c_lt, c_le, c_gt, c_ge, c_eq, c_ne, b_add, b_sub, b_mul, b_div, b_mod, b_pow, b_shr, a_add, a_mul, t_bool, t_int, List.map, List.cons_append, List.nil_append, List.getElem?_cons_succ, List.getElem?_cons_zero, List.set_cons_succ, List.set_cons_zero, frOf]); (repeat (first | rw [q_next] | rw [q_ret] | rw [q_cont] | rw [q_brk] | rw [ss_nil])); (try simp only [r_next, r_ret]))
theorem law05b_v (Φ : Fns) {B0 B : Hp} {l ib ob wb hb vb : Addr} {v0 : V} (xB : Ext B0 τ) (I : ItemsAt B0 refs vals) (gi : B0 ib = some (.list (refs.map .ref))) (go : B0 ob = some (.list (R.map (fV refs)))) (gw : B0 wb = some (.list (R.map (fV refs)))) (f0 : B0 hb = none)
    (hne : ∀ a ∈ refs, a ≠ ib ∧ a ≠ ob ∧ a ≠ wb) (hn : refs.length ≤ 100) (hR : R.length ≤ 100) (hR0 : 0 < R.length) (hB : B hb ≠ none) (gh : τ hb = some (.list [])) (gv : τ vb = some (.list [v0])) (hvh : vb ≠ hb) (hv : TreeAt (fV refs) B τ (tr R 0) v0) {e1 e4 e8 e9 : Option V} :
    vSs Φ ps_law05b (retV fun v _ => v = .bool true) [some (.ref l), e1, some (.ref ib), some (.ref ob), e4, some (.ref wb), some (.ref hb), some (.ref vb), e8, e9] τ := by
  unfold ps_law05b
  (rw [ss_cons]; ((try simp only [e_int, e_bool, e_none, e_str, e_var, e_bin, e_neg, n_int, e_not, e_cmp, e_and, e_or, e_ite, e_sub, e_slice, e_list, e_tuple, e_call, e_ucall, e_meth, e_comp, t_not, t_and, t_or, t_cmp, t_var, t_sub, t_call, t_ucall, s_expr, s_assign, s_setitem, s_aug, s_augi, s_ifs, s_while, s_for, s_ret, s_brk, s_cont, ss_nil, c_range1, c_range2, c_range3, i_rng, i_ref, i_tup, i_enm, i_rev, bt_name, bt_tup, look_zero, look_succ, r_next, r_ret, sa_nil, sa_cons, es_nil, es_cons, o_none, o_some, ts_nil, ts_cons, c_lt, c_le, c_gt, c_ge, c_eq, c_ne, b_add, b_sub, b_mul, b_div, b_mod, b_pow, b_shr, a_add, a_mul, t_bool, t_int, List.map, List.cons_append, List.nil_append, List.getElem?_cons_succ, List.getElem?_cons_zero, List.set_cons_succ, List.set_cons_zero, frOf]); (repeat (first | rw [q_next] | rw [q_ret] | rw [q_cont] | rw [q_brk] | rw [ss_nil])); (try simp only [r_next, r_ret])))
  refine while_rule (fun c F ρ => ∃ (a : Nat) (vs : List V) (vb : Addr), F = [some (.ref l), e1, some (.ref ib), some (.ref ob), e4, some (.ref wb), some (.ref hb), some (.ref vb), e8, e9] ∧ Ext B0 ρ ∧ ρ vb = some (.list vs) ∧ vb ≠ hb ∧ a ≤ R.length ∧ LevelAt (fV refs) B ρ R a vs ∧ ρ hb = some (.list ((R.take a).map (fV refs))) ∧ R.length - a = c)
    (R.length - 0) ⟨0, [v0], vb, rfl, xB, gv, hvh, by omega, ⟨by simp; omega, fun j v hj => ?_⟩, by rw [gh]; rfl, rfl⟩ ?_
  · cases j with
    | zero => simp at hj; subst hj; exact hv
    | succ j => simp at hj
  clear gv hv gh xB hvh
  rintro c F ρ ⟨a, vs, vb, rfl, xρ, gv, nvh, ha, L, gh, rfl⟩ K k1 k2 k3 k4
  have hL := L.len
  ((try simp only [e_int, e_bool, e_none, e_str, e_var, e_bin, e_neg, n_int, e_not, e_cmp, e_and, e_or, e_ite, e_sub, e_slice, e_list, e_tuple, e_call, e_ucall, e_meth, e_comp, t_not, t_and, t_or, t_cmp, t_var, t_sub, t_call, t_ucall, s_expr, s_assign, s_setitem, s_aug, s_augi, s_ifs, s_while, s_for, s_ret, s_brk, s_cont, ss_nil, c_range1, c_range2, c_range3, i_rng, i_ref, i_tup, i_enm, i_rev, bt_name, bt_tup, look_zero, look_succ, r_next, r_ret, sa_nil, sa_cons, es_nil, es_cons, o_none, o_some, ts_nil, ts_cons, c_lt, c_le, c_gt, c_ge, c_eq, c_ne, b_add, b_sub, b_mul, b_div, b_mod, b_pow, b_shr, a_add, a_mul, t_bool, t_int, List.map, List.cons_append, List.nil_append, List.getElem?_cons_succ, List.getElem?_cons_zero, List.set_cons_succ, List.set_cons_zero, frOf]); (repeat (first | rw [q_next] | rw [q_ret] | rw [q_cont] | rw [q_brk] | rw [ss_nil])); (try simp only [r_next, r_ret]))
  refine newL_of (big_of (by simp)) fun nb ρ0 y0 g0 gn => ?_
  refine ne_nil (listAt_list (y0 _ _ gv)) (listAt_list gn) ?_
  ((try simp only [e_int, e_bool, e_none, e_str, e_var, e_bin, e_neg, n_int, e_not, e_cmp, e_and, e_or, e_ite, e_sub, e_slice, e_list, e_tuple, e_call, e_ucall, e_meth, e_comp, t_not, t_and, t_or, t_cmp, t_var, t_sub, t_call, t_ucall, s_expr, s_assign, s_setitem, s_aug, s_augi, s_ifs, s_while, s_for, s_ret, s_brk, s_cont, ss_nil, c_range1, c_range2, c_range3, i_rng, i_ref, i_tup, i_enm, i_rev, bt_name, bt_tup, look_zero, look_succ, r_next, r_ret, sa_nil, sa_cons, es_nil, es_cons, o_none, o_some, ts_nil, ts_cons, c_lt, c_le, c_gt, c_ge, c_eq, c_ne, b_add, b_sub, b_mul, b_div, b_mod, b_pow, b_shr, a_add, a_mul, t_bool, t_int, List.map, List.cons_append, List.nil_append, List.getElem?_cons_succ, List.getElem?_cons_zero, List.set_cons_succ, List.set_cons_zero, frOf]); (repeat (first | rw [q_next] | rw [q_ret] | rw [q_cont] | rw [q_brk] | rw [ss_nil])); (try simp only [r_next, r_ret]))
  have L0 : LevelAt (fV refs) B ρ0 R a vs := L.mono fun b o _ e => y0 _ _ e
  by_cases hvs : vs = []
  · rw [show (!vs.isEmpty) = false by rw [hvs]; rfl, if_neg (by decide)]
    ((try simp only [e_int, e_bool, e_none, e_str, e_var, e_bin, e_neg, n_int, e_not, e_cmp, e_and, e_or, e_ite, e_sub, e_slice, e_list, e_tuple, e_call, e_ucall, e_meth, e_comp, t_not, t_and, t_or, t_cmp, t_var, t_sub, t_call, t_ucall, s_expr, s_assign, s_setitem, s_aug, s_augi, s_ifs, s_while, s_for, s_ret, s_brk, s_cont, ss_nil, c_range1, c_range2, c_range3, i_rng, i_ref, i_tup, i_enm, i_rev, bt_name, bt_tup, look_zero, look_succ, r_next, r_ret, sa_nil, sa_cons, es_nil, es_cons, o_none, o_some, ts_nil, ts_cons, c_lt, c_le, c_gt, c_ge, c_eq, c_ne, b_add, b_sub, b_mul, b_div, b_mod, b_pow, b_shr, a_add, a_mul, t_bool, t_int, List.map, List.cons_append, List.nil_append, List.getElem?_cons_succ, List.getElem?_cons_zero, List.set_cons_succ, List.set_cons_zero, frOf]); (repeat (first | rw [q_next] | rw [q_ret] | rw [q_cont] | rw [q_brk] | rw [ss_nil])); (try simp only [r_next, r_ret]))
    have ea : a = R.length := by rw [hvs] at hL; simp at hL; omega
    rw [ea, List.take_length] at gh
    refine law05c_v Φ (I.ext (xρ.trans y0)) (y0 _ _ (xρ _ _ gi)) (y0 _ _ (xρ _ _ go)) (y0 _ _ (xρ _ _ gw)) (y0 _ _ gh) (fun b hb' => ?_) hn
    obtain ⟨o, ho⟩ := I.mem hb'
    exact ⟨(hne b hb').1, (hne b hb').2.1, (hne b hb').2.2, ne_of ho f0⟩
  · rw [show (!vs.isEmpty) = true by cases vs with | nil => exact absurd rfl hvs | cons _ _ => rfl, if_pos rfl]
    have hpos : 0 < vs.length := List.length_pos_iff.mpr hvs
    clear hvs
    (rw [ss_cons]; ((try simp only [e_int, e_bool, e_none, e_str, e_var, e_bin, e_neg, n_int, e_not, e_cmp, e_and, e_or, e_ite, e_sub, e_slice, e_list, e_tuple, e_call, e_ucall, e_meth, e_comp, t_not, t_and, t_or, t_cmp, t_var, t_sub, t_call, t_ucall, s_expr, s_assign, s_setitem, s_aug, s_augi, s_ifs, s_while, s_for, s_ret, s_brk, s_cont, ss_nil, c_range1, c_range2, c_range3, i_rng, i_ref, i_tup, i_enm, i_rev, bt_name, bt_tup, look_zero, look_succ, r_next, r_ret, sa_nil, sa_cons, es_nil, es_cons, o_none, o_some, ts_nil, ts_cons, c_lt, c_le, c_gt, c_ge, c_eq, c_ne, b_add, b_sub, b_mul, b_div, b_mod, b_pow, b_shr, a_add, a_mul, t_bool, t_int, List.map, List.cons_append, List.nil_append, List.getElem?_cons_succ, List.getElem?_cons_zero, List.set_cons_succ, List.set_cons_zero, frOf]); (repeat (first | rw [q_next] | rw [q_ret] | rw [q_cont] | rw [q_brk] | rw [ss_nil])); (try simp only [r_next, r_ret])))
    refine ⟨⟨_, _, rfl, y0 _ _ gh⟩, ⟨_, listAt_list (y0 _ _ gv)⟩, ?_⟩
    refine comp_inv (xs := vs) (fun j acc ρ' => ρ' = ρ0 ∧ acc = ((R.drop a).take j).map (fV refs)) (yields_lst (xs := vs) (fun τ'' ⟨_, _, h, _⟩ => by rw [h]; exact listAt_list (y0 _ _ gv)) _ 0 rfl) ⟨rfl, rfl⟩ (fun j acc τ' h => by rw [h.2, List.length_map, List.length_take]; omega) (big_of (by omega)) ?_ ?_
    · rintro j x acc ρ' hxj ⟨rfl, rfl⟩ K N hK hN
      obtain ⟨y, b, tb, kids, e1, rfl, e3, e4, eB, e5, e6, e7⟩ := kids_at (L0.at' j x hxj)
      ((try simp only [e_int, e_bool, e_none, e_str, e_var, e_bin, e_neg, n_int, e_not, e_cmp, e_and, e_or, e_ite, e_sub, e_slice, e_list, e_tuple, e_call, e_ucall, e_meth, e_comp, t_not, t_and, t_or, t_cmp, t_var, t_sub, t_call, t_ucall, s_expr, s_assign, s_setitem, s_aug, s_augi, s_ifs, s_while, s_for, s_ret, s_brk, s_cont, ss_nil, c_range1, c_range2, c_range3, i_rng, i_ref, i_tup, i_enm, i_rev, bt_name, bt_tup, look_zero, look_succ, r_next, r_ret, sa_nil, sa_cons, es_nil, es_cons, o_none, o_some, ts_nil, ts_cons, c_lt, c_le, c_gt, c_ge, c_eq, c_ne, b_add, b_sub, b_mul, b_div, b_mod, b_pow, b_shr, a_add, a_mul, t_bool, t_int, List.map, List.cons_append, List.nil_append, List.getElem?_cons_succ, List.getElem?_cons_zero, List.set_cons_succ, List.set_cons_zero, frOf]); (repeat (first | rw [q_next] | rw [q_ret] | rw [q_cont] | rw [q_brk] | rw [ss_nil])); (try simp only [r_next, r_ret]))
      simp only [if_true]
      refine sub_list (listAt_list e3) (k := 0) rfl ?_
      refine hK _ _ ⟨rfl, ?_⟩
      rw [List.take_add_one, List.getElem?_drop, e1]; simp
    · rintro acc ρ' ⟨rfl, rfl⟩
      refine newL_of (big_of (by rw [List.length_map, List.length_take]; omega)) fun cb ρ1 y1 g1 gc => ?_
      have y01 := y0.trans y1
      refine m_extend (y01 _ _ gh) gc (by simp only [List.length_map, List.length_take]; unfold BIG; omega) ?_
      have et : (R.take a).map (fV refs) ++ ((R.drop a).take vs.length).map (fV refs) = (R.take (a + vs.length)).map (fV refs) := by
        rw [← List.map_append, List.take_add]
      rw [et]
      have y2 : Ext B0 (upd ρ1 hb (.list ((R.take (a + vs.length)).map (fV refs)))) := (xρ.trans y01).set _ f0
      have gh2 := upd_same ρ1 hb (.list ((R.take (a + vs.length)).map (fV refs)))
      have gv2 : (upd ρ1 hb (.list ((R.take (a + vs.length)).map (fV refs)))) vb = some (.list vs) := by rw [upd_ne _ _ nvh]; exact y01 _ _ gv
      have L2 : LevelAt (fV refs) B (upd ρ1 hb (.list ((R.take (a + vs.length)).map (fV refs)))) R a vs := L.mono fun b o hb0 e => by
        rw [upd_ne _ _ (by rintro rfl; exact hB hb0)]; exact y01 _ _ e
      generalize upd ρ1 hb (.list ((R.take (a + vs.length)).map (fV refs))) = ρ2 at *
      ((try simp only [e_int, e_bool, e_none, e_str, e_var, e_bin, e_neg, n_int, e_not, e_cmp, e_and, e_or, e_ite, e_sub, e_slice, e_list, e_tuple, e_call, e_ucall, e_meth, e_comp, t_not, t_and, t_or, t_cmp, t_var, t_sub, t_call, t_ucall, s_expr, s_assign, s_setitem, s_aug, s_augi, s_ifs, s_while, s_for, s_ret, s_brk, s_cont, ss_nil, c_range1, c_range2, c_range3, i_rng, i_ref, i_tup, i_enm, i_rev, bt_name, bt_tup, look_zero, look_succ, r_next, r_ret, sa_nil, sa_cons, es_nil, es_cons, o_none, o_some, ts_nil, ts_cons, c_lt, c_le, c_gt, c_ge, c_eq, c_ne, b_add, b_sub, b_mul, b_div, b_mod, b_pow, b_shr, a_add, a_mul, t_bool, t_int, List.map, List.cons_append, List.nil_append, List.getElem?_cons_succ, List.getElem?_cons_zero, List.set_cons_succ, List.set_cons_zero, frOf]); (repeat (first | rw [q_next] | rw [q_ret] | rw [q_cont] | rw [q_brk] | rw [ss_nil])); (try simp only [r_next, r_ret]))
      (rw [ss_cons]; ((try simp only [e_int, e_bool, e_none, e_str, e_var, e_bin, e_neg, n_int, e_not, e_cmp, e_and, e_or, e_ite, e_sub, e_slice, e_list, e_tuple, e_call, e_ucall, e_meth, e_comp, t_not, t_and, t_or, t_cmp, t_var, t_sub, t_call, t_ucall, s_expr, s_assign, s_setitem, s_aug, s_augi, s_ifs, s_while, s_for, s_ret, s_brk, s_cont, ss_nil, c_range1, c_range2, c_range3, i_rng, i_ref, i_tup, i_enm, i_rev, bt_name, bt_tup, look_zero, look_succ, r_next, r_ret, sa_nil, sa_cons, es_nil, es_cons, o_none, o_some, ts_nil, ts_cons, c_lt, c_le, c_gt, c_ge, c_eq, c_ne, b_add, b_sub, b_mul, b_div, b_mod, b_pow, b_shr, a_add, a_mul, t_bool, t_int, List.map, List.cons_append, List.nil_append, List.getElem?_cons_succ, List.getElem?_cons_zero, List.set_cons_succ, List.set_cons_zero, frOf]); (repeat (first | rw [q_next] | rw [q_ret] | rw [q_cont] | rw [q_brk] | rw [ss_nil])); (try simp only [r_next, r_ret])))
      rw [e_comp2]
      ((try simp only [e_int, e_bool, e_none, e_str, e_var, e_bin, e_neg, n_int, e_not, e_cmp, e_and, e_or, e_ite, e_sub, e_slice, e_list, e_tuple, e_call, e_ucall, e_meth, e_comp, t_not, t_and, t_or, t_cmp, t_var, t_sub, t_call, t_ucall, s_expr, s_assign, s_setitem, s_aug, s_augi, s_ifs, s_while, s_for, s_ret, s_brk, s_cont, ss_nil, c_range1, c_range2, c_range3, i_rng, i_ref, i_tup, i_enm, i_rev, bt_name, bt_tup, look_zero, look_succ, r_next, r_ret, sa_nil, sa_cons, es_nil, es_cons, o_none, o_some, ts_nil, ts_cons, c_lt, c_le, c_gt, c_ge, c_eq, c_ne, b_add, b_sub, b_mul, b_div, b_mod, b_pow, b_shr, a_add, a_mul, t_bool, t_int, List.map, List.cons_append, List.nil_append, List.getElem?_cons_succ, List.getElem?_cons_zero, List.set_cons_succ, List.set_cons_zero, frOf]); (repeat (first | rw [q_next] | rw [q_ret] | rw [q_cont] | rw [q_brk] | rw [ss_nil])); (try simp only [r_next, r_ret]))
      refine ⟨⟨_, listAt_list gv2⟩, ?_⟩
      have N := L2.next ha
      have hNl := N.len
      refine comp2_rule (xs := vs) (kidsOf ρ2) (big_of (by omega)) (yields_lst (xs := vs) (fun τ'' h => by rw [h]; exact listAt_list gv2) _ 0 rfl) (fun x hx K hK => ?_) (fun x z K hK => ?_) (newL_of (big_of (by omega)) fun nvb ρ3 y3 g3 gn3 => ?_)
      · obtain ⟨j, hj⟩ := List.getElem?_of_mem hx
        obtain ⟨y, b, tb, kids, e1, rfl, e3, e4, eB, e5, e6, e7⟩ := kids_at (L2.at' j x hj)
        ((try simp only [e_int, e_bool, e_none, e_str, e_var, e_bin, e_neg, n_int, e_not, e_cmp, e_and, e_or, e_ite, e_sub, e_slice, e_list, e_tuple, e_call, e_ucall, e_meth, e_comp, t_not, t_and, t_or, t_cmp, t_var, t_sub, t_call, t_ucall, s_expr, s_assign, s_setitem, s_aug, s_augi, s_ifs, s_while, s_for, s_ret, s_brk, s_cont, ss_nil, c_range1, c_range2, c_range3, i_rng, i_ref, i_tup, i_enm, i_rev, bt_name, bt_tup, look_zero, look_succ, r_next, r_ret, sa_nil, sa_cons, es_nil, es_cons, o_none, o_some, ts_nil, ts_cons, c_lt, c_le, c_gt, c_ge, c_eq, c_ne, b_add, b_sub, b_mul, b_div, b_mod, b_pow, b_shr, a_add, a_mul, t_bool, t_int, List.map, List.cons_append, List.nil_append, List.getElem?_cons_succ, List.getElem?_cons_zero, List.set_cons_succ, List.set_cons_zero, frOf]); (repeat (first | rw [q_next] | rw [q_ret] | rw [q_cont] | rw [q_brk] | rw [ss_nil])); (try simp only [r_next, r_ret]))
        refine sub_list (listAt_list e3) (k := 1) rfl ?_
        exact hK tb (by rw [e5]; exact listAt_list e4)
      · ((try simp only [e_int, e_bool, e_none, e_str, e_var, e_bin, e_neg, n_int, e_not, e_cmp, e_and, e_or, e_ite, e_sub, e_slice, e_list, e_tuple, e_call, e_ucall, e_meth, e_comp, t_not, t_and, t_or, t_cmp, t_var, t_sub, t_call, t_ucall, s_expr, s_assign, s_setitem, s_aug, s_augi, s_ifs, s_while, s_for, s_ret, s_brk, s_cont, ss_nil, c_range1, c_range2, c_range3, i_rng, i_ref, i_tup, i_enm, i_rev, bt_name, bt_tup, look_zero, look_succ, r_next, r_ret, sa_nil, sa_cons, es_nil, es_cons, o_none, o_some, ts_nil, ts_cons, c_lt, c_le, c_gt, c_ge, c_eq, c_ne, b_add, b_sub, b_mul, b_div, b_mod, b_pow, b_shr, a_add, a_mul, t_bool, t_int, List.map, List.cons_append, List.nil_append, List.getElem?_cons_succ, List.getElem?_cons_zero, List.set_cons_succ, List.set_cons_zero, frOf]); (repeat (first | rw [q_next] | rw [q_ret] | rw [q_cont] | rw [q_brk] | rw [ss_nil])); (try simp only [r_next, r_ret]))
        exact hK
      · ((try simp only [e_int, e_bool, e_none, e_str, e_var, e_bin, e_neg, n_int, e_not, e_cmp, e_and, e_or, e_ite, e_sub, e_slice, e_list, e_tuple, e_call, e_ucall, e_meth, e_comp, t_not, t_and, t_or, t_cmp, t_var, t_sub, t_call, t_ucall, s_expr, s_assign, s_setitem, s_aug, s_augi, s_ifs, s_while, s_for, s_ret, s_brk, s_cont, ss_nil, c_range1, c_range2, c_range3, i_rng, i_ref, i_tup, i_enm, i_rev, bt_name, bt_tup, look_zero, look_succ, r_next, r_ret, sa_nil, sa_cons, es_nil, es_cons, o_none, o_some, ts_nil, ts_cons, c_lt, c_le, c_gt, c_ge, c_eq, c_ne, b_add, b_sub, b_mul, b_div, b_mod, b_pow, b_shr, a_add, a_mul, t_bool, t_int, List.map, List.cons_append, List.nil_append, List.getElem?_cons_succ, List.getElem?_cons_zero, List.set_cons_succ, List.set_cons_zero, frOf]); (repeat (first | rw [q_next] | rw [q_ret] | rw [q_cont] | rw [q_brk] | rw [ss_nil])); (try simp only [r_next, r_ret]))
        exact k1 (R.length - (a + vs.length)) _ _ (by omega) ⟨a + vs.length, vs.flatMap (kidsOf ρ2), nvb, rfl, y2.trans y3, gn3, (ne_of gh2 g3).symm, by omega, N.mono fun b o _ e => y3 _ _ e, y3 _ _ gh2, rfl⟩
end
def valF (x : Int) : Int := if (x.fmod 2 == 1) = true then (x.fdiv 2).fmod 4 else x.fdiv 2
theorem law05_v (Φ : Fns) (h1 : ∀ args Q σ, siftupC args Q σ → Φ 1 args Q σ) (h2 : ∀ args Q σ, heapifyC args Q σ → Φ 2 args Q σ) (h3 : ∀ args Q σ, orderC args Q σ → Φ 3 args Q σ) (h5 : ∀ args Q σ, treeC 7 args Q σ → Φ 5 args Q σ) (l : Addr) (ns : List Int) (hns : ns.length ≤ 63) (σ : Hp) (hl : listAt σ l = some (ns.map .int)) :
    vSs Φ ps_law05 (retV fun v _ => v = .bool true) [some (.ref l), none, none, none, none, none, none, none, none, none] σ := by
  unfold ps_law05
  (rw [ss_cons]; ((try simp only [e_int, e_bool, e_none, e_str, e_var, e_bin, e_neg, n_int, e_not, e_cmp, e_and, e_or, e_ite, e_sub, e_slice, e_list, e_tuple, e_call, e_ucall, e_meth, e_comp, t_not, t_and, t_or, t_cmp, t_var, t_sub, t_call, t_ucall, s_expr, s_assign, s_setitem, s_aug, s_augi, s_ifs, s_while, s_for, s_ret, s_brk, s_cont, ss_nil, c_range1, c_range2, c_range3, i_rng, i_ref, i_tup, i_enm, i_rev, bt_name, bt_tup, look_zero, look_succ, r_next, r_ret, sa_nil, sa_cons, es_nil, es_cons, o_none, o_some, ts_nil, ts_cons, c_lt, c_le, c_gt, c_ge, c_eq, c_ne, b_add, b_sub, b_mul, b_div, b_mod, b_pow, b_shr, a_add, a_mul, t_bool, t_int, List.map, List.cons_append, List.nil_append, List.getElem?_cons_succ, List.getElem?_cons_zero, List.set_cons_succ, List.set_cons_zero, frOf]); (repeat (first | rw [q_next] | rw [q_ret] | rw [q_cont] | rw [q_brk] | rw [ss_nil])); (try simp only [r_next, r_ret])))
  refine newL_of (big_of (by simp)) fun ab τ0 x0 f0 g0 => ?_
  refine add_lists (xs := ns.map .int) (ys := ([9, 4, 13, 7, 2, 11] : List Int).map .int) (x0.listAt hl) (listAt_list g0) ?_
  rw [← List.map_append]
  generalize hds : ns ++ ([9, 4, 13, 7, 2, 11] : List Int) = ds
  have hdl : ds.length = ns.length + 6 := by rw [← hds]; simp
  refine newL_of (big_of (by rw [List.length_map]; omega)) fun db τ1 x1 f1 g1 => ?_
  clear hds x0 f0 g0
  ((try simp only [e_int, e_bool, e_none, e_str, e_var, e_bin, e_neg, n_int, e_not, e_cmp, e_and, e_or, e_ite, e_sub, e_slice, e_list, e_tuple, e_call, e_ucall, e_meth, e_comp, t_not, t_and, t_or, t_cmp, t_var, t_sub, t_call, t_ucall, s_expr, s_assign, s_setitem, s_aug, s_augi, s_ifs, s_while, s_for, s_ret, s_brk, s_cont, ss_nil, c_range1, c_range2, c_range3, i_rng, i_ref, i_tup, i_enm, i_rev, bt_name, bt_tup, look_zero, look_succ, r_next, r_ret, sa_nil, sa_cons, es_nil, es_cons, o_none, o_some, ts_nil, ts_cons, c_lt, c_le, c_gt, c_ge, c_eq, c_ne, b_add, b_sub, b_mul, b_div, b_mod, b_pow, b_shr, a_add, a_mul, t_bool, t_int, List.map, List.cons_append, List.nil_append, List.getElem?_cons_succ, List.getElem?_cons_zero, List.set_cons_succ, List.set_cons_zero, frOf]); (repeat (first | rw [q_next] | rw [q_ret] | rw [q_cont] | rw [q_brk] | rw [ss_nil])); (try simp only [r_next, r_ret]))
  (rw [ss_cons]; ((try simp only [e_int, e_bool, e_none, e_str, e_var, e_bin, e_neg, n_int, e_not, e_cmp, e_and, e_or, e_ite, e_sub, e_slice, e_list, e_tuple, e_call, e_ucall, e_meth, e_comp, t_not, t_and, t_or, t_cmp, t_var, t_sub, t_call, t_ucall, s_expr, s_assign, s_setitem, s_aug, s_augi, s_ifs, s_while, s_for, s_ret, s_brk, s_cont, ss_nil, c_range1, c_range2, c_range3, i_rng, i_ref, i_tup, i_enm, i_rev, bt_name, bt_tup, look_zero, look_succ, r_next, r_ret, sa_nil, sa_cons, es_nil, es_cons, o_none, o_some, ts_nil, ts_cons, c_lt, c_le, c_gt, c_ge, c_eq, c_ne, b_add, b_sub, b_mul, b_div, b_mod, b_pow, b_shr, a_add, a_mul, t_bool, t_int, List.map, List.cons_append, List.nil_append, List.getElem?_cons_succ, List.getElem?_cons_zero, List.set_cons_succ, List.set_cons_zero, frOf]); (repeat (first | rw [q_next] | rw [q_ret] | rw [q_cont] | rw [q_brk] | rw [ss_nil])); (try simp only [r_next, r_ret])))
  refine ⟨⟨_, listAt_list g1⟩, ?_⟩
  refine comp_inv (xs := ds.map .int) (fun j acc ρ => ∃ refs : List Addr, Ext τ1 ρ ∧ acc = refs.map .ref ∧ refs.length = j ∧ ItemsAt ρ refs ((ds.take j).map valF)) (yields_lst (xs := ds.map .int) (fun τ'' ⟨_, _, _, h, _⟩ => listAt_list (h _ _ g1)) _ 0 rfl) ⟨[], .rfl, rfl, rfl, rfl, List.nodup_nil, fun k a v h => by simp at h⟩
      (fun j acc τ' ⟨refs, _, h, h2, _⟩ => by rw [h, List.length_map, h2]; exact Nat.le_refl _) (big_of (by rw [List.length_map]; omega)) ?_ ?_
  · rintro j x acc ρ hxj ⟨refs, hr, rfl, hrl, hI⟩ K N hK hN
    have hj : j < ds.length := by have := lt_of_some hxj; rw [List.length_map] at this; exact this
    rw [List.getElem?_map, List.getElem?_eq_getElem hj] at hxj
    cases hxj
    generalize hd : ds[j] = d
    have fin : newL [V.int (valF d)] K ρ := newL_of (big_of (by simp)) fun cb ρ2 y2 f2 g2 => hK _ _ ⟨refs ++ [cb], hr.trans y2, by simp, by simp [hrl], by
      have et : ds.take (j + 1) = ds.take j ++ [d] := by rw [List.take_add_one, List.getElem?_eq_getElem hj, hd]; rfl
      rw [et, List.map_append]
      exact (hI.ext y2).snoc (fun hm => by obtain ⟨o, ho⟩ := hI.mem hm; rw [f2] at ho; cases ho) g2⟩
    ((try simp only [e_int, e_bool, e_none, e_str, e_var, e_bin, e_neg, n_int, e_not, e_cmp, e_and, e_or, e_ite, e_sub, e_slice, e_list, e_tuple, e_call, e_ucall, e_meth, e_comp, t_not, t_and, t_or, t_cmp, t_var, t_sub, t_call, t_ucall, s_expr, s_assign, s_setitem, s_aug, s_augi, s_ifs, s_while, s_for, s_ret, s_brk, s_cont, ss_nil, c_range1, c_range2, c_range3, i_rng, i_ref, i_tup, i_enm, i_rev, bt_name, bt_tup, look_zero, look_succ, r_next, r_ret, sa_nil, sa_cons, es_nil, es_cons, o_none, o_some, ts_nil, ts_cons, c_lt, c_le, c_gt, c_ge, c_eq, c_ne, b_add, b_sub, b_mul, b_div, b_mod, b_pow, b_shr, a_add, a_mul, t_bool, t_int, List.map, List.cons_append, List.nil_append, List.getElem?_cons_succ, List.getElem?_cons_zero, List.set_cons_succ, List.set_cons_zero, frOf]); (repeat (first | rw [q_next] | rw [q_ret] | rw [q_cont] | rw [q_brk] | rw [ss_nil])); (try simp only [r_next, r_ret]))
    simp only [if_true]
    refine ⟨by decide, ?_⟩
    unfold valF at fin
    by_cases hb : (d.fmod 2 == 1) = true
    · rw [hb, if_pos rfl]
      rw [if_pos hb] at fin
      ((try simp only [e_int, e_bool, e_none, e_str, e_var, e_bin, e_neg, n_int, e_not, e_cmp, e_and, e_or, e_ite, e_sub, e_slice, e_list, e_tuple, e_call, e_ucall, e_meth, e_comp, t_not, t_and, t_or, t_cmp, t_var, t_sub, t_call, t_ucall, s_expr, s_assign, s_setitem, s_aug, s_augi, s_ifs, s_while, s_for, s_ret, s_brk, s_cont, ss_nil, c_range1, c_range2, c_range3, i_rng, i_ref, i_tup, i_enm, i_rev, bt_name, bt_tup, look_zero, look_succ, r_next, r_ret, sa_nil, sa_cons, es_nil, es_cons, o_none, o_some, ts_nil, ts_cons, c_lt, c_le, c_gt, c_ge, c_eq, c_ne, b_add, b_sub, b_mul, b_div, b_mod, b_pow, b_shr, a_add, a_mul, t_bool, t_int, List.map, List.cons_append, List.nil_append, List.getElem?_cons_succ, List.getElem?_cons_zero, List.set_cons_succ, List.set_cons_zero, frOf]); (repeat (first | rw [q_next] | rw [q_ret] | rw [q_cont] | rw [q_brk] | rw [ss_nil])); (try simp only [r_next, r_ret]))
      exact ⟨by decide, by decide, fin⟩
    · rw [Bool.eq_false_iff.mpr hb, if_neg (by decide)]
      rw [if_neg hb] at fin
      ((try simp only [e_int, e_bool, e_none, e_str, e_var, e_bin, e_neg, n_int, e_not, e_cmp, e_and, e_or, e_ite, e_sub, e_slice, e_list, e_tuple, e_call, e_ucall, e_meth, e_comp, t_not, t_and, t_or, t_cmp, t_var, t_sub, t_call, t_ucall, s_expr, s_assign, s_setitem, s_aug, s_augi, s_ifs, s_while, s_for, s_ret, s_brk, s_cont, ss_nil, c_range1, c_range2, c_range3, i_rng, i_ref, i_tup, i_enm, i_rev, bt_name, bt_tup, look_zero, look_succ, r_next, r_ret, sa_nil, sa_cons, es_nil, es_cons, o_none, o_some, ts_nil, ts_cons, c_lt, c_le, c_gt, c_ge, c_eq, c_ne, b_add, b_sub, b_mul, b_div, b_mod, b_pow, b_shr, a_add, a_mul, t_bool, t_int, List.map, List.cons_append, List.nil_append, List.getElem?_cons_succ, List.getElem?_cons_zero, List.set_cons_succ, List.set_cons_zero, frOf]); (repeat (first | rw [q_next] | rw [q_ret] | rw [q_cont] | rw [q_brk] | rw [ss_nil])); (try simp only [r_next, r_ret]))
      exact ⟨by decide, fin⟩
  · rintro acc ρ ⟨refs, hr, rfl, hrl, hI⟩
    rw [List.length_map] at hrl hI
    rw [List.take_length] at hI
    generalize ds.map valF = vals at *
    have hn : refs.length ≤ 100 := by omega
    refine newL_of (big_of (by rw [List.length_map]; omega)) fun ib τ2 x2 f2 g2 => ?_
    have I2 := hI.ext x2
    have nib : ∀ a ∈ refs, a ≠ ib := fun a ha => by obtain ⟨o, ho⟩ := hI.mem ha; exact ne_of ho f2
    have X2 := I2.ltX
    have S := ltF_sw refs vals
    have g1' := x2 _ _ (hr _ _ g1)
    have hit : refs.map V.ref = (List.finRange refs.length).map (fV refs) := (fin_refs refs).symm
    have hfl : (List.finRange refs.length).length = refs.length := by simp
    ((try simp only [e_int, e_bool, e_none, e_str, e_var, e_bin, e_neg, n_int, e_not, e_cmp, e_and, e_or, e_ite, e_sub, e_slice, e_list, e_tuple, e_call, e_ucall, e_meth, e_comp, t_not, t_and, t_or, t_cmp, t_var, t_sub, t_call, t_ucall, s_expr, s_assign, s_setitem, s_aug, s_augi, s_ifs, s_while, s_for, s_ret, s_brk, s_cont, ss_nil, c_range1, c_range2, c_range3, i_rng, i_ref, i_tup, i_enm, i_rev, bt_name, bt_tup, look_zero, look_succ, r_next, r_ret, sa_nil, sa_cons, es_nil, es_cons, o_none, o_some, ts_nil, ts_cons, c_lt, c_le, c_gt, c_ge, c_eq, c_ne, b_add, b_sub, b_mul, b_div, b_mod, b_pow, b_shr, a_add, a_mul, t_bool, t_int, List.map, List.cons_append, List.nil_append, List.getElem?_cons_succ, List.getElem?_cons_zero, List.set_cons_succ, List.set_cons_zero, frOf]); (repeat (first | rw [q_next] | rw [q_ret] | rw [q_cont] | rw [q_brk] | rw [ss_nil])); (try simp only [r_next, r_ret]))
    (rw [ss_cons]; ((try simp only [e_int, e_bool, e_none, e_str, e_var, e_bin, e_neg, n_int, e_not, e_cmp, e_and, e_or, e_ite, e_sub, e_slice, e_list, e_tuple, e_call, e_ucall, e_meth, e_comp, t_not, t_and, t_or, t_cmp, t_var, t_sub, t_call, t_ucall, s_expr, s_assign, s_setitem, s_aug, s_augi, s_ifs, s_while, s_for, s_ret, s_brk, s_cont, ss_nil, c_range1, c_range2, c_range3, i_rng, i_ref, i_tup, i_enm, i_rev, bt_name, bt_tup, look_zero, look_succ, r_next, r_ret, sa_nil, sa_cons, es_nil, es_cons, o_none, o_some, ts_nil, ts_cons, c_lt, c_le, c_gt, c_ge, c_eq, c_ne, b_add, b_sub, b_mul, b_div, b_mod, b_pow, b_shr, a_add, a_mul, t_bool, t_int, List.map, List.cons_append, List.nil_append, List.getElem?_cons_succ, List.getElem?_cons_zero, List.set_cons_succ, List.set_cons_zero, frOf]); (repeat (first | rw [q_next] | rw [q_ret] | rw [q_cont] | rw [q_brk] | rw [ss_nil])); (try simp only [r_next, r_ret])))
    refine call_list (listAt_list g2) (newL_of (big_of (by rw [List.length_map]; omega)) fun ob τ3 x3 f3 g3 => ?_)
    have nob : ∀ a ∈ refs, a ≠ ob := fun a ha => by obtain ⟨o, ho⟩ := I2.mem ha; exact ne_of ho f3
    ((try simp only [e_int, e_bool, e_none, e_str, e_var, e_bin, e_neg, n_int, e_not, e_cmp, e_and, e_or, e_ite, e_sub, e_slice, e_list, e_tuple, e_call, e_ucall, e_meth, e_comp, t_not, t_and, t_or, t_cmp, t_var, t_sub, t_call, t_ucall, s_expr, s_assign, s_setitem, s_aug, s_augi, s_ifs, s_while, s_for, s_ret, s_brk, s_cont, ss_nil, c_range1, c_range2, c_range3, i_rng, i_ref, i_tup, i_enm, i_rev, bt_name, bt_tup, look_zero, look_succ, r_next, r_ret, sa_nil, sa_cons, es_nil, es_cons, o_none, o_some, ts_nil, ts_cons, c_lt, c_le, c_gt, c_ge, c_eq, c_ne, b_add, b_sub, b_mul, b_div, b_mod, b_pow, b_shr, a_add, a_mul, t_bool, t_int, List.map, List.cons_append, List.nil_append, List.getElem?_cons_succ, List.getElem?_cons_zero, List.set_cons_succ, List.set_cons_zero, frOf]); (repeat (first | rw [q_next] | rw [q_ret] | rw [q_cont] | rw [q_brk] | rw [ss_nil])); (try simp only [r_next, r_ret]))
    (rw [ss_cons]; ((try simp only [e_int, e_bool, e_none, e_str, e_var, e_bin, e_neg, n_int, e_not, e_cmp, e_and, e_or, e_ite, e_sub, e_slice, e_list, e_tuple, e_call, e_ucall, e_meth, e_comp, t_not, t_and, t_or, t_cmp, t_var, t_sub, t_call, t_ucall, s_expr, s_assign, s_setitem, s_aug, s_augi, s_ifs, s_while, s_for, s_ret, s_brk, s_cont, ss_nil, c_range1, c_range2, c_range3, i_rng, i_ref, i_tup, i_enm, i_rev, bt_name, bt_tup, look_zero, look_succ, r_next, r_ret, sa_nil, sa_cons, es_nil, es_cons, o_none, o_some, ts_nil, ts_cons, c_lt, c_le, c_gt, c_ge, c_eq, c_ne, b_add, b_sub, b_mul, b_div, b_mod, b_pow, b_shr, a_add, a_mul, t_bool, t_int, List.map, List.cons_append, List.nil_append, List.getElem?_cons_succ, List.getElem?_cons_zero, List.set_cons_succ, List.set_cons_zero, frOf]); (repeat (first | rw [q_next] | rw [q_ret] | rw [q_cont] | rw [q_brk] | rw [ss_nil])); (try simp only [r_next, r_ret])))
    refine h3 _ _ _ ⟨db, ds, rfl, listAt_list (x3 _ _ g1'), by omega, by omega, fun τ4 rb ord x4 f4 good g4 => ?_⟩
    ((try simp only [e_int, e_bool, e_none, e_str, e_var, e_bin, e_neg, n_int, e_not, e_cmp, e_and, e_or, e_ite, e_sub, e_slice, e_list, e_tuple, e_call, e_ucall, e_meth, e_comp, t_not, t_and, t_or, t_cmp, t_var, t_sub, t_call, t_ucall, s_expr, s_assign, s_setitem, s_aug, s_augi, s_ifs, s_while, s_for, s_ret, s_brk, s_cont, ss_nil, c_range1, c_range2, c_range3, i_rng, i_ref, i_tup, i_enm, i_rev, bt_name, bt_tup, look_zero, look_succ, r_next, r_ret, sa_nil, sa_cons, es_nil, es_cons, o_none, o_some, ts_nil, ts_cons, c_lt, c_le, c_gt, c_ge, c_eq, c_ne, b_add, b_sub, b_mul, b_div, b_mod, b_pow, b_shr, a_add, a_mul, t_bool, t_int, List.map, List.cons_append, List.nil_append, List.getElem?_cons_succ, List.getElem?_cons_zero, List.set_cons_succ, List.set_cons_zero, frOf]); (repeat (first | rw [q_next] | rw [q_ret] | rw [q_cont] | rw [q_brk] | rw [ss_nil])); (try simp only [r_next, r_ret]))
    have f4' : τ2 rb = none := x3.fresh f4
    refine ⟨⟨_, listAt_list g4⟩, ?_⟩
    rw [hit] at g3
    rw [← hrl] at good
    rw [← hfl] at good
    have hordl : ord.length ≤ 100 := by have := nodup_len _ _ good.nd good.lt; omega
    have x24 := x3.trans x4
    have onlt : ∀ τ, Ext τ2 τ → LtOn τ ob (fV refs) (ltF refs vals) (fun _ => True) := fun τ e x y _ _ ys Q q => X2 x y _ Q (e.set _ f3) q
    refine for_rule (xs := ord.map fun (k : Nat) => V.int (k : Int)) (fun k F τ => ∃ (m : List (Fin refs.length)) (e4 : Option V), F = [some (.ref l), some (.ref db), some (.ref ib), some (.ref ob), e4, none, none, none, none, none] ∧ Ext τ2 τ ∧ τ ob = some (.list (m.map (fV refs))) ∧ τ rb = some (.list (ord.map fun (k : Nat) => V.int (k : Int))) ∧ m.length = refs.length ∧
      (ord.drop k).foldl (siftAt (ltF refs vals)) m = ord.foldl (siftAt (ltF refs vals)) (List.finRange refs.length)) (yields_lst (xs := ord.map fun (k : Nat) => V.int (k : Int)) (fun τ'' ⟨_, _, _, _, _, _, _, h, _⟩ => listAt_list h) _ 0 rfl) ?_ ?_ ?_
    · exact ⟨List.finRange refs.length, _, rfl, x24, x4 _ _ g3, g4, hfl, rfl⟩
    · rintro k x F τ hx ⟨m, e4, rfl, xτ, go, gr, hm, he⟩ K k1 k2 k3 k4
      have hk : k < ord.length := by have := lt_of_some hx; simpa using this
      rw [List.getElem?_map, List.getElem?_eq_getElem hk] at hx
      simp at hx
      subst hx
      have hp : ord[k] < m.length := by have := good.lt _ (List.getElem_mem hk); omega
      ((try simp only [e_int, e_bool, e_none, e_str, e_var, e_bin, e_neg, n_int, e_not, e_cmp, e_and, e_or, e_ite, e_sub, e_slice, e_list, e_tuple, e_call, e_ucall, e_meth, e_comp, t_not, t_and, t_or, t_cmp, t_var, t_sub, t_call, t_ucall, s_expr, s_assign, s_setitem, s_aug, s_augi, s_ifs, s_while, s_for, s_ret, s_brk, s_cont, ss_nil, c_range1, c_range2, c_range3, i_rng, i_ref, i_tup, i_enm, i_rev, bt_name, bt_tup, look_zero, look_succ, r_next, r_ret, sa_nil, sa_cons, es_nil, es_cons, o_none, o_some, ts_nil, ts_cons, c_lt, c_le, c_gt, c_ge, c_eq, c_ne, b_add, b_sub, b_mul, b_div, b_mod, b_pow, b_shr, a_add, a_mul, t_bool, t_int, List.map, List.cons_append, List.nil_append, List.getElem?_cons_succ, List.getElem?_cons_zero, List.set_cons_succ, List.set_cons_zero, frOf]); (repeat (first | rw [q_next] | rw [q_ret] | rw [q_cont] | rw [q_brk] | rw [ss_nil])); (try simp only [r_next, r_ret]))
      (rw [ss_cons]; ((try simp only [e_int, e_bool, e_none, e_str, e_var, e_bin, e_neg, n_int, e_not, e_cmp, e_and, e_or, e_ite, e_sub, e_slice, e_list, e_tuple, e_call, e_ucall, e_meth, e_comp, t_not, t_and, t_or, t_cmp, t_var, t_sub, t_call, t_ucall, s_expr, s_assign, s_setitem, s_aug, s_augi, s_ifs, s_while, s_for, s_ret, s_brk, s_cont, ss_nil, c_range1, c_range2, c_range3, i_rng, i_ref, i_tup, i_enm, i_rev, bt_name, bt_tup, look_zero, look_succ, r_next, r_ret, sa_nil, sa_cons, es_nil, es_cons, o_none, o_some, ts_nil, ts_cons, c_lt, c_le, c_gt, c_ge, c_eq, c_ne, b_add, b_sub, b_mul, b_div, b_mod, b_pow, b_shr, a_add, a_mul, t_bool, t_int, List.map, List.cons_append, List.nil_append, List.getElem?_cons_succ, List.getElem?_cons_zero, List.set_cons_succ, List.set_cons_zero, frOf]); (repeat (first | rw [q_next] | rw [q_ret] | rw [q_cont] | rw [q_brk] | rw [ss_nil])); (try simp only [r_next, r_ret])))
      rw [List.drop_eq_getElem_cons hk, List.foldl_cons] at he
      generalize ord[k] = p at *
      have ee : siftAt (ltF refs vals) m p = siftF (ltF refs vals) m p m[p] := by unfold siftAt; rw [List.getElem?_eq_getElem hp]
      rw [ee] at he
      refine h1 _ _ _ ⟨Fin refs.length, fV refs, ltF refs vals, fun _ => True, ob, m, p, m[p], rfl, go, List.getElem?_eq_getElem hp, fun _ _ => trivial, onlt τ xτ, big_of (by omega), ?_⟩
      ((try simp only [e_int, e_bool, e_none, e_str, e_var, e_bin, e_neg, n_int, e_not, e_cmp, e_and, e_or, e_ite, e_sub, e_slice, e_list, e_tuple, e_call, e_ucall, e_meth, e_comp, t_not, t_and, t_or, t_cmp, t_var, t_sub, t_call, t_ucall, s_expr, s_assign, s_setitem, s_aug, s_augi, s_ifs, s_while, s_for, s_ret, s_brk, s_cont, ss_nil, c_range1, c_range2, c_range3, i_rng, i_ref, i_tup, i_enm, i_rev, bt_name, bt_tup, look_zero, look_succ, r_next, r_ret, sa_nil, sa_cons, es_nil, es_cons, o_none, o_some, ts_nil, ts_cons, c_lt, c_le, c_gt, c_ge, c_eq, c_ne, b_add, b_sub, b_mul, b_div, b_mod, b_pow, b_shr, a_add, a_mul, t_bool, t_int, List.map, List.cons_append, List.nil_append, List.getElem?_cons_succ, List.getElem?_cons_zero, List.set_cons_succ, List.set_cons_zero, frOf]); (repeat (first | rw [q_next] | rw [q_ret] | rw [q_cont] | rw [q_brk] | rw [ss_nil])); (try simp only [r_next, r_ret]))
      refine k1 _ _ ⟨siftF (ltF refs vals) m p m[p], _, rfl, xτ.set _ f3, upd_same _ _ _, ?_, by rw [siftF_length]; exact hm, he⟩
      rw [upd_ne _ _ (ne_of g3 f4).symm]; exact gr
    · rintro F τ ⟨m, e4, rfl, xτ, go, gr, hm, he⟩
      rw [List.length_map, List.drop_length] at he
      have he : m = ord.foldl (siftAt (ltF refs vals)) (List.finRange refs.length) := he
      have hpos : 0 < (List.finRange refs.length).length := by omega
      have em : m = heapifyF (ltF refs vals) (List.finRange refs.length) := he.trans (good.heapify S hpos)
      have et : tr m 0 = heapT (ltF refs vals) (tr (List.finRange refs.length) 0) := by rw [he]; exact good.fold S hpos
      clear he good hordl onlt
      ((try simp only [e_int, e_bool, e_none, e_str, e_var, e_bin, e_neg, n_int, e_not, e_cmp, e_and, e_or, e_ite, e_sub, e_slice, e_list, e_tuple, e_call, e_ucall, e_meth, e_comp, t_not, t_and, t_or, t_cmp, t_var, t_sub, t_call, t_ucall, s_expr, s_assign, s_setitem, s_aug, s_augi, s_ifs, s_while, s_for, s_ret, s_brk, s_cont, ss_nil, c_range1, c_range2, c_range3, i_rng, i_ref, i_tup, i_enm, i_rev, bt_name, bt_tup, look_zero, look_succ, r_next, r_ret, sa_nil, sa_cons, es_nil, es_cons, o_none, o_some, ts_nil, ts_cons, c_lt, c_le, c_gt, c_ge, c_eq, c_ne, b_add, b_sub, b_mul, b_div, b_mod, b_pow, b_shr, a_add, a_mul, t_bool, t_int, List.map, List.cons_append, List.nil_append, List.getElem?_cons_succ, List.getElem?_cons_zero, List.set_cons_succ, List.set_cons_zero, frOf]); (repeat (first | rw [q_next] | rw [q_ret] | rw [q_cont] | rw [q_brk] | rw [ss_nil])); (try simp only [r_next, r_ret]))
      (rw [ss_cons]; ((try simp only [e_int, e_bool, e_none, e_str, e_var, e_bin, e_neg, n_int, e_not, e_cmp, e_and, e_or, e_ite, e_sub, e_slice, e_list, e_tuple, e_call, e_ucall, e_meth, e_comp, t_not, t_and, t_or, t_cmp, t_var, t_sub, t_call, t_ucall, s_expr, s_assign, s_setitem, s_aug, s_augi, s_ifs, s_while, s_for, s_ret, s_brk, s_cont, ss_nil, c_range1, c_range2, c_range3, i_rng, i_ref, i_tup, i_enm, i_rev, bt_name, bt_tup, look_zero, look_succ, r_next, r_ret, sa_nil, sa_cons, es_nil, es_cons, o_none, o_some, ts_nil, ts_cons, c_lt, c_le, c_gt, c_ge, c_eq, c_ne, b_add, b_sub, b_mul, b_div, b_mod, b_pow, b_shr, a_add, a_mul, t_bool, t_int, List.map, List.cons_append, List.nil_append, List.getElem?_cons_succ, List.getElem?_cons_zero, List.set_cons_succ, List.set_cons_zero, frOf]); (repeat (first | rw [q_next] | rw [q_ret] | rw [q_cont] | rw [q_brk] | rw [ss_nil])); (try simp only [r_next, r_ret])))
      refine call_list (listAt_list (xτ _ _ g2)) (newL_of (big_of (by rw [List.length_map]; omega)) fun wb τ5 x5 f5 g5 => ?_)
      ((try simp only [e_int, e_bool, e_none, e_str, e_var, e_bin, e_neg, n_int, e_not, e_cmp, e_and, e_or, e_ite, e_sub, e_slice, e_list, e_tuple, e_call, e_ucall, e_meth, e_comp, t_not, t_and, t_or, t_cmp, t_var, t_sub, t_call, t_ucall, s_expr, s_assign, s_setitem, s_aug, s_augi, s_ifs, s_while, s_for, s_ret, s_brk, s_cont, ss_nil, c_range1, c_range2, c_range3, i_rng, i_ref, i_tup, i_enm, i_rev, bt_name, bt_tup, look_zero, look_succ, r_next, r_ret, sa_nil, sa_cons, es_nil, es_cons, o_none, o_some, ts_nil, ts_cons, c_lt, c_le, c_gt, c_ge, c_eq, c_ne, b_add, b_sub, b_mul, b_div, b_mod, b_pow, b_shr, a_add, a_mul, t_bool, t_int, List.map, List.cons_append, List.nil_append, List.getElem?_cons_succ, List.getElem?_cons_zero, List.set_cons_succ, List.set_cons_zero, frOf]); (repeat (first | rw [q_next] | rw [q_ret] | rw [q_cont] | rw [q_brk] | rw [ss_nil])); (try simp only [r_next, r_ret]))
      have nwb : ∀ a ∈ refs, a ≠ wb := fun a ha => by obtain ⟨o, ho⟩ := I2.mem ha; exact ne_of (xτ _ _ ho) f5
      have fw2 : τ2 wb = none := xτ.fresh f5
      have now : ob ≠ wb := ne_of go f5
      (rw [ss_cons]; ((try simp only [e_int, e_bool, e_none, e_str, e_var, e_bin, e_neg, n_int, e_not, e_cmp, e_and, e_or, e_ite, e_sub, e_slice, e_list, e_tuple, e_call, e_ucall, e_meth, e_comp, t_not, t_and, t_or, t_cmp, t_var, t_sub, t_call, t_ucall, s_expr, s_assign, s_setitem, s_aug, s_augi, s_ifs, s_while, s_for, s_ret, s_brk, s_cont, ss_nil, c_range1, c_range2, c_range3, i_rng, i_ref, i_tup, i_enm, i_rev, bt_name, bt_tup, look_zero, look_succ, r_next, r_ret, sa_nil, sa_cons, es_nil, es_cons, o_none, o_some, ts_nil, ts_cons, c_lt, c_le, c_gt, c_ge, c_eq, c_ne, b_add, b_sub, b_mul, b_div, b_mod, b_pow, b_shr, a_add, a_mul, t_bool, t_int, List.map, List.cons_append, List.nil_append, List.getElem?_cons_succ, List.getElem?_cons_zero, List.set_cons_succ, List.set_cons_zero, frOf]); (repeat (first | rw [q_next] | rw [q_ret] | rw [q_cont] | rw [q_brk] | rw [ss_nil])); (try simp only [r_next, r_ret])))
      rw [hit] at g5
      refine h2 _ _ _ ⟨Fin refs.length, fV refs, ltF refs vals, fun _ => True, wb, List.finRange refs.length, rfl, g5, fun _ _ => trivial, fun x y _ _ ys Q q => X2 x y _ Q ((xτ.trans x5).set _ fw2) q, big_of (by omega), ?_⟩
      rw [← em]
      have x6 : Ext τ2 (upd τ5 wb (.list (m.map (fV refs)))) := (xτ.trans x5).set _ fw2
      have gw6 := upd_same τ5 wb (.list (m.map (fV refs)))
      have go6 : (upd τ5 wb (.list (m.map (fV refs)))) ob = some (.list (m.map (fV refs))) := by rw [upd_ne _ _ now]; exact x5 _ _ go
      generalize upd τ5 wb (.list (m.map (fV refs))) = τ6 at *
      ((try simp only [e_int, e_bool, e_none, e_str, e_var, e_bin, e_neg, n_int, e_not, e_cmp, e_and, e_or, e_ite, e_sub, e_slice, e_list, e_tuple, e_call, e_ucall, e_meth, e_comp, t_not, t_and, t_or, t_cmp, t_var, t_sub, t_call, t_ucall, s_expr, s_assign, s_setitem, s_aug, s_augi, s_ifs, s_while, s_for, s_ret, s_brk, s_cont, ss_nil, c_range1, c_range2, c_range3, i_rng, i_ref, i_tup, i_enm, i_rev, bt_name, bt_tup, look_zero, look_succ, r_next, r_ret, sa_nil, sa_cons, es_nil, es_cons, o_none, o_some, ts_nil, ts_cons, c_lt, c_le, c_gt, c_ge, c_eq, c_ne, b_add, b_sub, b_mul, b_div, b_mod, b_pow, b_shr, a_add, a_mul, t_bool, t_int, List.map, List.cons_append, List.nil_append, List.getElem?_cons_succ, List.getElem?_cons_zero, List.set_cons_succ, List.set_cons_zero, frOf]); (repeat (first | rw [q_next] | rw [q_ret] | rw [q_cont] | rw [q_brk] | rw [ss_nil])); (try simp only [r_next, r_ret]))
      (rw [ss_cons]; ((try simp only [e_int, e_bool, e_none, e_str, e_var, e_bin, e_neg, n_int, e_not, e_cmp, e_and, e_or, e_ite, e_sub, e_slice, e_list, e_tuple, e_call, e_ucall, e_meth, e_comp, t_not, t_and, t_or, t_cmp, t_var, t_sub, t_call, t_ucall, s_expr, s_assign, s_setitem, s_aug, s_augi, s_ifs, s_while, s_for, s_ret, s_brk, s_cont, ss_nil, c_range1, c_range2, c_range3, i_rng, i_ref, i_tup, i_enm, i_rev, bt_name, bt_tup, look_zero, look_succ, r_next, r_ret, sa_nil, sa_cons, es_nil, es_cons, o_none, o_some, ts_nil, ts_cons, c_lt, c_le, c_gt, c_ge, c_eq, c_ne, b_add, b_sub, b_mul, b_div, b_mod, b_pow, b_shr, a_add, a_mul, t_bool, t_int, List.map, List.cons_append, List.nil_append, List.getElem?_cons_succ, List.getElem?_cons_zero, List.set_cons_succ, List.set_cons_zero, frOf]); (repeat (first | rw [q_next] | rw [q_ret] | rw [q_cont] | rw [q_brk] | rw [ss_nil])); (try simp only [r_next, r_ret])))
      refine newL_of (big_of (by simp)) fun hb τ7 x7 f7 g7 => ?_
      ((try simp only [e_int, e_bool, e_none, e_str, e_var, e_bin, e_neg, n_int, e_not, e_cmp, e_and, e_or, e_ite, e_sub, e_slice, e_list, e_tuple, e_call, e_ucall, e_meth, e_comp, t_not, t_and, t_or, t_cmp, t_var, t_sub, t_call, t_ucall, s_expr, s_assign, s_setitem, s_aug, s_augi, s_ifs, s_while, s_for, s_ret, s_brk, s_cont, ss_nil, c_range1, c_range2, c_range3, i_rng, i_ref, i_tup, i_enm, i_rev, bt_name, bt_tup, look_zero, look_succ, r_next, r_ret, sa_nil, sa_cons, es_nil, es_cons, o_none, o_some, ts_nil, ts_cons, c_lt, c_le, c_gt, c_ge, c_eq, c_ne, b_add, b_sub, b_mul, b_div, b_mod, b_pow, b_shr, a_add, a_mul, t_bool, t_int, List.map, List.cons_append, List.nil_append, List.getElem?_cons_succ, List.getElem?_cons_zero, List.set_cons_succ, List.set_cons_zero, frOf]); (repeat (first | rw [q_next] | rw [q_ret] | rw [q_cont] | rw [q_brk] | rw [ss_nil])); (try simp only [r_next, r_ret]))
      (rw [ss_cons]; ((try simp only [e_int, e_bool, e_none, e_str, e_var, e_bin, e_neg, n_int, e_not, e_cmp, e_and, e_or, e_ite, e_sub, e_slice, e_list, e_tuple, e_call, e_ucall, e_meth, e_comp, t_not, t_and, t_or, t_cmp, t_var, t_sub, t_call, t_ucall, s_expr, s_assign, s_setitem, s_aug, s_augi, s_ifs, s_while, s_for, s_ret, s_brk, s_cont, ss_nil, c_range1, c_range2, c_range3, i_rng, i_ref, i_tup, i_enm, i_rev, bt_name, bt_tup, look_zero, look_succ, r_next, r_ret, sa_nil, sa_cons, es_nil, es_cons, o_none, o_some, ts_nil, ts_cons, c_lt, c_le, c_gt, c_ge, c_eq, c_ne, b_add, b_sub, b_mul, b_div, b_mod, b_pow, b_shr, a_add, a_mul, t_bool, t_int, List.map, List.cons_append, List.nil_append, List.getElem?_cons_succ, List.getElem?_cons_zero, List.set_cons_succ, List.set_cons_zero, frOf]); (repeat (first | rw [q_next] | rw [q_ret] | rw [q_cont] | rw [q_brk] | rw [ss_nil])); (try simp only [r_next, r_ret])))
      have gi7 : τ7 ib = some (.list ((List.finRange refs.length).map (fV refs))) := by rw [← hit]; exact x7 _ _ (x6 _ _ g2)
      have h128 : (List.finRange refs.length).length < 2 ^ 7 * (0 + 1) := by
        have : (2 : Nat) ^ 7 * (0 + 1) = 128 := by decide
        rw [this]; omega
      refine h5 _ _ _ ⟨Fin refs.length, fV refs, ltF refs vals, ib, List.finRange refs.length, 0, τ7, rfl, gi7, .rfl, by omega, h128, by omega, X2.ext (x6.trans x7), fun τ8 v x8 ht => ?_⟩
      refine newL_of (big_of (by simp)) fun vb τ9 x9 f9 g9 => ?_
      ((try simp only [e_int, e_bool, e_none, e_str, e_var, e_bin, e_neg, n_int, e_not, e_cmp, e_and, e_or, e_ite, e_sub, e_slice, e_list, e_tuple, e_call, e_ucall, e_meth, e_comp, t_not, t_and, t_or, t_cmp, t_var, t_sub, t_call, t_ucall, s_expr, s_assign, s_setitem, s_aug, s_augi, s_ifs, s_while, s_for, s_ret, s_brk, s_cont, ss_nil, c_range1, c_range2, c_range3, i_rng, i_ref, i_tup, i_enm, i_rev, bt_name, bt_tup, look_zero, look_succ, r_next, r_ret, sa_nil, sa_cons, es_nil, es_cons, o_none, o_some, ts_nil, ts_cons, c_lt, c_le, c_gt, c_ge, c_eq, c_ne, b_add, b_sub, b_mul, b_div, b_mod, b_pow, b_shr, a_add, a_mul, t_bool, t_int, List.map, List.cons_append, List.nil_append, List.getElem?_cons_succ, List.getElem?_cons_zero, List.set_cons_succ, List.set_cons_zero, frOf]); (repeat (first | rw [q_next] | rw [q_ret] | rw [q_cont] | rw [q_brk] | rw [ss_nil])); (try simp only [r_next, r_ret]))
      rw [← et] at ht
      refine law05b_v (R := m) Φ (B0 := τ6) (B := τ7) ((x7.trans x8).trans x9) (I2.ext x6) (x6 _ _ g2) go6 gw6 f7 (fun a ha => ⟨nib a ha, nob a ha, nwb a ha⟩) hn (by omega) (by omega) (by rw [g7]; simp) (x9 _ _ (x8 _ _ g7)) g9 (ne_of (x8 _ _ g7) f9).symm (ht.ext x9)

/-! GcN -/
/-- the end: the law answers True -/
theorem good_true {l : OpenLaw} {cl : Str → Option Addr} {mean : ExcName → Option Value} {args : List WData} {s₁ s' : Shared} {σ : Hp} {v : Value} (hg : s₁.gens = #[]) (p : PV s₁.heap σ s₁ (fun v _ => v = .bool true) v s') :
    GoodW l.row.claim cl mean args s₁ (.ok (.ret v)) s' := by
  obtain ⟨x, σ', r, ⟨st, m⟩, rfl⟩ := p
  cases r
  refine ⟨.inl ⟨.bool true, .bool true, [], rfl, fun cls => rfl, ?_, ?_, ?_⟩, st.w.stays, m.1, m.2.trans hg⟩
  · exact .bool true
  · exact postW_of (r := l.row.toRowW) (by simp only [OpenLaw.row]; unfold WShape.has; simp; exact ⟨.bool, by simp [WShape.arms], rfl⟩) (w_eq_bool (w_res rfl) w_lit) rfl
  · intro _; exact ⟨List.nodup_nil, fun a m => by cases m⟩
theorem len_cons {α : Type} {n : Nat} {l : List α} (h : l.length = n + 1) : ∃ a t, l = a :: t ∧ t.length = n := by
  cases l with
  | nil => cases h
  | cons a t => exact ⟨a, t, rfl, Nat.succ.inj h⟩
/-- the def at a place of the text -/
def defAt (p : Program) (i : Nat) : Arguments × List Stmt × Scope := match p.main.body[i]? with
  | some (.FunctionDef _ a b _ _ _ sc _ _ _) => (a, b, sc)
  | _ => (⟨[], [], none, [], [], none, []⟩, [], ⟨.function, [], false, false, []⟩)
def recIn (p : Program) (name : Str) : DefRec := match defOf p name with
  | some (d, _) => d
  | none => ⟨name, ⟨[], [], none, [], [], none, []⟩, [], ⟨.function, [], false, false, []⟩, ⟨0, 0, 0, 0⟩⟩
theorem FnOk.false {prog : Program} {w : World} {h₀ : Heap} {n : Nat} {fa : Addr} {o : Obj} {fd : FuncData} (ho : h₀.get? fa = some o) (hd : o.data = .func fd) : FnOk prog w h₀ n (.ref fa) (fun _ _ _ => False) :=
  ⟨fa, o, fd, rfl, ho, hd, fun _ _ _ _ _ _ _ _ _ f => f.elim⟩
def Φs (l : List (List V → (V → Hp → Prop) → Hp → Prop)) : Fns := fun i => match l[i]? with | some C => C | none => fun _ _ _ => False
theorem bi_free {p : Program} {loose : List Str} {mean : ExcName → Option Value} {mg mb : Str → Option Value} {h : Heap} (T : Top p loose mean mg mb h)
    (hf : ∀ x ∈ freeNames, x ∉ startupNames ∧ x ∉ loose ∧ x ∉ (recsOf p).map (·.name) ∧ x ∉ (litsOf p).map (·.1) ∧ x ∉ (clssOf p loose).map (·.name)) :
    ∀ x ∈ freeNames, mg x = none := fun x hx => by
    obtain ⟨a, b, c, d, e⟩ := hf x hx; exact T.free x a b c d e
theorem dfl {mg : Str → Option Value} {h : Heap} {params : Arguments} {dV kV : Value} (D : Dflts mg h params [] dV kV) (hp : params.defaults = []) : dV = .none ∧ kV = .none := by
  refine ⟨?_, ?_⟩
  · rcases D.pos with ⟨_, e⟩ | ⟨n, _⟩
    · exact e
    · exact absurd hp n
  · rcases D.kw with ⟨_, e⟩ | ⟨n, _⟩
    · exact e
    · exact absurd rfl n
/-- a def with no defaults, as the ground shows it -/
def Shown (mg : Str → Option Value) (h : Heap) (name : Str) (d : DefRec) : Prop :=
  ∃ a o pm cd doc, mg name = some (.ref a) ∧ h.get? a = some o ∧ o.data = .func { Calls.docDef d.name d.params d.body d.scope pm cd doc with defaults := .none, kwdefaults := .none } ∧ h.CodeRec cd d.name
theorem shown_of {p : Program} {loose : List Str} {R : WRecords} {XP : (Str → Option Value) → Heap → Prop} {w : World} {s₀ : Shared} {mg mb : Str → Option Value} {h : Heap}
    (G : Ground p loose R XP w s₀ mg mb h) (name : Str) (d : DefRec) (e : defOf p name = some (d, [])) (hp : d.params.defaults = []) : Shown mg h name d := by
  obtain ⟨a, o, pm, cd, doc, dV, kV, h1, h2, h3, h4, h5⟩ := G.fn e
  obtain ⟨rfl, rfl⟩ := dfl h5 hp
  exact ⟨a, o, pm, cd, doc, h1, h2, h3, h4⟩

/-! Hd05 -/
set_option Elab.async false
set_option maxHeartbeats 8000000
open_top hd05 for PySem.Challenge.rw_dm0137_05

/-! Go05 -/
def fns05 : List Str := ["_siftdown_max", "_siftup_max", "_heapify_max", "_law_order", "_law_sink", "_law_tree", "law"]
theorem def_sd : defOf hd05.view_39 "_siftdown_max" = some ((recIn hd05.view_39 "_siftdown_max"), []) := by kernel_rfl
theorem bd_sd : (recIn hd05.view_39 "_siftdown_max").params = (defAt PySem.Challenge.pw_dm0137_05 2).1 ∧ (recIn hd05.view_39 "_siftdown_max").body = (defAt PySem.Challenge.pw_dm0137_05 2).2.1 ∧ (recIn hd05.view_39 "_siftdown_max").scope = (defAt PySem.Challenge.pw_dm0137_05 2).2.2 := ⟨by kernel_rfl, by kernel_rfl, by kernel_rfl⟩
theorem bind_sd (fd : FuncData) (h1 : fd.params = (defAt PySem.Challenge.pw_dm0137_05 2).1) (h2 : fd.defaults = .none) (h3 : fd.kwdefaults = .none) : ∀ vals : List Value, vals.length = (["heap", "startpos", "pos"] : List Str).length → bindArgs fd ⟨vals, []⟩ = pure ((["heap", "startpos", "pos"] : List Str).zip vals) := by
  intro vals hv
  obtain ⟨x0, t0, rfl, q0⟩ := len_cons (n := 2) hv
  obtain ⟨x1, t1, rfl, q1⟩ := len_cons (n := 1) q0
  obtain ⟨x2, t2, rfl, q2⟩ := len_cons (n := 0) q1
  obtain rfl := List.eq_nil_of_length_eq_zero q2
  unfold bindArgs
  rw [h1, h2, h3]
  rfl
theorem cs_sd : CSs { sc := (defAt PySem.Challenge.pw_dm0137_05 2).2.2.names, fns := fns05 } (defAt PySem.Challenge.pw_dm0137_05 2).2.1 ps_siftdown := by
  unfold ps_siftdown
  exact (CSs.cons (CS.assign rfl (by decide) (CE.sub (CE.var rfl (by decide) (by decide)) (CE.var rfl (by decide) (by decide)) (fun _ _ => rfl)) (fun _ => rfl)) (CSs.cons (CS.whil (CT.cmp (CE.var rfl (by decide) (by decide)) (CE.var rfl (by decide) (by decide)) rfl) (CSs.cons (CS.assign rfl (by decide) (CE.bin (CE.bin (CE.var rfl (by decide) (by decide)) CE.int) CE.int) (fun _ => rfl)) (CSs.cons (CS.assign rfl (by decide) (CE.sub (CE.var rfl (by decide) (by decide)) (CE.var rfl (by decide) (by decide)) (fun _ _ => rfl)) (fun _ => rfl)) (CSs.cons (CS.ifs (CT.cmp (CE.var rfl (by decide) (by decide)) (CE.var rfl (by decide) (by decide)) rfl) (CSs.cons (CS.setitem (CE.var rfl (by decide) (by decide)) (CE.var rfl (by decide) (by decide)) (CE.var rfl (by decide) (by decide)) (fun _ => rfl)) (CSs.cons (CS.assign rfl (by decide) (CE.var rfl (by decide) (by decide)) (fun _ => rfl)) (CSs.cons CS.cont CSs.nil))) CSs.nil) (CSs.cons CS.brk CSs.nil))))) (CSs.cons (CS.setitem (CE.var rfl (by decide) (by decide)) (CE.var rfl (by decide) (by decide)) (CE.var rfl (by decide) (by decide)) (fun _ => rfl)) CSs.nil)))
theorem ok_sd {pm cd doc dV kV : Value} (h2 : dV = .none) (h3 : kV = .none) : DefOk { Calls.docDef (recIn hd05.view_39 "_siftdown_max").name (recIn hd05.view_39 "_siftdown_max").params (recIn hd05.view_39 "_siftdown_max").body (recIn hd05.view_39 "_siftdown_max").scope pm cd doc with defaults := dV, kwdefaults := kV } fns05 (["heap", "startpos", "pos"] : List Str) (defAt PySem.Challenge.pw_dm0137_05 2).2.1 ps_siftdown := by
  obtain ⟨e1, e2, e3⟩ := bd_sd
  refine ⟨congrArg FuncBody.stmts e2, bind_sd _ e1 h2 h3, rfl, rfl, rfl, ?_, ?_, ?_, ?_, ?_, ?_, by decide, ?_⟩
  · show (recIn hd05.view_39 "_siftdown_max").scope.isCoroutine = false
    rw [e3]; rfl
  · show (recIn hd05.view_39 "_siftdown_max").scope.isGenerator = false
    rw [e3]; rfl
  · show (recIn hd05.view_39 "_siftdown_max").scope.kind = .function
    rw [e3]; rfl
  · show ((recIn hd05.view_39 "_siftdown_max").scope.names.map (·.1)).Nodup
    rw [e3]; decide +kernel
  · show ∀ x ∈ (recIn hd05.view_39 "_siftdown_max").scope.names, x.2 ≠ .free
    rw [e3]; decide +kernel
  · show ∀ x ∈ (["heap", "startpos", "pos"] : List Str), (recIn hd05.view_39 "_siftdown_max").scope.names.lookup x = some .local ∨ (recIn hd05.view_39 "_siftdown_max").scope.names.lookup x = some .cell
    rw [e3]; decide +kernel
  · show CSs { sc := (recIn hd05.view_39 "_siftdown_max").scope.names, fns := fns05 } _ _
    rw [e3]; exact cs_sd
theorem fr_sd (a b c : V) : initF { sc := (defAt PySem.Challenge.pw_dm0137_05 2).2.2.names, fns := fns05 } (["heap", "startpos", "pos"] : List Str) [a, b, c] = [a, b, c].map some ++ [none, none, none] := by first | rfl | kernel_rfl

theorem def_su : defOf hd05.view_39 "_siftup_max" = some ((recIn hd05.view_39 "_siftup_max"), []) := by kernel_rfl
theorem bd_su : (recIn hd05.view_39 "_siftup_max").params = (defAt PySem.Challenge.pw_dm0137_05 3).1 ∧ (recIn hd05.view_39 "_siftup_max").body = (defAt PySem.Challenge.pw_dm0137_05 3).2.1 ∧ (recIn hd05.view_39 "_siftup_max").scope = (defAt PySem.Challenge.pw_dm0137_05 3).2.2 := ⟨by kernel_rfl, by kernel_rfl, by kernel_rfl⟩
theorem bind_su (fd : FuncData) (h1 : fd.params = (defAt PySem.Challenge.pw_dm0137_05 3).1) (h2 : fd.defaults = .none) (h3 : fd.kwdefaults = .none) : ∀ vals : List Value, vals.length = (["heap", "pos"] : List Str).length → bindArgs fd ⟨vals, []⟩ = pure ((["heap", "pos"] : List Str).zip vals) := by
  intro vals hv
  obtain ⟨x0, t0, rfl, q0⟩ := len_cons (n := 1) hv
  obtain ⟨x1, t1, rfl, q1⟩ := len_cons (n := 0) q0
  obtain rfl := List.eq_nil_of_length_eq_zero q1
  unfold bindArgs
  rw [h1, h2, h3]
  rfl
theorem cs_su : CSs { sc := (defAt PySem.Challenge.pw_dm0137_05 3).2.2.names, fns := fns05 } (defAt PySem.Challenge.pw_dm0137_05 3).2.1 (ps_siftup 0) := by
  unfold ps_siftup
  exact (CSs.cons (CS.assign rfl (by decide) (CE.call rfl (by decide) (CEs.cons (CE.var rfl (by decide) (by decide)) CEs.nil (fun _ => rfl))) (fun _ => rfl)) (CSs.cons (CS.assign rfl (by decide) (CE.var rfl (by decide) (by decide)) (fun _ => rfl)) (CSs.cons (CS.assign rfl (by decide) (CE.sub (CE.var rfl (by decide) (by decide)) (CE.var rfl (by decide) (by decide)) (fun _ _ => rfl)) (fun _ => rfl)) (CSs.cons (CS.assign rfl (by decide) (CE.bin (CE.bin CE.int (CE.var rfl (by decide) (by decide))) CE.int) (fun _ => rfl)) (CSs.cons (CS.whil (CT.cmp (CE.var rfl (by decide) (by decide)) (CE.var rfl (by decide) (by decide)) rfl) (CSs.cons (CS.assign rfl (by decide) (CE.bin (CE.var rfl (by decide) (by decide)) CE.int) (fun _ => rfl)) (CSs.cons (CS.ifs (CT.and (CT.cmp (CE.var rfl (by decide) (by decide)) (CE.var rfl (by decide) (by decide)) rfl) (CT.not (CT.cmp (CE.sub (CE.var rfl (by decide) (by decide)) (CE.var rfl (by decide) (by decide)) (fun _ _ => rfl)) (CE.sub (CE.var rfl (by decide) (by decide)) (CE.var rfl (by decide) (by decide)) (fun _ _ => rfl)) rfl))) (CSs.cons (CS.assign rfl (by decide) (CE.var rfl (by decide) (by decide)) (fun _ => rfl)) CSs.nil) CSs.nil) (CSs.cons (CS.setitem (CE.var rfl (by decide) (by decide)) (CE.var rfl (by decide) (by decide)) (CE.sub (CE.var rfl (by decide) (by decide)) (CE.var rfl (by decide) (by decide)) (fun _ _ => rfl)) (fun _ => rfl)) (CSs.cons (CS.assign rfl (by decide) (CE.var rfl (by decide) (by decide)) (fun _ => rfl)) (CSs.cons (CS.assign rfl (by decide) (CE.bin (CE.bin CE.int (CE.var rfl (by decide) (by decide))) CE.int) (fun _ => rfl)) CSs.nil)))))) (CSs.cons (CS.setitem (CE.var rfl (by decide) (by decide)) (CE.var rfl (by decide) (by decide)) (CE.var rfl (by decide) (by decide)) (fun _ => rfl)) (CSs.cons (CS.expr (CE.ucall rfl (by decide) (by decide) (by decide) (CEs.cons (CE.var rfl (by decide) (by decide)) (CEs.cons (CE.var rfl (by decide) (by decide)) (CEs.cons (CE.var rfl (by decide) (by decide)) CEs.nil (fun _ => rfl)) (fun _ => rfl)) (fun _ => rfl))) (fun _ => rfl)) CSs.nil)))))))
theorem ok_su {pm cd doc dV kV : Value} (h2 : dV = .none) (h3 : kV = .none) : DefOk { Calls.docDef (recIn hd05.view_39 "_siftup_max").name (recIn hd05.view_39 "_siftup_max").params (recIn hd05.view_39 "_siftup_max").body (recIn hd05.view_39 "_siftup_max").scope pm cd doc with defaults := dV, kwdefaults := kV } fns05 (["heap", "pos"] : List Str) (defAt PySem.Challenge.pw_dm0137_05 3).2.1 (ps_siftup 0) := by
  obtain ⟨e1, e2, e3⟩ := bd_su
  refine ⟨congrArg FuncBody.stmts e2, bind_su _ e1 h2 h3, rfl, rfl, rfl, ?_, ?_, ?_, ?_, ?_, ?_, by decide, ?_⟩
  · show (recIn hd05.view_39 "_siftup_max").scope.isCoroutine = false
    rw [e3]; rfl
  · show (recIn hd05.view_39 "_siftup_max").scope.isGenerator = false
    rw [e3]; rfl
  · show (recIn hd05.view_39 "_siftup_max").scope.kind = .function
    rw [e3]; rfl
  · show ((recIn hd05.view_39 "_siftup_max").scope.names.map (·.1)).Nodup
    rw [e3]; decide +kernel
  · show ∀ x ∈ (recIn hd05.view_39 "_siftup_max").scope.names, x.2 ≠ .free
    rw [e3]; decide +kernel
  · show ∀ x ∈ (["heap", "pos"] : List Str), (recIn hd05.view_39 "_siftup_max").scope.names.lookup x = some .local ∨ (recIn hd05.view_39 "_siftup_max").scope.names.lookup x = some .cell
    rw [e3]; decide +kernel
  · show CSs { sc := (recIn hd05.view_39 "_siftup_max").scope.names, fns := fns05 } _ _
    rw [e3]; exact cs_su
theorem fr_su (a b : V) : initF { sc := (defAt PySem.Challenge.pw_dm0137_05 3).2.2.names, fns := fns05 } (["heap", "pos"] : List Str) [a, b] = [a, b].map some ++ [none, none, none, none, none] := by first | rfl | kernel_rfl

theorem def_hf : defOf hd05.view_39 "_heapify_max" = some ((recIn hd05.view_39 "_heapify_max"), []) := by kernel_rfl
theorem bd_hf : (recIn hd05.view_39 "_heapify_max").params = (defAt PySem.Challenge.pw_dm0137_05 1).1 ∧ (recIn hd05.view_39 "_heapify_max").body = (defAt PySem.Challenge.pw_dm0137_05 1).2.1 ∧ (recIn hd05.view_39 "_heapify_max").scope = (defAt PySem.Challenge.pw_dm0137_05 1).2.2 := ⟨by kernel_rfl, by kernel_rfl, by kernel_rfl⟩
theorem bind_hf (fd : FuncData) (h1 : fd.params = (defAt PySem.Challenge.pw_dm0137_05 1).1) (h2 : fd.defaults = .none) (h3 : fd.kwdefaults = .none) : ∀ vals : List Value, vals.length = (["x"] : List Str).length → bindArgs fd ⟨vals, []⟩ = pure ((["x"] : List Str).zip vals) := by
  intro vals hv
  obtain ⟨x0, t0, rfl, q0⟩ := len_cons (n := 0) hv
  obtain rfl := List.eq_nil_of_length_eq_zero q0
  unfold bindArgs
  rw [h1, h2, h3]
  rfl
theorem cs_hf : CSs { sc := (defAt PySem.Challenge.pw_dm0137_05 1).2.2.names, fns := fns05 } (defAt PySem.Challenge.pw_dm0137_05 1).2.1 (ps_heapify 1) := by
  unfold ps_heapify
  exact (CSs.cons (CS.assign rfl (by decide) (CE.call rfl (by decide) (CEs.cons (CE.var rfl (by decide) (by decide)) CEs.nil (fun _ => rfl))) (fun _ => rfl)) (CSs.cons (CS.for (CG.name rfl (by decide)) (CI.rev rfl (by decide) (CE.call rfl (by decide) (CEs.cons (CE.bin (CE.var rfl (by decide) (by decide)) CE.int) CEs.nil (fun _ => rfl))) (fun _ => rfl)) ((by intro h; cases h)) (CSs.cons (CS.expr (CE.ucall rfl (by decide) (by decide) (by decide) (CEs.cons (CE.var rfl (by decide) (by decide)) (CEs.cons (CE.var rfl (by decide) (by decide)) CEs.nil (fun _ => rfl)) (fun _ => rfl))) (fun _ => rfl)) CSs.nil)) CSs.nil))
theorem ok_hf {pm cd doc dV kV : Value} (h2 : dV = .none) (h3 : kV = .none) : DefOk { Calls.docDef (recIn hd05.view_39 "_heapify_max").name (recIn hd05.view_39 "_heapify_max").params (recIn hd05.view_39 "_heapify_max").body (recIn hd05.view_39 "_heapify_max").scope pm cd doc with defaults := dV, kwdefaults := kV } fns05 (["x"] : List Str) (defAt PySem.Challenge.pw_dm0137_05 1).2.1 (ps_heapify 1) := by
  obtain ⟨e1, e2, e3⟩ := bd_hf
  refine ⟨congrArg FuncBody.stmts e2, bind_hf _ e1 h2 h3, rfl, rfl, rfl, ?_, ?_, ?_, ?_, ?_, ?_, by decide, ?_⟩
  · show (recIn hd05.view_39 "_heapify_max").scope.isCoroutine = false
    rw [e3]; rfl
  · show (recIn hd05.view_39 "_heapify_max").scope.isGenerator = false
    rw [e3]; rfl
  · show (recIn hd05.view_39 "_heapify_max").scope.kind = .function
    rw [e3]; rfl
  · show ((recIn hd05.view_39 "_heapify_max").scope.names.map (·.1)).Nodup
    rw [e3]; decide +kernel
  · show ∀ x ∈ (recIn hd05.view_39 "_heapify_max").scope.names, x.2 ≠ .free
    rw [e3]; decide +kernel
  · show ∀ x ∈ (["x"] : List Str), (recIn hd05.view_39 "_heapify_max").scope.names.lookup x = some .local ∨ (recIn hd05.view_39 "_heapify_max").scope.names.lookup x = some .cell
    rw [e3]; decide +kernel
  · show CSs { sc := (recIn hd05.view_39 "_heapify_max").scope.names, fns := fns05 } _ _
    rw [e3]; exact cs_hf
theorem fr_hf (a : V) : initF { sc := (defAt PySem.Challenge.pw_dm0137_05 1).2.2.names, fns := fns05 } (["x"] : List Str) [a] = [a].map some ++ [none, none] := by first | rfl | kernel_rfl

theorem def_lo : defOf hd05.view_39 "_law_order" = some ((recIn hd05.view_39 "_law_order"), []) := by kernel_rfl
theorem bd_lo : (recIn hd05.view_39 "_law_order").params = (defAt PySem.Challenge.pw_dm0137_05 5).1 ∧ (recIn hd05.view_39 "_law_order").body = (defAt PySem.Challenge.pw_dm0137_05 5).2.1 ∧ (recIn hd05.view_39 "_law_order").scope = (defAt PySem.Challenge.pw_dm0137_05 5).2.2 := ⟨by kernel_rfl, by kernel_rfl, by kernel_rfl⟩
theorem bind_lo (fd : FuncData) (h1 : fd.params = (defAt PySem.Challenge.pw_dm0137_05 5).1) (h2 : fd.defaults = .none) (h3 : fd.kwdefaults = .none) : ∀ vals : List Value, vals.length = (["drawn"] : List Str).length → bindArgs fd ⟨vals, []⟩ = pure ((["drawn"] : List Str).zip vals) := by
  intro vals hv
  obtain ⟨x0, t0, rfl, q0⟩ := len_cons (n := 0) hv
  obtain rfl := List.eq_nil_of_length_eq_zero q0
  unfold bindArgs
  rw [h1, h2, h3]
  rfl
theorem cs_lo : CSs { sc := (defAt PySem.Challenge.pw_dm0137_05 5).2.2.names, fns := fns05 } (defAt PySem.Challenge.pw_dm0137_05 5).2.1 ps_order := by
  unfold ps_order
  exact (CSs.cons (CS.assign rfl (by decide) (CE.list CEs.nil) (fun _ => rfl)) (CSs.cons (CS.assign rfl (by decide) (CE.list (CEs.cons CE.int CEs.nil (fun _ => rfl))) (fun _ => rfl)) (CSs.cons (CS.for (CG.name rfl (by decide)) (CI.plain (CE.var rfl (by decide) (by decide)) (fun _ _ => rfl)) ((by intro h; cases h)) (CSs.cons (CS.expr (CE.meth rfl (by decide) (by decide) (fun _ => rfl) (CE.var rfl (by decide) (by decide)) (CEs.cons (CE.meth rfl (by decide) (by decide) (fun _ => rfl) (CE.var rfl (by decide) (by decide)) (CEs.cons (CE.bin (CE.var rfl (by decide) (by decide)) (CE.call rfl (by decide) (CEs.cons (CE.var rfl (by decide) (by decide)) CEs.nil (fun _ => rfl)))) CEs.nil (fun _ => rfl))) CEs.nil (fun _ => rfl))) (fun _ => rfl)) (CSs.cons (CS.expr (CE.meth rfl (by decide) (by decide) (fun _ => rfl) (CE.var rfl (by decide) (by decide)) (CEs.cons (CE.comp ⟨by decide, rfl, by decide, (CI.plain (CE.tuple (CEs.cons (CE.bin (CE.bin CE.int (CE.sub (CE.var rfl (by decide) (by decide)) (CE.neg CE.int) (fun _ _ => rfl))) CE.int) (CEs.cons (CE.bin (CE.bin CE.int (CE.sub (CE.var rfl (by decide) (by decide)) (CE.neg CE.int) (fun _ _ => rfl))) CE.int) CEs.nil (fun _ => rfl)) (fun _ => rfl))) (fun _ _ => rfl)), (by intro h; cases h), (CG.name rfl (by decide)), (CE.var rfl (by decide) (by decide)), (CTs.cons (CT.cmp (CE.var rfl (by decide) (by decide)) (CE.call rfl (by decide) (CEs.cons (CE.var rfl (by decide) (by decide)) CEs.nil (fun _ => rfl))) rfl) CTs.nil)⟩) CEs.nil (fun _ => rfl))) (fun _ => rfl)) CSs.nil))) (CSs.cons (CS.expr (CE.meth rfl (by decide) (by decide) (fun _ => rfl) (CE.var rfl (by decide) (by decide)) CEs.nil) (fun _ => rfl)) (CSs.cons (CS.ret (CE.var rfl (by decide) (by decide))) CSs.nil)))))
theorem ok_lo {pm cd doc dV kV : Value} (h2 : dV = .none) (h3 : kV = .none) : DefOk { Calls.docDef (recIn hd05.view_39 "_law_order").name (recIn hd05.view_39 "_law_order").params (recIn hd05.view_39 "_law_order").body (recIn hd05.view_39 "_law_order").scope pm cd doc with defaults := dV, kwdefaults := kV } fns05 (["drawn"] : List Str) (defAt PySem.Challenge.pw_dm0137_05 5).2.1 ps_order := by
  obtain ⟨e1, e2, e3⟩ := bd_lo
  refine ⟨congrArg FuncBody.stmts e2, bind_lo _ e1 h2 h3, rfl, rfl, rfl, ?_, ?_, ?_, ?_, ?_, ?_, by decide, ?_⟩
  · show (recIn hd05.view_39 "_law_order").scope.isCoroutine = false
    rw [e3]; rfl
  · show (recIn hd05.view_39 "_law_order").scope.isGenerator = false
    rw [e3]; rfl
  · show (recIn hd05.view_39 "_law_order").scope.kind = .function
    rw [e3]; rfl
  · show ((recIn hd05.view_39 "_law_order").scope.names.map (·.1)).Nodup
    rw [e3]; decide +kernel
  · show ∀ x ∈ (recIn hd05.view_39 "_law_order").scope.names, x.2 ≠ .free
    rw [e3]; decide +kernel
  · show ∀ x ∈ (["drawn"] : List Str), (recIn hd05.view_39 "_law_order").scope.names.lookup x = some .local ∨ (recIn hd05.view_39 "_law_order").scope.names.lookup x = some .cell
    rw [e3]; decide +kernel
  · show CSs { sc := (recIn hd05.view_39 "_law_order").scope.names, fns := fns05 } _ _
    rw [e3]; exact cs_lo
theorem fr_lo (a : V) : initF { sc := (defAt PySem.Challenge.pw_dm0137_05 5).2.2.names, fns := fns05 } (["drawn"] : List Str) [a] = [a].map some ++ [none, none, none] := by first | rfl | kernel_rfl

theorem def_ls : defOf hd05.view_39 "_law_sink" = some ((recIn hd05.view_39 "_law_sink"), []) := by kernel_rfl
theorem bd_ls : (recIn hd05.view_39 "_law_sink").params = (defAt PySem.Challenge.pw_dm0137_05 6).1 ∧ (recIn hd05.view_39 "_law_sink").body = (defAt PySem.Challenge.pw_dm0137_05 6).2.1 ∧ (recIn hd05.view_39 "_law_sink").scope = (defAt PySem.Challenge.pw_dm0137_05 6).2.2 := ⟨by kernel_rfl, by kernel_rfl, by kernel_rfl⟩
theorem bind_ls (fd : FuncData) (h1 : fd.params = (defAt PySem.Challenge.pw_dm0137_05 6).1) (h2 : fd.defaults = .none) (h3 : fd.kwdefaults = .none) : ∀ vals : List Value, vals.length = (["item", "trees"] : List Str).length → bindArgs fd ⟨vals, []⟩ = pure ((["item", "trees"] : List Str).zip vals) := by
  intro vals hv
  obtain ⟨x0, t0, rfl, q0⟩ := len_cons (n := 1) hv
  obtain ⟨x1, t1, rfl, q1⟩ := len_cons (n := 0) q0
  obtain rfl := List.eq_nil_of_length_eq_zero q1
  unfold bindArgs
  rw [h1, h2, h3]
  rfl
theorem cs_ls : CSs { sc := (defAt PySem.Challenge.pw_dm0137_05 6).2.2.names, fns := fns05 } (defAt PySem.Challenge.pw_dm0137_05 6).2.1 (ps_sink 4) := by
  unfold ps_sink
  exact (CSs.cons (CS.ifs (CT.cmp (CE.var rfl (by decide) (by decide)) (CE.list CEs.nil) rfl) (CSs.cons (CS.ret (CE.list (CEs.cons (CE.var rfl (by decide) (by decide)) (CEs.cons (CE.var rfl (by decide) (by decide)) CEs.nil (fun _ => rfl)) (fun _ => rfl)))) CSs.nil) CSs.nil) (CSs.cons (CS.assign rfl (by decide) (CE.ite (CT.cmp (CE.sub (CE.sub (CE.var rfl (by decide) (by decide)) (CE.neg CE.int) (fun _ _ => rfl)) CE.int (fun _ _ => rfl)) (CE.sub (CE.sub (CE.var rfl (by decide) (by decide)) CE.int (fun _ _ => rfl)) CE.int (fun _ _ => rfl)) rfl) CE.int (CE.bin (CE.call rfl (by decide) (CEs.cons (CE.var rfl (by decide) (by decide)) CEs.nil (fun _ => rfl))) CE.int)) (fun _ => rfl)) (CSs.cons (CS.ifs (CT.cmp (CE.sub (CE.sub (CE.var rfl (by decide) (by decide)) (CE.var rfl (by decide) (by decide)) (fun _ _ => rfl)) CE.int (fun _ _ => rfl)) (CE.var rfl (by decide) (by decide)) rfl) (CSs.cons (CS.ret (CE.list (CEs.cons (CE.var rfl (by decide) (by decide)) (CEs.cons (CE.var rfl (by decide) (by decide)) CEs.nil (fun _ => rfl)) (fun _ => rfl)))) CSs.nil) CSs.nil) (CSs.cons (CS.ret (CE.list (CEs.cons (CE.sub (CE.sub (CE.var rfl (by decide) (by decide)) (CE.var rfl (by decide) (by decide)) (fun _ _ => rfl)) CE.int (fun _ _ => rfl)) (CEs.cons (CE.bin (CE.bin (CE.slice (CE.var rfl (by decide) (by decide)) CO.none (CO.some (CE.var rfl (by decide) (by decide))) CO.none) (CE.list (CEs.cons (CE.ucall rfl (by decide) (by decide) (by decide) (CEs.cons (CE.var rfl (by decide) (by decide)) (CEs.cons (CE.sub (CE.sub (CE.var rfl (by decide) (by decide)) (CE.var rfl (by decide) (by decide)) (fun _ _ => rfl)) CE.int (fun _ _ => rfl)) CEs.nil (fun _ => rfl)) (fun _ => rfl))) CEs.nil (fun _ => rfl)))) (CE.slice (CE.var rfl (by decide) (by decide)) (CO.some (CE.bin (CE.var rfl (by decide) (by decide)) CE.int)) CO.none CO.none)) CEs.nil (fun _ => rfl)) (fun _ => rfl)))) CSs.nil))))
theorem ok_ls {pm cd doc dV kV : Value} (h2 : dV = .none) (h3 : kV = .none) : DefOk { Calls.docDef (recIn hd05.view_39 "_law_sink").name (recIn hd05.view_39 "_law_sink").params (recIn hd05.view_39 "_law_sink").body (recIn hd05.view_39 "_law_sink").scope pm cd doc with defaults := dV, kwdefaults := kV } fns05 (["item", "trees"] : List Str) (defAt PySem.Challenge.pw_dm0137_05 6).2.1 (ps_sink 4) := by
  obtain ⟨e1, e2, e3⟩ := bd_ls
  refine ⟨congrArg FuncBody.stmts e2, bind_ls _ e1 h2 h3, rfl, rfl, rfl, ?_, ?_, ?_, ?_, ?_, ?_, by decide, ?_⟩
  · show (recIn hd05.view_39 "_law_sink").scope.isCoroutine = false
    rw [e3]; rfl
  · show (recIn hd05.view_39 "_law_sink").scope.isGenerator = false
    rw [e3]; rfl
  · show (recIn hd05.view_39 "_law_sink").scope.kind = .function
    rw [e3]; rfl
  · show ((recIn hd05.view_39 "_law_sink").scope.names.map (·.1)).Nodup
    rw [e3]; decide +kernel
  · show ∀ x ∈ (recIn hd05.view_39 "_law_sink").scope.names, x.2 ≠ .free
    rw [e3]; decide +kernel
  · show ∀ x ∈ (["item", "trees"] : List Str), (recIn hd05.view_39 "_law_sink").scope.names.lookup x = some .local ∨ (recIn hd05.view_39 "_law_sink").scope.names.lookup x = some .cell
    rw [e3]; decide +kernel
  · show CSs { sc := (recIn hd05.view_39 "_law_sink").scope.names, fns := fns05 } _ _
    rw [e3]; exact cs_ls
theorem fr_ls (a b : V) : initF { sc := (defAt PySem.Challenge.pw_dm0137_05 6).2.2.names, fns := fns05 } (["item", "trees"] : List Str) [a, b] = [a, b].map some ++ [none] := by first | rfl | kernel_rfl

theorem def_lt : defOf hd05.view_39 "_law_tree" = some ((recIn hd05.view_39 "_law_tree"), []) := by kernel_rfl
theorem bd_lt : (recIn hd05.view_39 "_law_tree").params = (defAt PySem.Challenge.pw_dm0137_05 7).1 ∧ (recIn hd05.view_39 "_law_tree").body = (defAt PySem.Challenge.pw_dm0137_05 7).2.1 ∧ (recIn hd05.view_39 "_law_tree").scope = (defAt PySem.Challenge.pw_dm0137_05 7).2.2 := ⟨by kernel_rfl, by kernel_rfl, by kernel_rfl⟩
theorem bind_lt (fd : FuncData) (h1 : fd.params = (defAt PySem.Challenge.pw_dm0137_05 7).1) (h2 : fd.defaults = .none) (h3 : fd.kwdefaults = .none) : ∀ vals : List Value, vals.length = (["items", "place"] : List Str).length → bindArgs fd ⟨vals, []⟩ = pure ((["items", "place"] : List Str).zip vals) := by
  intro vals hv
  obtain ⟨x0, t0, rfl, q0⟩ := len_cons (n := 1) hv
  obtain ⟨x1, t1, rfl, q1⟩ := len_cons (n := 0) q0
  obtain rfl := List.eq_nil_of_length_eq_zero q1
  unfold bindArgs
  rw [h1, h2, h3]
  rfl
theorem cs_lt : CSs { sc := (defAt PySem.Challenge.pw_dm0137_05 7).2.2.names, fns := fns05 } (defAt PySem.Challenge.pw_dm0137_05 7).2.1 (ps_tree 4 5) := by
  unfold ps_tree
  exact (CSs.cons (CS.assignC rfl (by decide) ⟨by decide, rfl, by decide, (CI.plain (CE.tuple (CEs.cons (CE.bin (CE.bin CE.int (CE.var rfl (by decide) (by decide))) CE.int) (CEs.cons (CE.bin (CE.bin CE.int (CE.var rfl (by decide) (by decide))) CE.int) CEs.nil (fun _ => rfl)) (fun _ => rfl))) (fun _ _ => rfl)), (by intro h; cases h), (CG.name rfl (by decide)), (CE.var rfl (by decide) (by decide)), (CTs.cons (CT.cmp (CE.var rfl (by decide) (by decide)) (CE.call rfl (by decide) (CEs.cons (CE.var rfl (by decide) (by decide)) CEs.nil (fun _ => rfl))) rfl) CTs.nil)⟩) (CSs.cons (CS.ret (CE.ucall rfl (by decide) (by decide) (by decide) (CEs.cons (CE.sub (CE.var rfl (by decide) (by decide)) (CE.var rfl (by decide) (by decide)) (fun _ _ => rfl)) (CEs.cons (CE.comp ⟨by decide, rfl, by decide, (CI.plain (CE.var rfl (by decide) (by decide)) (fun _ _ => rfl)), (by intro h; cases h), (CG.name rfl (by decide)), (CE.ucall rfl (by decide) (by decide) (by decide) (CEs.cons (CE.var rfl (by decide) (by decide)) (CEs.cons (CE.var rfl (by decide) (by decide)) CEs.nil (fun _ => rfl)) (fun _ => rfl))), CTs.nil⟩) CEs.nil (fun _ => rfl)) (fun _ => rfl)))) CSs.nil))
theorem ok_lt {pm cd doc dV kV : Value} (h2 : dV = .none) (h3 : kV = .none) : DefOk { Calls.docDef (recIn hd05.view_39 "_law_tree").name (recIn hd05.view_39 "_law_tree").params (recIn hd05.view_39 "_law_tree").body (recIn hd05.view_39 "_law_tree").scope pm cd doc with defaults := dV, kwdefaults := kV } fns05 (["items", "place"] : List Str) (defAt PySem.Challenge.pw_dm0137_05 7).2.1 (ps_tree 4 5) := by
  obtain ⟨e1, e2, e3⟩ := bd_lt
  refine ⟨congrArg FuncBody.stmts e2, bind_lt _ e1 h2 h3, rfl, rfl, rfl, ?_, ?_, ?_, ?_, ?_, ?_, by decide, ?_⟩
  · show (recIn hd05.view_39 "_law_tree").scope.isCoroutine = false
    rw [e3]; rfl
  · show (recIn hd05.view_39 "_law_tree").scope.isGenerator = false
    rw [e3]; rfl
  · show (recIn hd05.view_39 "_law_tree").scope.kind = .function
    rw [e3]; rfl
  · show ((recIn hd05.view_39 "_law_tree").scope.names.map (·.1)).Nodup
    rw [e3]; decide +kernel
  · show ∀ x ∈ (recIn hd05.view_39 "_law_tree").scope.names, x.2 ≠ .free
    rw [e3]; decide +kernel
  · show ∀ x ∈ (["items", "place"] : List Str), (recIn hd05.view_39 "_law_tree").scope.names.lookup x = some .local ∨ (recIn hd05.view_39 "_law_tree").scope.names.lookup x = some .cell
    rw [e3]; decide +kernel
  · show CSs { sc := (recIn hd05.view_39 "_law_tree").scope.names, fns := fns05 } _ _
    rw [e3]; exact cs_lt
theorem fr_lt (a b : V) : initF { sc := (defAt PySem.Challenge.pw_dm0137_05 7).2.2.names, fns := fns05 } (["items", "place"] : List Str) [a, b] = [a, b].map some ++ [none] := by first | rfl | kernel_rfl

theorem def_law : defOf hd05.view_39 "law" = some ((recIn hd05.view_39 "law"), []) := by kernel_rfl
theorem bd_law : (recIn hd05.view_39 "law").params = (defAt PySem.Challenge.pw_dm0137_05 8).1 ∧ (recIn hd05.view_39 "law").body = (defAt PySem.Challenge.pw_dm0137_05 8).2.1 ∧ (recIn hd05.view_39 "law").scope = (defAt PySem.Challenge.pw_dm0137_05 8).2.2 := ⟨by kernel_rfl, by kernel_rfl, by kernel_rfl⟩
theorem bind_law (fd : FuncData) (h1 : fd.params = (defAt PySem.Challenge.pw_dm0137_05 8).1) (h2 : fd.defaults = .none) (h3 : fd.kwdefaults = .none) : ∀ vals : List Value, vals.length = (["script"] : List Str).length → bindArgs fd ⟨vals, []⟩ = pure ((["script"] : List Str).zip vals) := by
  intro vals hv
  obtain ⟨x0, t0, rfl, q0⟩ := len_cons (n := 0) hv
  obtain rfl := List.eq_nil_of_length_eq_zero q0
  unfold bindArgs
  rw [h1, h2, h3]
  rfl
theorem cs_law : CSs { sc := (defAt PySem.Challenge.pw_dm0137_05 8).2.2.names, fns := fns05 } (defAt PySem.Challenge.pw_dm0137_05 8).2.1 ps_law05 := by
  unfold ps_law05
  exact (CSs.cons (CS.assign rfl (by decide) (CE.bin (CE.var rfl (by decide) (by decide)) (CE.list (CEs.cons CE.int (CEs.cons CE.int (CEs.cons CE.int (CEs.cons CE.int (CEs.cons CE.int (CEs.cons CE.int CEs.nil (fun _ => rfl)) (fun _ => rfl)) (fun _ => rfl)) (fun _ => rfl)) (fun _ => rfl)) (fun _ => rfl)))) (fun _ => rfl)) (CSs.cons (CS.assignC rfl (by decide) ⟨by decide, rfl, by decide, (CI.plain (CE.var rfl (by decide) (by decide)) (fun _ _ => rfl)), (by intro h; cases h), (CG.name rfl (by decide)), (CE.list (CEs.cons (CE.ite (CT.cmp (CE.bin (CE.var rfl (by decide) (by decide)) CE.int) CE.int rfl) (CE.bin (CE.bin (CE.var rfl (by decide) (by decide)) CE.int) CE.int) (CE.bin (CE.var rfl (by decide) (by decide)) CE.int)) CEs.nil (fun _ => rfl))), CTs.nil⟩) (CSs.cons (CS.assign rfl (by decide) (CE.call rfl (by decide) (CEs.cons (CE.var rfl (by decide) (by decide)) CEs.nil (fun _ => rfl))) (fun _ => rfl)) (CSs.cons (CS.for (CG.name rfl (by decide)) (CI.plain (CE.ucall rfl (by decide) (by decide) (by decide) (CEs.cons (CE.var rfl (by decide) (by decide)) CEs.nil (fun _ => rfl))) (fun _ _ => rfl)) ((by intro h; cases h)) (CSs.cons (CS.expr (CE.ucall rfl (by decide) (by decide) (by decide) (CEs.cons (CE.var rfl (by decide) (by decide)) (CEs.cons (CE.var rfl (by decide) (by decide)) CEs.nil (fun _ => rfl)) (fun _ => rfl))) (fun _ => rfl)) CSs.nil)) (CSs.cons (CS.assign rfl (by decide) (CE.call rfl (by decide) (CEs.cons (CE.var rfl (by decide) (by decide)) CEs.nil (fun _ => rfl))) (fun _ => rfl)) (CSs.cons (CS.expr (CE.ucall rfl (by decide) (by decide) (by decide) (CEs.cons (CE.var rfl (by decide) (by decide)) CEs.nil (fun _ => rfl))) (fun _ => rfl)) (CSs.cons (CS.assign rfl (by decide) (CE.list CEs.nil) (fun _ => rfl)) (CSs.cons (CS.assign rfl (by decide) (CE.list (CEs.cons (CE.ucall rfl (by decide) (by decide) (by decide) (CEs.cons (CE.var rfl (by decide) (by decide)) (CEs.cons CE.int CEs.nil (fun _ => rfl)) (fun _ => rfl))) CEs.nil (fun _ => rfl))) (fun _ => rfl)) (CSs.cons (CS.whil (CT.cmp (CE.var rfl (by decide) (by decide)) (CE.list CEs.nil) rfl) (CSs.cons (CS.expr (CE.meth rfl (by decide) (by decide) (fun _ => rfl) (CE.var rfl (by decide) (by decide)) (CEs.cons (CE.comp ⟨by decide, rfl, by decide, (CI.plain (CE.var rfl (by decide) (by decide)) (fun _ _ => rfl)), (by intro h; cases h), (CG.name rfl (by decide)), (CE.sub (CE.var rfl (by decide) (by decide)) CE.int (fun _ _ => rfl)), CTs.nil⟩) CEs.nil (fun _ => rfl))) (fun _ => rfl)) (CSs.cons (CS.assignC2 rfl (by decide) ⟨by decide, rfl, by decide, (CI.plain (CE.var rfl (by decide) (by decide)) (fun _ _ => rfl)), rfl, rfl, by decide, by decide, by decide, (CE.sub (CE.var rfl (by decide) (by decide)) CE.int (fun _ _ => rfl)), (fun _ _ => rfl), (CE.var rfl (by decide) (by decide))⟩) CSs.nil))) (CSs.cons (CS.for (CG.tup (CGs.cons rfl (by decide) (CGs.cons rfl (by decide) CGs.nil))) (CI.enum rfl (by decide) (CE.var rfl (by decide) (by decide)) (fun _ => rfl)) (fun _ => ⟨_, rfl⟩) (CSs.cons (CS.expr (CE.meth rfl (by decide) (by decide) (fun _ => rfl) (CE.var rfl (by decide) (by decide)) (CEs.cons (CE.var rfl (by decide) (by decide)) CEs.nil (fun _ => rfl))) (fun _ => rfl)) CSs.nil)) (CSs.cons (CS.ret (CE.and (CE.cmp (CE.var rfl (by decide) (by decide)) (CE.var rfl (by decide) (by decide)) rfl) (CE.cmp (CE.var rfl (by decide) (by decide)) (CE.var rfl (by decide) (by decide)) rfl))) CSs.nil)))))))))))
theorem ok_law {pm cd doc dV kV : Value} (h2 : dV = .none) (h3 : kV = .none) : DefOk { Calls.docDef (recIn hd05.view_39 "law").name (recIn hd05.view_39 "law").params (recIn hd05.view_39 "law").body (recIn hd05.view_39 "law").scope pm cd doc with defaults := dV, kwdefaults := kV } fns05 (["script"] : List Str) (defAt PySem.Challenge.pw_dm0137_05 8).2.1 ps_law05 := by
  obtain ⟨e1, e2, e3⟩ := bd_law
  refine ⟨congrArg FuncBody.stmts e2, bind_law _ e1 h2 h3, rfl, rfl, rfl, ?_, ?_, ?_, ?_, ?_, ?_, by decide, ?_⟩
  · show (recIn hd05.view_39 "law").scope.isCoroutine = false
    rw [e3]; rfl
  · show (recIn hd05.view_39 "law").scope.isGenerator = false
    rw [e3]; rfl
  · show (recIn hd05.view_39 "law").scope.kind = .function
    rw [e3]; rfl
  · show ((recIn hd05.view_39 "law").scope.names.map (·.1)).Nodup
    rw [e3]; decide +kernel
  · show ∀ x ∈ (recIn hd05.view_39 "law").scope.names, x.2 ≠ .free
    rw [e3]; decide +kernel
  · show ∀ x ∈ (["script"] : List Str), (recIn hd05.view_39 "law").scope.names.lookup x = some .local ∨ (recIn hd05.view_39 "law").scope.names.lookup x = some .cell
    rw [e3]; decide +kernel
  · show CSs { sc := (recIn hd05.view_39 "law").scope.names, fns := fns05 } _ _
    rw [e3]; exact cs_law
theorem fr_law (a : V) : initF { sc := (defAt PySem.Challenge.pw_dm0137_05 8).2.2.names, fns := fns05 } (["script"] : List Str) [a] = [a].map some ++ [none, none, none, none, none, none, none, none, none] := by first | rfl | kernel_rfl

theorem free05 : ∀ x ∈ freeNames, x ∉ startupNames ∧ x ∉ (looseW hd05.view_39 []) ∧ x ∉ (recsOf hd05.view_39).map (·.name) ∧ x ∉ (litsOf hd05.view_39).map (·.1) ∧ x ∉ (clssOf hd05.view_39 (looseW hd05.view_39 [])).map (·.name) := by decide +kernel
theorem names05 {w : World} {h₀ : Heap} {mg mb : Str → Option Value} (Gd : Gnd PySem.Challenge.rw_dm0137_05.row.prog h₀ mg mb) (hbi : ∀ x ∈ freeNames, mg x = none)
    (F : ∀ name d, defOf hd05.view_39 name = some (d, []) → d.params.defaults = [] → Shown mg h₀ name d)
    : NamesOk PySem.Challenge.rw_dm0137_05.row.prog w h₀ mg 21 fns05 (Φs [siftdownC, siftupC, heapifyC, orderC, (sinkC 8), (treeC 7)]) := by
  obtain ⟨a0, o0, pm0, cd0, doc0, m0, g0, d0, c0⟩ := F _ _ def_sd (by rw [bd_sd.1]; rfl)
  obtain ⟨a1, o1, pm1, cd1, doc1, m1, g1, d1, c1⟩ := F _ _ def_su (by rw [bd_su.1]; rfl)
  obtain ⟨a2, o2, pm2, cd2, doc2, m2, g2, d2, c2⟩ := F _ _ def_hf (by rw [bd_hf.1]; rfl)
  obtain ⟨a3, o3, pm3, cd3, doc3, m3, g3, d3, c3⟩ := F _ _ def_lo (by rw [bd_lo.1]; rfl)
  obtain ⟨a4, o4, pm4, cd4, doc4, m4, g4, d4, c4⟩ := F _ _ def_ls (by rw [bd_ls.1]; rfl)
  obtain ⟨a5, o5, pm5, cd5, doc5, m5, g5, d5, c5⟩ := F _ _ def_lt (by rw [bd_lt.1]; rfl)
  obtain ⟨a6, o6, pm6, cd6, doc6, m6, g6, d6, c6⟩ := F _ _ def_law (by rw [bd_law.1]; rfl)
  have mk : ∀ (n : Nat) (Φ : Fns), FnOk PySem.Challenge.rw_dm0137_05.row.prog w h₀ n (.ref a0) (Φ 0) → FnOk PySem.Challenge.rw_dm0137_05.row.prog w h₀ n (.ref a1) (Φ 1) → FnOk PySem.Challenge.rw_dm0137_05.row.prog w h₀ n (.ref a2) (Φ 2) → FnOk PySem.Challenge.rw_dm0137_05.row.prog w h₀ n (.ref a3) (Φ 3) → FnOk PySem.Challenge.rw_dm0137_05.row.prog w h₀ n (.ref a4) (Φ 4) → FnOk PySem.Challenge.rw_dm0137_05.row.prog w h₀ n (.ref a5) (Φ 5) → FnOk PySem.Challenge.rw_dm0137_05.row.prog w h₀ n (.ref a6) (Φ 6) → NamesOk PySem.Challenge.rw_dm0137_05.row.prog w h₀ mg n fns05 Φ := fun n Φ f0 f1 f2 f3 f4 f5 f6 =>
    ⟨hbi, fun i x e => by
      match i, e with
      | 0, e => cases e; exact ⟨_, m0, f0⟩
      | 1, e => cases e; exact ⟨_, m1, f1⟩
      | 2, e => cases e; exact ⟨_, m2, f2⟩
      | 3, e => cases e; exact ⟨_, m3, f3⟩
      | 4, e => cases e; exact ⟨_, m4, f4⟩
      | 5, e => cases e; exact ⟨_, m5, f5⟩
      | 6, e => cases e; exact ⟨_, m6, f6⟩⟩
  have N0 := mk 0 (Φs []) (.false g0 d0) (.false g1 d1) (.false g2 d2) (.false g3 d3) (.false g4 d4) (.false g5 d5) (.false g6 d6)
  have F0 : ∀ m, 1 ≤ m → FnOk PySem.Challenge.rw_dm0137_05.row.prog w h₀ m (.ref a0) siftdownC := fun m hm => (fn_ok Gd N0 (ok_sd rfl rfl) g0 d0 c0).mono hm fun args Q σ h => by
    have h' := h
    obtain ⟨_, _, _, _, _, _, _, _, _, e, r⟩ := h'
    subst e
    refine ⟨rfl, siftdown_v _   _ _ _ _ h ?_⟩
    show initF { sc := (recIn hd05.view_39 "_siftdown_max").scope.names, fns := fns05 } _ _ = _
    rw [bd_sd.2.2]; exact fr_sd _ _ _
  have N1 := mk 1 (Φs [siftdownC]) (F0 1 (by omega)) (.false g1 d1) (.false g2 d2) (.false g3 d3) (.false g4 d4) (.false g5 d5) (.false g6 d6)
  have F1 : ∀ m, 2 ≤ m → FnOk PySem.Challenge.rw_dm0137_05.row.prog w h₀ m (.ref a1) siftupC := fun m hm => (fn_ok Gd N1 (ok_su rfl rfl) g1 d1 c1).mono hm fun args Q σ h => by
    have h' := h
    obtain ⟨_, _, _, _, _, _, _, _, e, r⟩ := h'
    subst e
    refine ⟨rfl, siftup_v _ 0 (fun _ _ _ h => h) _ _ _ _ h ?_⟩
    show initF { sc := (recIn hd05.view_39 "_siftup_max").scope.names, fns := fns05 } _ _ = _
    rw [bd_su.2.2]; exact fr_su _ _
  have N2 := mk 2 (Φs [siftdownC, siftupC]) (F0 2 (by omega)) (F1 2 (by omega)) (.false g2 d2) (.false g3 d3) (.false g4 d4) (.false g5 d5) (.false g6 d6)
  have F2 : ∀ m, 3 ≤ m → FnOk PySem.Challenge.rw_dm0137_05.row.prog w h₀ m (.ref a2) heapifyC := fun m hm => (fn_ok Gd N2 (ok_hf rfl rfl) g2 d2 c2).mono hm fun args Q σ h => by
    have h' := h
    obtain ⟨_, _, _, _, _, _, e, r⟩ := h'
    subst e
    refine ⟨rfl, heapify_v _ 1 (fun _ _ _ h => h) _ _ _ _ h ?_⟩
    show initF { sc := (recIn hd05.view_39 "_heapify_max").scope.names, fns := fns05 } _ _ = _
    rw [bd_hf.2.2]; exact fr_hf _
  have N3 := mk 3 (Φs [siftdownC, siftupC, heapifyC]) (F0 3 (by omega)) (F1 3 (by omega)) (F2 3 (by omega)) (.false g3 d3) (.false g4 d4) (.false g5 d5) (.false g6 d6)
  have F3 : ∀ m, 4 ≤ m → FnOk PySem.Challenge.rw_dm0137_05.row.prog w h₀ m (.ref a3) orderC := fun m hm => (fn_ok Gd N3 (ok_lo rfl rfl) g3 d3 c3).mono hm fun args Q σ h => by
    have h' := h
    obtain ⟨_, _, e, r⟩ := h'
    subst e
    refine ⟨rfl, order_v _   _ _ _ _ h ?_⟩
    show initF { sc := (recIn hd05.view_39 "_law_order").scope.names, fns := fns05 } _ _ = _
    rw [bd_lo.2.2]; exact fr_lo _
  have R4 : ∀ d m, 4 + d + 1 ≤ m → FnOk PySem.Challenge.rw_dm0137_05.row.prog w h₀ m (.ref a4) (sinkC d) := fun d => by
    induction d with
    | zero =>
      intro m hm
      have N := mk 4 (Φs [siftdownC, siftupC, heapifyC, orderC]) (F0 4 (by omega)) (F1 4 (by omega)) (F2 4 (by omega)) (F3 4 (by omega)) (.false g4 d4) (.false g5 d5) (.false g6 d6)
      refine (fn_ok Gd N (ok_ls rfl rfl) g4 d4 c4).mono hm fun args Q σ h => ?_
      have h' := h
      obtain ⟨_, _, _, _, _, _, _, _, _, e, r⟩ := h'
      subst e
      refine ⟨rfl, sink_v _ 4 0  (fun d' e => by omega) _ _ _ _ h ?_⟩
      show initF { sc := (recIn hd05.view_39 "_law_sink").scope.names, fns := fns05 } _ _ = _
      rw [bd_ls.2.2]; exact fr_ls _ _
    | succ d ih =>
      intro m hm
      have N := mk (4 + d + 1) (Φs [siftdownC, siftupC, heapifyC, orderC, sinkC d]) (F0 (4 + d + 1) (by omega)) (F1 (4 + d + 1) (by omega)) (F2 (4 + d + 1) (by omega)) (F3 (4 + d + 1) (by omega)) (ih _ (Nat.le_refl _)) (.false g5 d5) (.false g6 d6)
      refine (fn_ok Gd N (ok_ls rfl rfl) g4 d4 c4).mono (by omega) fun args Q σ h => ?_
      have h' := h
      obtain ⟨_, _, _, _, _, _, _, _, _, e, r⟩ := h'
      subst e
      refine ⟨rfl, sink_v _ 4 (d + 1)  (fun d' e => by cases e; exact fun _ _ _ h => h) _ _ _ _ h ?_⟩
      show initF { sc := (recIn hd05.view_39 "_law_sink").scope.names, fns := fns05 } _ _ = _
      rw [bd_ls.2.2]; exact fr_ls _ _
  have F4 : ∀ m, 4 + 8 + 1 ≤ m → FnOk PySem.Challenge.rw_dm0137_05.row.prog w h₀ m (.ref a4) (sinkC 8) := fun m hm => R4 8 m hm
  have R5 : ∀ d m, 13 + d + 1 ≤ m → FnOk PySem.Challenge.rw_dm0137_05.row.prog w h₀ m (.ref a5) (treeC d) := fun d => by
    induction d with
    | zero =>
      intro m hm
      have N := mk 13 (Φs [siftdownC, siftupC, heapifyC, orderC, (sinkC 8)]) (F0 13 (by omega)) (F1 13 (by omega)) (F2 13 (by omega)) (F3 13 (by omega)) (F4 13 (by omega)) (.false g5 d5) (.false g6 d6)
      refine (fn_ok Gd N (ok_lt rfl rfl) g5 d5 c5).mono hm fun args Q σ h => ?_
      have h' := h
      obtain ⟨_, _, _, _, _, _, _, e, r⟩ := h'
      subst e
      refine ⟨rfl, tree_v _ 4 5 0 (fun _ _ _ h => h) (fun d' e => by omega) _ _ _ _ h ?_⟩
      show initF { sc := (recIn hd05.view_39 "_law_tree").scope.names, fns := fns05 } _ _ = _
      rw [bd_lt.2.2]; exact fr_lt _ _
    | succ d ih =>
      intro m hm
      have N := mk (13 + d + 1) (Φs [siftdownC, siftupC, heapifyC, orderC, (sinkC 8), treeC d]) (F0 (13 + d + 1) (by omega)) (F1 (13 + d + 1) (by omega)) (F2 (13 + d + 1) (by omega)) (F3 (13 + d + 1) (by omega)) (F4 (13 + d + 1) (by omega)) (ih _ (Nat.le_refl _)) (.false g6 d6)
      refine (fn_ok Gd N (ok_lt rfl rfl) g5 d5 c5).mono (by omega) fun args Q σ h => ?_
      have h' := h
      obtain ⟨_, _, _, _, _, _, _, e, r⟩ := h'
      subst e
      refine ⟨rfl, tree_v _ 4 5 (d + 1) (fun _ _ _ h => h) (fun d' e => by cases e; exact fun _ _ _ h => h) _ _ _ _ h ?_⟩
      show initF { sc := (recIn hd05.view_39 "_law_tree").scope.names, fns := fns05 } _ _ = _
      rw [bd_lt.2.2]; exact fr_lt _ _
  have F5 : ∀ m, 13 + 7 + 1 ≤ m → FnOk PySem.Challenge.rw_dm0137_05.row.prog w h₀ m (.ref a5) (treeC 7) := fun m hm => R5 7 m hm
  exact mk 21 _ (F0 21 (by omega)) (F1 21 (by omega)) (F2 21 (by omega)) (F3 21 (by omega)) (F4 21 (by omega)) (F5 21 (by omega)) (.false g6 d6)
end Mine
open PySem PySem.W PyProof.Rows Mine
theorem PySem.Challenge.cw_dm0137_05_holds : PySem.Challenge.rw_dm0137_05.Holds := by
  refine hd05 ?_
  intro w s₀ s₁ mg mb G Y fa o pm cd doc dV kV ho hd hcd hD hmg hg args vals as hpre hlay hrd hwl hlo
  have FF := shown_of G
  refine Ground.open G ?_
  intro T B D TE TW
  wrow_args hpre hlay hrd hwl hlo
  first | refine callC_kw (enter_call ?_) | refine enter_call ?_ | refine callC_kw (enter_callW ?_) | refine enter_callW ?_
  try refine codeAny_mono ?_ (fun _ _ g => GoodW.toG g)
  rename_i ns _ _ hlay0 _ _ _ _ l vs _ hL _ _ _ hI _ hlen _
  have Gd : Gnd PySem.Challenge.rw_dm0137_05.row.prog s₁.heap mg mb := ground_of T (by decide +kernel) (by rfl)
  have NM := names05 (w := w) Gd (bi_free T free05) FF
  obtain ⟨a, o, pm, cd, doc, k1, k2, k3, k4⟩ := FF _ _ def_law (by rw [bd_law.1]; rfl)
  have ea : fa = a := by
    have q : mg ("law" : Str) = some (.ref fa) := hmg
    rw [k1] at q; cases q; rfl
  subst ea
  have hln : ns.length ≤ 63 := by omega
  refine law_code Gd NM (by omega) (ok_law rfl rfl) k2 k3 k4 (script_w hL hI hln) (.cons (.ref l) .nil) (Q := fun v _ => v = .bool true) ⟨rfl, ?_⟩ (fun x s' p => good_true hg p)
  show vSs _ _ _ (initF { sc := (recIn hd05.view_39 "law").scope.names, fns := fns05 } _ _) _
  rw [bd_law.2.2, fr_law]
  exact law05_v _ (fun _ _ _ h => h) (fun _ _ _ h => h) (fun _ _ _ h => h) (fun _ _ _ h => h) l ns  hln _ (listAt_flist (by unfold scriptHp; rw [if_pos rfl]))
