import PyProof.Rows.All
import Wide.All
import OpenK.AllK
import Wide.FinOn
import KE.KDictIter
import PyProof.FactsAll.object
import KE.KSortKey
import PySem.Challenge.RW_dm0137_11
set_option Elab.async false
set_option bootstrap.genMatcherCode false
set_option compiler.extract_closed false
set_option genSizeOf false
set_option genInjectivity false
/-! Fw1 -/
set_option autoImplicit false
set_option maxRecDepth 100000
set_option linter.unusedVariables false
namespace Mine
open PySem PySem.W PyProof.Rows

/-- the rest of the state stands -/
noncomputable def Sm (s s' : Shared) : Prop := s'.os = s.os ∧ s'.gens = s.gens
theorem Sm.rfl {s : Shared} : Sm s s := ⟨Eq.refl _, Eq.refl _⟩
theorem Sm.trans {a b c : Shared} (x : Sm a b) (y : Sm b c) : Sm a c := ⟨y.1.trans x.1, y.2.trans x.2⟩

/-! the abstract values and heaps -/
inductive V where
  | none
  | bool (b : Bool)
  | int (i : Int)
  | str (s : Str)
  | ref (a : Addr)
  | val (v : Value)
  | tup (vs : List V)
  | rng (a b c : Int)
  | obj (a : Addr)
  | func (fd : FuncData)

/-- objects that no step changes -/
noncomputable def Imm (o : Obj) : Prop := (o.cls = .type "tuple" ∧ ∃ vs n, o.data = .seq vs n) ∨ (o.cls = .type "range" ∧ ∃ vs, o.data = .fields vs) ∨ (∃ fd, o.data = .func fd) ∨ o.data = .plain

mutual
inductive Rep (h : Heap) : Value → V → Prop
  | none : Rep h .none .none
  | bool (b : Bool) : Rep h (.bool b) (.bool b)
  | int (i : Int) (t : Tok) : Rep h (.int i t) (.int i)
  | str (s : Str) (t : Tok) : Rep h (.str s t) (.str s)
  | ref (a : Addr) : Rep h (.ref a) (.ref a)
  | val (v : Value) : Rep h v (.val v)
  | tup {a : Addr} {vs : List Value} {xs : List V} : IsTup h a vs.toArray → Reps h vs xs → Rep h (.ref a) (.tup xs)
  | rng {r : Addr} {a b c : Int} {t u v : Tok} : IsRange h r a b c t u v → Rep h (.ref r) (.rng a b c)
  | obj {a : Addr} {o : Obj} : h.get? a = some o → o.data = .plain → Rep h (.ref a) (.obj a)
  | func {a : Addr} {o : Obj} {fd : FuncData} : h.get? a = some o → o.data = .func fd → Rep h (.ref a) (.func fd)
inductive Reps (h : Heap) : List Value → List V → Prop
  | nil : Reps h [] []
  | cons {v : Value} {x : V} {vs : List Value} {xs : List V} : Rep h v x → Reps h vs xs → Reps h (v :: vs) (x :: xs)
end

/-! what bears a value -/
section
variable {h : Heap} {v : Value}
theorem Rep.iint {i : Int} (r : Rep h v (.int i)) : ∃ t, v = .int i t := by cases r; exact ⟨_, rfl⟩
theorem Rep.istr {x : Str} (r : Rep h v (.str x)) : ∃ t, v = .str x t := by cases r; exact ⟨_, rfl⟩
theorem Rep.iref {a : Addr} (r : Rep h v (.ref a)) : v = .ref a := by cases r; rfl
theorem Rep.inone (r : Rep h v .none) : v = .none := by cases r; rfl
theorem Rep.ibool {b : Bool} (r : Rep h v (.bool b)) : v = .bool b := by cases r; rfl
theorem Rep.irng {a b c : Int} (r : Rep h v (.rng a b c)) : ∃ l t u w, v = .ref l ∧ IsRange h l a b c t u w := by cases r with | rng y => exact ⟨_, _, _, _, rfl, y⟩
theorem Rep.itup {xs : List V} (r : Rep h v (.tup xs)) : ∃ a vs, v = .ref a ∧ IsTup h a vs.toArray ∧ Reps h vs xs := by cases r with | tup y q => exact ⟨_, _, rfl, y, q⟩
theorem Rep.iobj {a : Addr} (r : Rep h v (.obj a)) : ∃ o, v = .ref a ∧ h.get? a = some o ∧ o.data = .plain := by cases r with | obj y q => exact ⟨_, rfl, y, q⟩
theorem Rep.ifunc {fd : FuncData} (r : Rep h v (.func fd)) : ∃ a o, v = .ref a ∧ h.get? a = some o ∧ o.data = .func fd := by cases r with | func y q => exact ⟨_, _, rfl, y, q⟩
theorem Reps.inil {vs : List Value} (r : Reps h vs []) : vs = [] := by cases r; rfl
theorem Reps.icons {vs : List Value} {x : V} {xs : List V} (r : Reps h vs (x :: xs)) : ∃ v us, vs = v :: us ∧ Rep h v x ∧ Reps h us xs := by cases r with | cons a b => exact ⟨_, _, rfl, a, b⟩
end
inductive AObj where
  | list (xs : List V)
  | flist (xs : List V)
  | iter (src : Option Addr) (i : Nat)

abbrev Hp := Addr → Option AObj

noncomputable def upd (σ : Hp) (a : Addr) (o : AObj) : Hp := fun b => if b = a then some o else σ b
theorem upd_same (σ : Hp) (a : Addr) (o : AObj) : upd σ a o a = some o := if_pos rfl
theorem upd_ne (σ : Hp) {a b : Addr} (o : AObj) (h : b ≠ a) : upd σ a o b = σ b := if_neg h
theorem upd_upd (σ : Hp) (a : Addr) (o o' : AObj) : upd (upd σ a o) a o' = upd σ a o' := by
  funext b; unfold upd; split <;> rfl
theorem upd_id {σ : Hp} {a : Addr} {o : AObj} (h : σ a = some o) : upd σ a o = σ := by
  funext b; unfold upd; split
  · rename_i e; rw [e, h]
  · rfl

noncomputable def AObj.mut : AObj → Bool
  | .list _ => true
  | .flist _ => false
  | .iter _ _ => true

noncomputable def LObj (vs : List Value) (n : Nat) : Obj := { cls := .type "list", dict := none, data := .seq vs.toArray n, slots := #[] }
noncomputable def Holds (h : Heap) (a : Addr) : AObj → Prop
  | .list xs => ∃ (vs : List Value) (n : Nat), h.get? a = some (LObj vs n) ∧ Reps h vs xs
  | .flist xs => ∃ vs : List Value, h.IsList a vs.toArray ∧ Reps h vs xs
  | .iter (some l) i => h.IsListIter a l i
  | .iter none i => ∃ o, h.get? a = some o ∧ o.cls = .type "list_iterator" ∧ o.data = .fields #[.none, .int i 0]

noncomputable def BIG : Nat := 1000000
noncomputable def AObj.small : AObj → Prop
  | .list xs => xs.length ≤ BIG
  | .flist xs => xs.length ≤ BIG
  | .iter _ _ => True
noncomputable def Mut (σ : Hp) (a : Addr) : Prop := ∃ o, σ a = some o ∧ o.mut = true

/-- the concrete heap bears the abstract one over the ground h₀ -/
structure W (h₀ : Heap) (σ : Hp) (h : Heap) : Prop where
  stays : ∀ b o, h₀.get? b = some o → h.get? b = some o
  holds : ∀ a o, σ a = some o → Holds h a o
  above : ∀ a, Mut σ a → h₀.get? a = none
  small : ∀ a o, σ a = some o → o.small

noncomputable def Keep (σ : Hp) (h h' : Heap) : Prop := ∀ a o, ¬ Mut σ a → h.get? a = some o → h'.get? a = some o
noncomputable def Grow (σ : Hp) (h : Heap) (σ' : Hp) : Prop := ∀ a, (Mut σ' a → Mut σ a ∨ h.get? a = none) ∧ (σ' a ≠ none → σ a ≠ none ∨ h.get? a = none)

theorem Grow.refl (σ : Hp) (h : Heap) : Grow σ h σ := fun _ => ⟨.inl, .inl⟩
theorem Grow.not {σ σ' : Hp} {h : Heap} (g : Grow σ h σ') {a : Addr} {o : Obj} (e : h.get? a = some o) (n : ¬ Mut σ a) : ¬ Mut σ' a := fun m =>
  ((g a).1 m).elim n fun q => by rw [e] at q; cases q
theorem Grow.none {σ σ' : Hp} {h : Heap} (g : Grow σ h σ') {a : Addr} {o : Obj} (e : h.get? a = some o) (n : σ a = none) : σ' a = none := by
  cases q : σ' a with
  | none => rfl
  | some p => exact (((g a).2 (by rw [q]; simp)).elim (fun r => r n) fun r => by rw [e] at r; cases r).elim

theorem holds_not_imm {h : Heap} {a : Addr} {o : AObj} {p : Obj} (x : Holds h a o) (e : h.get? a = some p) (i : Imm p) : False := by
  cases o with
  | list xs => obtain ⟨_, n, e2, _⟩ := x; rw [e] at e2; cases e2; rcases i with i | i | i | i <;> simp [LObj] at i
  | flist xs => obtain ⟨_, ⟨o2, e2, c2, n, d2⟩, _⟩ := x; rw [e] at e2; cases e2; rcases i with ⟨i, _⟩ | ⟨i, _⟩ | ⟨fd, i⟩ | i <;> simp_all
  | iter l i' => cases l <;> (obtain ⟨o2, e2, c2, d2⟩ := x; rw [e] at e2; cases e2; rcases i with ⟨i, _⟩ | ⟨i, _⟩ | ⟨fd, i⟩ | i <;> simp_all)

noncomputable def Tups (h h' : Heap) : Prop := ∀ a o, h.get? a = some o → Imm o → h'.get? a = some o
theorem tup_keep {h₀ : Heap} {σ : Hp} {h h' : Heap} (w : W h₀ σ h) (k : Keep σ h h') : Tups h h' := fun a p e i =>
  k a p (fun ⟨o, q, _⟩ => holds_not_imm (w.holds a o q) e i) e
theorem Tups.tup {h h' : Heap} (k : Tups h h') {a : Addr} {vs : Array Value} (y : IsTup h a vs) : IsTup h' a vs := by
  obtain ⟨o1, e1, c, n, r⟩ := y; exact ⟨o1, k a o1 e1 (.inl ⟨c, _, _, r⟩), c, n, r⟩
mutual
theorem Rep.tups {h h' : Heap} (k : Tups h h') : ∀ {v : Value} {x : V}, Rep h v x → Rep h' v x
  | _, _, .none => .none
  | _, _, .bool b => .bool b
  | _, _, .int i t => .int i t
  | _, _, .str s t => .str s t
  | _, _, .ref a => .ref a
  | _, _, .val v => .val v
  | _, _, .tup y r => .tup (k.tup y) (Reps.tups k r)
  | _, _, .rng y => .rng (k _ _ y (.inr (.inl ⟨rfl, _, rfl⟩)))
  | _, _, .obj e c => .obj (k _ _ e (.inr (.inr (.inr c)))) c
  | _, _, .func e c => .func (k _ _ e (.inr (.inr (.inl ⟨_, c⟩)))) c
theorem Reps.tups {h h' : Heap} (k : Tups h h') : ∀ {vs : List Value} {xs : List V}, Reps h vs xs → Reps h' vs xs
  | _, _, .nil => .nil
  | _, _, .cons r rs => .cons (Rep.tups k r) (Reps.tups k rs)
end

noncomputable def IsD (o : Obj) : Prop := ∃ es n, o.data = .dict es n
/-- a step of the run: what is not under σ and not one's own stays, but for the slots of a namespace -/
structure StepX (own : Addr → Prop) (h₀ : Heap) (σ : Hp) (h : Heap) (σ' : Hp) (h' : Heap) : Prop where
  w : W h₀ σ' h'
  keep : ∀ a o, ¬ Mut σ a → ¬ own a → ¬ IsD o → h.get? a = some o → h'.get? a = some o
  dict : ∀ a o, ¬ Mut σ a → ¬ own a → IsD o → h.get? a = some o → ∃ sl, h'.get? a = some { o with slots := sl }
  grow : Grow σ h σ'
  tups : Tups h h'
  alive : ∀ a o, h.get? a = some o → ∃ o', h'.get? a = some o' ∧ (IsD o → IsD o')
noncomputable def nobody : Addr → Prop := fun _ => False
abbrev Step (h₀ : Heap) (σ : Hp) (h : Heap) (σ' : Hp) (h' : Heap) : Prop := StepX nobody h₀ σ h σ' h'
theorem Step.of {h₀ : Heap} {σ : Hp} {h : Heap} {σ' : Hp} {h' : Heap} (w₀ : W h₀ σ h) (w : W h₀ σ' h') (k : Keep σ h h') (g : Grow σ h σ') (al : ∀ a o, h.get? a = some o → ∃ o', h'.get? a = some o' ∧ (IsD o → IsD o')) : Step h₀ σ h σ' h' :=
  ⟨w, fun a o n _ _ e => k a o n e, fun a o n _ _ e => ⟨o.slots, k a o n e⟩, g, tup_keep w₀ k, al⟩
theorem Step.keeps {h₀ : Heap} {σ : Hp} {h : Heap} {σ' : Hp} {h' : Heap} (s : Step h₀ σ h σ' h') (a : Addr) (o : Obj) (n : ¬ Mut σ a) (d : ¬ IsD o) (e : h.get? a = some o) : h'.get? a = some o := s.keep a o n (fun f => f) d e
theorem StepX.more {own own' : Addr → Prop} {h₀ : Heap} {σ : Hp} {h : Heap} {σ' : Hp} {h' : Heap} (s : StepX own h₀ σ h σ' h') (i : ∀ a, own a → own' a) : StepX own' h₀ σ h σ' h' :=
  ⟨s.w, fun a o n m d e => s.keep a o n (fun q => m (i a q)) d e, fun a o n m d e => s.dict a o n (fun q => m (i a q)) d e, s.grow, s.tups, s.alive⟩
theorem Step.any {own : Addr → Prop} {h₀ : Heap} {σ : Hp} {h : Heap} {σ' : Hp} {h' : Heap} (s : Step h₀ σ h σ' h') : StepX own h₀ σ h σ' h' := s.more fun _ f => f.elim
theorem StepX.refl {own : Addr → Prop} {h₀ : Heap} {σ : Hp} {h : Heap} (w : W h₀ σ h) : StepX own h₀ σ h σ h := ⟨w, fun _ _ _ _ _ e => e, fun _ o _ _ _ e => ⟨o.slots, e⟩, .refl _ _, fun _ _ e _ => e, fun _ o e => ⟨o, e, id⟩⟩
theorem StepX.trans {own : Addr → Prop} {h₀ : Heap} {σ σ' σ'' : Hp} {h h' h'' : Heap} (x : StepX own h₀ σ h σ' h') (y : StepX own h₀ σ' h' σ'' h'') : StepX own h₀ σ h σ'' h'' :=
  ⟨y.w, fun a o n m d e => y.keep a o (x.grow.not e n) m d (x.keep a o n m d e), (fun a o n m d e => by
    obtain ⟨sl, e1⟩ := x.dict a o n m d e
    exact y.dict a { o with slots := sl } (x.grow.not e n) m (by obtain ⟨es, k, q⟩ := d; exact ⟨es, k, q⟩) e1), (fun a => by
    have key : h'.get? a = none → h.get? a = none := fun q => by
      cases e : h.get? a with
      | none => rfl
      | some o => obtain ⟨o', e', _⟩ := x.alive a o e; rw [e'] at q; exact absurd q (by simp)
    refine ⟨fun m => ?_, fun m => ?_⟩
    · rcases (y.grow a).1 m with q | q
      · exact (x.grow a).1 q
      · exact .inr (key q)
    · rcases (y.grow a).2 m with q | q
      · exact (x.grow a).2 q
      · exact .inr (key q)),
   fun a o e i => y.tups a o (x.tups a o e i) i, fun a o e => by
    obtain ⟨o1, e1, d1⟩ := x.alive a o e
    obtain ⟨o2, e2, d2⟩ := y.alive a o1 e1
    exact ⟨o2, e2, fun d => d2 (d1 d)⟩⟩
theorem Step.trans {h₀ : Heap} {σ σ' σ'' : Hp} {h h' h'' : Heap} (x : Step h₀ σ h σ' h') (y : Step h₀ σ' h' σ'' h'') : Step h₀ σ h σ'' h'' := StepX.trans x y
theorem Rep.step {own : Addr → Prop} {h₀ : Heap} {σ σ' : Hp} {h h' : Heap} {v : Value} {x : V} (r : Rep h v x) (s : StepX own h₀ σ h σ' h') : Rep h' v x := r.tups s.tups
theorem Reps.step {own : Addr → Prop} {h₀ : Heap} {σ σ' : Hp} {h h' : Heap} {v : List Value} {x : List V} (r : Reps h v x) (s : StepX own h₀ σ h σ' h') : Reps h' v x := r.tups s.tups

theorem Reps.ind {h : Heap} {P : List Value → List V → Prop} (n : P [] []) (c : ∀ {v x vs xs}, Rep h v x → Reps h vs xs → P vs xs → P (v :: vs) (x :: xs)) : ∀ {vs : List Value} {xs : List V}, Reps h vs xs → P vs xs
  | _, _, .nil => n
  | _, _, .cons a r => c a r (Reps.ind n c r)
theorem Reps.length {h : Heap} {vs : List Value} {xs : List V} (r : Reps h vs xs) : vs.length = xs.length := r.ind (P := fun vs xs => vs.length = xs.length) rfl fun _ _ ih => congrArg (· + 1) ih
theorem Reps.append {h : Heap} {vs ws : List Value} {xs ys : List V} (r : Reps h vs xs) (q : Reps h ws ys) : Reps h (vs ++ ws) (xs ++ ys) := r.ind (P := fun vs xs => Reps h (vs ++ ws) (xs ++ ys)) q fun a _ ih => .cons a ih
theorem Reps.get {h : Heap} {vs : List Value} {xs : List V} (r : Reps h vs xs) : ∀ {i : Nat} {x : V}, xs[i]? = some x → ∃ v, vs[i]? = some v ∧ Rep h v x :=
  r.ind (P := fun vs xs => ∀ {i : Nat} {x : V}, xs[i]? = some x → ∃ v, vs[i]? = some v ∧ Rep h v x) (fun e => by simp at e) fun a _ ih => by
    intro i x e
    cases i with
    | zero => simp at e; subst e; exact ⟨_, rfl, a⟩
    | succ i => simp at e; simpa using ih e
theorem Reps.getRev {h : Heap} {vs : List Value} {xs : List V} (r : Reps h vs xs) : ∀ {i : Nat} {v : Value}, vs[i]? = some v → ∃ x, xs[i]? = some x ∧ Rep h v x :=
  r.ind (P := fun vs xs => ∀ {i : Nat} {v : Value}, vs[i]? = some v → ∃ x, xs[i]? = some x ∧ Rep h v x) (fun e => by simp at e) fun a _ ih => by
    intro i x e
    cases i with
    | zero => simp at e; subst e; exact ⟨_, rfl, a⟩
    | succ i => simp at e; simpa using ih e
theorem Reps.set {h : Heap} {vs : List Value} {xs : List V} (r : Reps h vs xs) : ∀ (i : Nat) {v : Value} {x : V}, Rep h v x → Reps h (vs.set i v) (xs.set i x) :=
  r.ind (P := fun vs xs => ∀ (i : Nat) {v : Value} {x : V}, Rep h v x → Reps h (vs.set i v) (xs.set i x)) (fun _ _ _ _ => .nil) fun a r ih => by
    intro i v x e
    cases i with
    | zero => exact .cons e r
    | succ i => exact .cons a (ih i e)
theorem Reps.filterMap {h : Heap} {vs : List Value} {xs : List V} (r : Reps h vs xs) : ∀ js : List Nat, Reps h (js.filterMap (vs[·]?)) (js.filterMap (xs[·]?))
  | [] => .nil
  | j :: js => by
    simp only [List.filterMap_cons]
    cases e : vs[j]? with
    | none =>
      have : xs[j]? = none := by
        rw [List.getElem?_eq_none_iff] at e ⊢; rw [← r.length]; exact e
      rw [this]; exact r.filterMap js
    | some v =>
      obtain ⟨x, e', rr⟩ := r.getRev e
      rw [e']; exact .cons rr (r.filterMap js)

theorem upd_small {σ : Hp} {a : Addr} {o : AObj} (h : ∀ a o, σ a = some o → o.small) (sm : o.small) : ∀ b p, upd σ a o b = some p → p.small := fun b p e => by
  unfold upd at e; split at e
  · cases e; exact sm
  · exact h b p e
theorem upd_grow {σ : Hp} {h : Heap} {a : Addr} {o : AObj} (n : Mut σ a ∨ h.get? a = none) : Grow σ h (upd σ a o) := fun b => by
  by_cases q : b = a
  · subst q; exact ⟨fun _ => n, fun _ => n.imp (fun ⟨p, e, _⟩ => by rw [e]; simp) id⟩
  · unfold Mut; rw [upd_ne _ _ q]; exact ⟨.inl, .inl⟩
/-- a new object at a fresh address, put under σ -/
theorem get_push_none (h : Heap) : h.get? h.objs.size = none := by
  cases e : h.get? h.objs.size with
  | none => rfl
  | some o => exact absurd (Heap.lt_size e) (Nat.lt_irrefl _)
theorem W.fresh {h₀ : Heap} {σ : Hp} {h : Heap} (w : W h₀ σ h) {a : Addr} (e : h.get? a = none) : σ a = none := by
  cases q : σ a with
  | none => rfl
  | some o =>
    have := w.holds a o q
    cases o with
    | list xs => obtain ⟨_, _, e2, _⟩ := this; rw [e] at e2; cases e2
    | flist xs => obtain ⟨_, ⟨o2, e2, _⟩, _⟩ := this; rw [e] at e2; cases e2
    | iter l i => cases l <;> (obtain ⟨o2, e2, _⟩ := this; rw [e] at e2; cases e2)
theorem Holds.alive {h : Heap} {a : Addr} {o : AObj} (x : Holds h a o) : ∃ b, h.get? a = some b := by
  cases o with
  | list xs => obtain ⟨vs, n, e2, rr⟩ := x; exact ⟨_, e2⟩
  | flist xs => obtain ⟨vs, ⟨o2, e2, r⟩, rr⟩ := x; exact ⟨_, e2⟩
  | iter l i => cases l <;> (obtain ⟨o2, e2, r⟩ := x; exact ⟨_, e2⟩)
theorem Holds.keep {h₀ : Heap} {σ : Hp} {h h' : Heap} (w : W h₀ σ h) (k : Keep σ h h') {a : Addr} {o : AObj} (x : Holds h a o) (same : ∀ b, h.get? a = some b → h'.get? a = some b) : Holds h' a o := by
  cases o with
  | list xs => obtain ⟨vs, n, e2, rr⟩ := x; exact ⟨vs, n, same _ e2, rr.tups (tup_keep w k)⟩
  | flist xs => obtain ⟨vs, ⟨o2, e2, r⟩, rr⟩ := x; exact ⟨vs, ⟨o2, same _ e2, r⟩, rr.tups (tup_keep w k)⟩
  | iter l i => cases l <;> (obtain ⟨o2, e2, r⟩ := x; exact ⟨o2, same _ e2, r⟩)
theorem holds_notD {h : Heap} {a : Addr} {o : AObj} {p : Obj} (x : Holds h a o) (e : h.get? a = some p) : ¬ IsD p := by
  rintro ⟨es, n, d⟩
  cases o with
  | list xs => obtain ⟨vs, n, e2, rr⟩ := x; rw [e] at e2; cases e2; cases d
  | flist xs => obtain ⟨vs, ⟨o2, e2, _, n, r⟩, rr⟩ := x; rw [e] at e2; cases e2; rw [d] at r; cases r
  | iter l i => cases l <;> (obtain ⟨o2, e2, _, r⟩ := x; rw [e] at e2; cases e2; rw [d] at r; cases r)
/-- only new objects: all that was stays -/
theorem W.extend {h₀ : Heap} {σ : Hp} {h h' : Heap} (w : W h₀ σ h) (k : ∀ b o, h.get? b = some o → h'.get? b = some o) : Step h₀ σ h σ h' := by
  have kk : Keep σ h h' := fun a o _ e => k a o e
  exact .of w ⟨fun b o e => k b o (w.stays b o e), fun a o e => (w.holds a o e).keep w kk (fun b => k a b), w.above, w.small⟩ kk (.refl _ _) (fun a o e => ⟨o, k a o e, id⟩)
/-- a new object of the abstract heap -/
theorem W.alloc {h₀ : Heap} {σ : Hp} {h h' : Heap} (w : W h₀ σ h) (k : ∀ b o, h.get? b = some o → h'.get? b = some o) {a : Addr} (n : h.get? a = none) {o : AObj} (x : Holds h' a o) (sm : o.small) : Step h₀ σ h (upd σ a o) h' := by
  have kk : Keep σ h h' := fun a o _ e => k a o e
  refine .of w ⟨fun b o e => k b o (w.stays b o e), fun b p e => ?_, fun b m => ?_, upd_small w.small sm⟩ kk (upd_grow (.inr n)) (fun a o e => ⟨o, k a o e, id⟩)
  · unfold upd at e; split at e
    · rename_i q; subst q; cases e; exact x
    · exact (w.holds b p e).keep w kk (fun b' => k b b')
  · by_cases q : b = a
    · subst q
      cases r : h₀.get? b with
      | none => rfl
      | some o' => rw [w.stays b o' r] at n; cases n
    · obtain ⟨p, e, mm⟩ := m; rw [upd_ne _ _ q] at e; exact w.above b ⟨p, e, mm⟩
/-- a change of one mutable object -/
theorem W.change {h₀ : Heap} {σ : Hp} {h h' : Heap} (w : W h₀ σ h) {a : Addr} (m : Mut σ a) (k : Heap.ExtBut a h h') {o : AObj} (x : Keep σ h h' → Holds h' a o) (sm : o.small) : Step h₀ σ h (upd σ a o) h' := by
  have kk : Keep σ h h' := fun b o n e => k b o (by rintro rfl; exact n m) e
  refine .of w ⟨fun b o e => ?_, fun b p e => ?_, fun b m' => ?_, upd_small w.small sm⟩ kk (upd_grow (.inl m)) (fun b p e => by
    by_cases q : b = a
    · subst q
      obtain ⟨o', e'⟩ := (x kk).alive
      obtain ⟨oo, eo, _⟩ := m
      exact ⟨o', e', fun d => absurd d (holds_notD (w.holds _ _ eo) e)⟩
    · exact ⟨p, k b p q e, id⟩)
  · refine k b o ?_ (w.stays b o e)
    rintro rfl; rw [w.above b m] at e; cases e
  · unfold upd at e; split at e
    · rename_i q; subst q; cases e; exact x kk
    · rename_i q; exact (w.holds b p e).keep w kk (fun b' => k b b' q)
  · by_cases q : b = a
    · subst q; exact w.above b m
    · obtain ⟨p, e, mm⟩ := m'; rw [upd_ne _ _ q] at e; exact w.above b ⟨p, e, mm⟩
/-- an object that lies there already is put under σ -/
theorem W.adopt {h₀ : Heap} {σ : Hp} {h : Heap} (w : W h₀ σ h) {a : Addr} (f : h₀.get? a = none) {o : AObj} (x : Holds h a o) (sm : o.small) : W h₀ (upd σ a o) h := by
  refine ⟨w.stays, fun b p e => ?_, fun b m => ?_, upd_small w.small sm⟩
  · unfold upd at e; split at e
    · rename_i q; subst q; cases e; exact x
    · exact w.holds b p e
  · by_cases q : b = a
    · subst q; exact f
    · obtain ⟨p, e, mm⟩ := m; rw [upd_ne _ _ q] at e; exact w.above b ⟨p, e, mm⟩
theorem StepX.ns {own : Addr → Prop} {h₀ : Heap} {σ σ' : Hp} {h h' : Heap} (x : StepX own h₀ σ h σ' h') {a : Addr} {m : Str → Option Value} (n : ¬ Mut σ a) (no : ¬ own a) (q : h.Ns a m) : h'.Ns a m := by
  obtain ⟨o, es, ep, ho, hd, r⟩ := q
  obtain ⟨sl, e⟩ := x.dict a o n no ⟨_, _, hd⟩ ho
  exact ⟨_, es, ep, e, hd, r⟩
theorem LObj.isList {h : Heap} {a : Addr} {vs : List Value} {n : Nat} (e : h.get? a = some (LObj vs n)) : h.IsList a vs.toArray := ⟨_, e, rfl, n, rfl⟩
theorem LObj.mapSeq (vs : List Value) (n : Nat) (f : Array Value → Array Value) : ∃ m, (LObj vs n).mapSeq f = LObj (f vs.toArray).toList m := ⟨_, rfl⟩
theorem LObj.update {h : Heap} {a : Addr} {vs : List Value} {n : Nat} (e : h.get? a = some (LObj vs n)) (f : Array Value → Array Value) :
    ∃ m, (h.update a (Obj.mapSeq f)).get? a = some (LObj (f vs.toArray).toList m) := by
  obtain ⟨m, q⟩ := LObj.mapSeq vs n f
  exact ⟨m, by rw [← q]; exact Heap.get?_update_self _ e rfl⟩

noncomputable def listAt (σ : Hp) (a : Addr) : Option (List V) := match σ a with | some (.list xs) => some xs | some (.flist xs) => some xs | _ => none
theorem listAt_list {σ : Hp} {a : Addr} {xs : List V} (h : σ a = some (.list xs)) : listAt σ a = some xs := by unfold listAt; rw [h]
theorem listAt_flist {σ : Hp} {a : Addr} {xs : List V} (h : σ a = some (.flist xs)) : listAt σ a = some xs := by unfold listAt; rw [h]
theorem W.list {h₀ : Heap} {σ : Hp} {h : Heap} (w : W h₀ σ h) {a : Addr} {xs : List V} (e : listAt σ a = some xs) : ∃ vs : List Value, h.IsList a vs.toArray ∧ Reps h vs xs := by
  unfold listAt at e
  split at e
  · cases e; rename_i q; obtain ⟨vs, n, g, r⟩ := w.holds _ _ q; exact ⟨vs, LObj.isList g, r⟩
  · cases e; rename_i q; exact w.holds _ _ q
  · cases e
theorem W.mlist {h₀ : Heap} {σ : Hp} {h : Heap} (w : W h₀ σ h) {a : Addr} {xs : List V} (e : σ a = some (.list xs)) : ∃ (vs : List Value) (n : Nat), h.get? a = some (LObj vs n) ∧ Reps h vs xs := w.holds _ _ e
/-- a mutable list of σ changed by a map of its items -/
theorem W.mapSeq {h₀ : Heap} {σ : Hp} {h : Heap} (w : W h₀ σ h) {a : Addr} {xs : List V} (e : σ a = some (.list xs)) {vs : List Value} {n : Nat} (g : h.get? a = some (LObj vs n)) (f : Array Value → Array Value) {ys : List V}
    (r : Reps h (f vs.toArray).toList ys) (sm : ys.length ≤ BIG) : Step h₀ σ h (upd σ a (.list ys)) (h.update a (Obj.mapSeq f)) :=
  w.change ⟨_, e, rfl⟩ (Heap.SameBut.update ..).extBut (fun k => by
    obtain ⟨m, q⟩ := LObj.update g f
    exact ⟨_, m, q, r.tups (tup_keep w k)⟩) sm
theorem W.len {h₀ : Heap} {σ : Hp} {h : Heap} (w : W h₀ σ h) {a : Addr} {xs : List V} (e : listAt σ a = some xs) : xs.length ≤ BIG := by
  unfold listAt at e
  split at e
  · cases e; rename_i q; exact w.small _ _ q
  · cases e; rename_i q; exact w.small _ _ q
  · cases e

/-! N2 -/
/-- room of the machine for n calls more -/
structure Room (A : Around) (n : Nat) : Prop where
  handled : A.handled = none
  depth : A.depth + n ≤ 800
  units : A.units + 8 * n + 5 ≤ 9000
  env : ∃ env l, A.frames = some (env :: l) ∧ env.scope.isGenerator = false ∧ env.scope.isCoroutine = false ∧ env.builtins = builtinsNs ∧ env.globals = mainGlobals
/-- the same, seen from within a builtin -/
structure RoomW (A : Around) (n : Nat) : Prop where
  handled : A.handled = none
  depth : A.depth + n ≤ 800
  units : A.units + 8 * n ≤ 9000
  env : ∃ env l, A.frames = some (env :: l) ∧ env.scope.isGenerator = false ∧ env.scope.isCoroutine = false ∧ env.builtins = builtinsNs ∧ env.globals = mainGlobals
theorem Room.weak {A : Around} {n : Nat} (r : Room A n) : RoomW A n := ⟨r.handled, r.depth, by have := r.units; omega, r.env⟩
theorem RoomW.le {A : Around} {n m : Nat} (r : RoomW A n) (h : m ≤ n) : RoomW A m := ⟨r.handled, by have := r.depth; omega, by have := r.units; omega, r.env⟩
/-- the ground -/
structure Gnd (prog : Program) (h₀ : Heap) (mg mb : Str → Option Value) : Prop where
  g : h₀.Ns mainGlobals mg
  b : h₀.Ns builtinsNs mb
  nolimit : h₀.NoLimit
  seer : h₀.NoSeer
  tree : prog.given.tree = none
  boot : ∀ x : Str, x ≠ "__name__" → mb x = bootBuiltins x

inductive PV (h₀ : Heap) (σ : Hp) (s : Shared) (Q : V → Hp → Prop) (v : Value) (s' : Shared) : Prop
  | mk (x : V) (σ' : Hp) (h1 : Rep s'.heap v x) (h2 : (Step h₀ σ s.heap σ' s'.heap ∧ Sm s s')) (h3 : Q x σ') : PV h₀ σ s Q v s'
noncomputable def E0 : Value → Shared → Prop := fun _ _ => False
theorem BIG_le : BIG ≤ sizeLine := by decide
theorem big_line {n : Nat} (h : n ≤ BIG) : n ≤ sizeLine := Nat.le_trans h BIG_le
noncomputable def newL (xs : List V) (Q : V → Hp → Prop) (σ : Hp) : Prop := xs.length ≤ BIG ∧ ∀ a, σ a = none → Q (.ref a) (upd σ a (.list xs))

section
variable {prog : Program} {w : World} {A : Around} {s : Shared} {h₀ : Heap} {mg mb : Str → Option Value} {σ : Hp} {Q : V → Hp → Prop}

theorem PV.same {v : Value} {x : V} (hw : W h₀ σ s.heap) (r : Rep s.heap v x) (q : Q x σ) (tk : Nat) : PV h₀ σ s Q v { s with toks := tk } := ⟨x, σ, r, ⟨.refl hw, .rfl⟩, q⟩
theorem PV.same' {v : Value} {x : V} (hw : W h₀ σ s.heap) (r : Rep s.heap v x) (q : Q x σ) : PV h₀ σ s Q v s := ⟨x, σ, r, ⟨.refl hw, .rfl⟩, q⟩
/-- a new list behind a push -/
theorem PV.push (hw : W h₀ σ s.heap) {vs : List Value} {xs : List V} {n : Nat} (r : Reps s.heap vs xs) (q : newL xs Q σ) (tk : Nat) :
    PV h₀ σ s Q (.ref s.heap.objs.size) { s with heap := s.heap.push (LObj vs n), toks := tk } := by
  have k : ∀ b o, s.heap.get? b = some o → (s.heap.push (LObj vs n)).get? b = some o := fun b o e => Heap.get?_push_of_some _ e
  have x : Step h₀ σ s.heap (upd σ s.heap.objs.size (.list xs)) (s.heap.push (LObj vs n)) :=
    hw.alloc k (get_push_none _) ⟨vs, n, Heap.get?_push_size _ rfl, r.tups (fun a o e _ => k a o e)⟩ q.1
  exact ⟨_, _, .ref _, ⟨x, Eq.refl _, Eq.refl _⟩, q.2 _ (hw.fresh (get_push_none _))⟩
/-- a new list at any fresh address -/
theorem PV.new (hw : W h₀ σ s.heap) {vs : List Value} {xs : List V} {n : Nat} {a : Addr} {s' : Shared} (k : ∀ b o, s.heap.get? b = some o → s'.heap.get? b = some o) (f : s.heap.get? a = none)
    (g : s'.heap.get? a = some (LObj vs n)) (r : Reps s.heap vs xs) (q : newL xs Q σ) (m : Sm s s' := by exact ⟨rfl, rfl⟩) : PV h₀ σ s Q (.ref a) s' :=
  ⟨_, _, .ref _, ⟨hw.alloc (o := .list xs) k f ⟨vs, n, g, r.tups (fun a o e _ => k a o e)⟩ q.1, m⟩, q.2 _ (hw.fresh f)⟩

theorem reps_replicate {h : Heap} {v : Value} {x : V} (r : Rep h v x) : ∀ n : Nat, Reps h (List.replicate n v) (List.replicate n x)
  | 0 => .nil
  | n + 1 => .cons r (reps_replicate r n)

/-- what an operator asks, told by the machine itself -/
structure BinS (op : Operator) (a b : V) (Q : V → Hp → Prop) (σ : Hp) : Prop where
  go : ∀ ⦃prog : Program⦄ ⦃w : World⦄ ⦃A : Around⦄ ⦃s : Shared⦄ ⦃h₀ : Heap⦄ ⦃mg mb : Str → Option Value⦄ ⦃n : Nat⦄ ⦃va vb : Value⦄, Gnd prog h₀ mg mb → Room A n → W h₀ σ s.heap → Rep s.heap va a → Rep s.heap vb b →
  wpAny (model prog w) A (binaryOp op va vb) (PV h₀ σ s Q) E0 s
noncomputable def binI (op : Operator) (x y : Int) (Q : V → Hp → Prop) (σ : Hp) : Prop := match op with
  | .Add => Q (.int (x + y)) σ
  | .Sub => Q (.int (x - y)) σ
  | .Mult => IntMulOk x y ∧ Q (.int (x * y)) σ
  | .FloorDiv => y ≠ 0 ∧ Q (.int (x.fdiv y)) σ
  | .Mod => y ≠ 0 ∧ Q (.int (x.fmod y)) σ
  | .RShift => 0 ≤ x ∧ y = 1 ∧ Q (.int (x / 2)) σ
  | .Pow => 0 ≤ y ∧ y ≤ 1000 ∧ x.natAbs < 2 ^ 64 ∧ Q (.int (x ^ y.toNat)) σ
  | _ => False
noncomputable def opBin (op : Operator) (a b : V) (Q : V → Hp → Prop) (σ : Hp) : Prop := match a, b with
  | .int x, .int y => binI op x y Q σ
  | a, b => BinS op a b Q σ

theorem pylong (G : Gnd prog h₀ mg mb) (hw : W h₀ σ s.heap) {n : Nat} (R : Room A n) : PylongRoom (model prog w) A s := by
  obtain ⟨env, l, h1, h2, h3, h4, h5⟩ := R.env
  refine PylongRoom.of (G.nolimit.keeps hw.stays) (by have := R.depth; show A.depth + 100 < 1000; omega) (SeerAt.of (G.seer.keeps hw.stays) G.tree h1 h2 h3 h4 h5)

theorem opBin_ok (G : Gnd prog h₀ mg mb) {n : Nat} (R : Room A n) (hw : W h₀ σ s.heap) {op : Operator} {a b : V} {va vb : Value} (ra : Rep s.heap va a) (rb : Rep s.heap vb b) (h : opBin op a b Q σ) :
    wpAny (model prog w) A (binaryOp op va vb) (PV h₀ σ s Q) E0 s := by
  unfold opBin at h
  split at h
  · obtain ⟨ta, rfl⟩ := ra.iint
    obtain ⟨tb, rfl⟩ := rb.iint
    cases op with
    | Add => exact add_int (PV.same hw (.int _ _) h _)
    | Sub => exact sub_int' (PV.same hw (.int _ _) h _)
    | Mult => exact mul_int (PV.same hw (.int _ _) h.2 _) h.1
    | FloorDiv => exact floordiv_int h.1 (PV.same hw (.int _ _) h.2 _) (.inr (pylong G hw R))
    | Mod => exact mod_int' h.1 (PV.same hw (.int _ _) h.2 _)
    | RShift => obtain ⟨h1, rfl, h3⟩ := h; exact wpAny_rshift1_int h1 (PV.same hw (.int _ _) h3 _)
    | Pow => exact pow_int_small h.1 (by have := h.2.1; omega) h.2.2.1 (PV.same hw (.int _ _) h.2.2.2 _)
    | _ => exact h.elim
  · exact h.go G R hw ra rb
theorem add_lists {x y : Addr} {xs ys : List V} (e1 : listAt σ x = some xs) (e2 : listAt σ y = some ys) (q : newL (xs ++ ys) Q σ) : opBin .Add (.ref x) (.ref y) Q σ := by
  refine BinS.mk ?_
  intro prog w A s h₀ mg mb n va vb G R hw ra rb
  obtain rfl := ra.iref
  obtain rfl := rb.iref
  obtain ⟨vs, hl, r1⟩ := hw.list e1
  obtain ⟨ws, hb, r2⟩ := hw.list e2
  have hsz : vs.length + ws.length ≤ sizeLine := big_line (by have := q.1; rw [List.length_append] at this; rw [r1.length, r2.length]; exact this)
  obtain ⟨⟨cls, dd, data, sl⟩, ho, hc, n, hd⟩ := id hl
  obtain ⟨⟨cls2, dd2, data2, sl2⟩, ho2, hc2, n2, hd2⟩ := id hb
  simp only at hc hd hc2 hd2
  subst hc hd hc2 hd2
  have e : vs.toArray ++ ws.toArray = (vs ++ ws).toArray := by simp
  refine concat_meets ⟨_, ho, rfl⟩ ⟨_, ho2, rfl⟩ noFill_list_add seq_list_add PySem.F.slot_list_add PySem.F.entry_list_add (PySem.F.args_list_add_2 _ _) (list_addW x y vs.toArray ws.toArray n n2 dd dd2 sl sl2 (by simpa using hsz)) ⟨ho, ho2, ?_⟩
  rw [e]
  exact PV.push (n := 0) hw (r1.append r2) q _
end

/-! N3 -/
/-! data, for == -/
mutual
inductive Dat (σ : Hp) : V → PyData → Prop
  | none : Dat σ .none .none
  | bool (b : Bool) : Dat σ (.bool b) (.bool b)
  | int (i : Int) : Dat σ (.int i) (.int i)
  | str (s : Str) : PyData.strOk s = true → Dat σ (.str s) (.str s)
  | tup {xs : List V} {ds : List PyData} : Dats σ xs ds → Dat σ (.tup xs) (.tuple ds)
  | list {a : Addr} {xs : List V} {ds : List PyData} : listAt σ a = some xs → Dats σ xs ds → Dat σ (.ref a) (.list ds)
inductive Dats (σ : Hp) : List V → List PyData → Prop
  | nil : Dats σ [] []
  | cons {x : V} {d : PyData} {xs : List V} {ds : List PyData} : Dat σ x d → Dats σ xs ds → Dats σ (x :: xs) (d :: ds)
end
mutual
theorem Dat.lay {σ : Hp} : ∀ {x : V} {d : PyData}, Dat σ x d → d.canLay0 = true
  | _, _, .none => by simp [PyData.canLay0]
  | _, _, .bool _ => by simp [PyData.canLay0]
  | _, _, .int _ => by simp [PyData.canLay0]
  | _, _, .str _ h => by simpa [PyData.canLay0] using h
  | _, _, .tup h => by simpa [PyData.canLay0] using Dats.lay h
  | _, _, .list _ h => by simpa [PyData.canLay0] using Dats.lay h
theorem Dats.lay {σ : Hp} : ∀ {xs : List V} {ds : List PyData}, Dats σ xs ds → PyData.canLayAll0 ds = true
  | _, _, .nil => by simp [PyData.canLayAll0]
  | _, _, .cons a b => by simp [PyData.canLayAll0, Dat.lay a, Dats.lay b]
end
mutual
theorem Dat.reads {h₀ : Heap} {σ : Hp} {h : Heap} (w : W h₀ σ h) : ∀ {x : V} {d : PyData}, Dat σ x d → ∀ {v : Value}, Rep h v x → ∃ as, Reads h v d as
  | _, _, .none => fun r => by obtain rfl := r.inone; exact ⟨_, .none⟩
  | _, _, .bool _ => fun r => by obtain rfl := r.ibool; exact ⟨_, .bool _⟩
  | _, _, .int _ => fun r => by obtain ⟨t, rfl⟩ := r.iint; exact ⟨_, .int _ _⟩
  | _, _, .str _ _ => fun r => by obtain ⟨t, rfl⟩ := r.istr; exact ⟨_, .str _ _⟩
  | _, _, .tup h1 => fun r => by
    obtain ⟨ta, vs, rfl, y, r⟩ := r.itup
    obtain ⟨as, q⟩ := Dats.reads w h1 r
    obtain ⟨o, e, c, n, dd⟩ := y
    exact ⟨_, .tuple e c dd q⟩
  | _, _, .list e h1 => fun r => by
    obtain rfl := r.iref
    obtain ⟨vs, ⟨o, e, c, n, dd⟩, r⟩ := w.list e
    obtain ⟨as, q⟩ := Dats.reads w h1 r
    exact ⟨_, .list e c dd q⟩
theorem Dats.reads {h₀ : Heap} {σ : Hp} {h : Heap} (w : W h₀ σ h) : ∀ {xs : List V} {ds : List PyData}, Dats σ xs ds → ∀ {vs : List Value}, Reps h vs xs → ∃ as, ReadsAll h vs ds as
  | _, _, .nil => fun r => by obtain rfl := r.inil; exact ⟨_, .nil⟩
  | _, _, .cons a b => fun r => by
    obtain ⟨u, us, rfl, r, rs⟩ := r.icons
    obtain ⟨as, q⟩ := Dat.reads w a r
    obtain ⟨bs, q'⟩ := Dats.reads w b rs
    exact ⟨_, .cons q q'⟩
end

/-! items -/
noncomputable def nth (xs : List V) (k : Int) : Option V := if 0 ≤ k then xs[k.toNat]? else if -(xs.length : Int) ≤ k then xs[(k + xs.length).toNat]? else none
theorem nth_lt {xs : List V} {k : Int} {x : V} (h : nth xs k = some x) : -(xs.length : Int) ≤ k ∧ k < xs.length := by
  unfold nth at h
  split at h
  · have := (List.getElem?_eq_some_iff.mp h).1; omega
  · split at h
    · omega
    · cases h
theorem seqIndex_pos {k : Int} {n : Nat} (h0 : 0 ≤ k) (h1 : k < n) : seqIndex? k n = some k.toNat := by
  unfold seqIndex?
  dsimp only
  rw [if_neg (by omega : ¬ k < 0)]
  rw [if_pos (by simp only [Bool.and_eq_true, decide_eq_true_eq]; omega)]
/-- what a subscript asks -/
structure opSub (o i : V) (Q : V → Hp → Prop) (σ : Hp) : Prop where
  go : ∀ ⦃prog : Program⦄ ⦃w : World⦄ ⦃A : Around⦄ ⦃s : Shared⦄ ⦃h₀ : Heap⦄ ⦃vo vi : Value⦄ ⦃value slice : Expr⦄, Rep s.heap vo o → Rep s.heap vi i → W h₀ σ s.heap →
  (∀ o i, subscripted slice false o i = operate [o, i] (getItem o i)) → wpAny (model prog w) A (subscriptTail value slice vo vi) (PV h₀ σ s Q) E0 s
section
variable {prog : Program} {w : World} {A : Around} {s : Shared} {h₀ : Heap} {mg mb : Str → Option Value} {σ : Hp} {Q : V → Hp → Prop}

theorem getList_ok {a : Addr} {k : Int} {u : Tok} {xs : List V} {x : V} (hw : W h₀ σ s.heap) (e : listAt σ a = some xs) (hx : nth xs k = some x) (q : Q x σ) :
    wpAny (model prog w) A (getItem (.ref a) (.int k u)) (PV h₀ σ s Q) E0 s := by
  obtain ⟨vs, hl, r⟩ := hw.list e
  have hb := hw.len e
  have hk := nth_lt hx
  have hlen := r.length
  unfold BIG at hb
  unfold nth at hx
  split at hx
  · obtain ⟨v, e1, rr⟩ := r.get hx
    exact wpAny_getItem_list hl (by assumption) (by omega) (by simpa using e1) (PV.same' hw rr q)
  · rename_i hneg
    rw [if_pos hk.1] at hx
    obtain ⟨v, e1, rr⟩ := r.get hx
    exact wpAny_getItem_list_neg hl (by omega) (by simp; omega) (by omega) (by simpa [hlen] using e1) (PV.same' hw rr q)

theorem sub_list {a : Addr} {k : Int} {xs : List V} {x : V} (e : listAt σ a = some xs) (hx : nth xs k = some x) (q : Q x σ) : opSub (.ref a) (.int k) Q σ := by
  refine opSub.mk ?_
  intro prog w A s h₀ vo vi value slice ro ri hw hs
  obtain rfl := ro.iref
  obtain ⟨ti, rfl⟩ := ri.iint
  obtain ⟨vs, hl, r⟩ := hw.list e
  exact tail_any hl.typeIs slot_list_getitem.lookup (getList_ok hw e hx q) (hs _ _)
theorem sub_tup {xs : List V} {k : Int} {x : V} (hb : xs.length ≤ BIG) (hx : nth xs k = some x) (q : Q x σ) : opSub (.tup xs) (.int k) Q σ := by
  refine opSub.mk ?_
  intro prog w A s h₀ vo vi value slice ro ri hw hs
  obtain ⟨ti, rfl⟩ := ri.iint
  obtain ⟨oa, vs, rfl, y, r⟩ := ro.itup
  have hk := nth_lt hx
  have hlen := r.length
  unfold BIG at hb
  refine tail_any y.typeIs slot_tuple_getitem.lookup ?_ (hs _ _)
  unfold nth at hx
  split at hx
  · obtain ⟨v, e1, rr⟩ := r.get hx
    exact getItem_tuple y (by omega) (by omega) (j := k.toNat) (by simp; exact seqIndex_pos (by omega) (by omega)) (by simpa using e1) (PV.same' hw rr q)
  · rw [if_pos hk.1] at hx
    obtain ⟨v, e1, rr⟩ := r.get hx
    exact getItem_tuple y (by omega) (by omega) (j := (k + xs.length).toNat) (by simp [hlen]; exact seqIndex_neg (by omega) (by omega)) (by simpa using e1) (PV.same' hw rr q)
inductive PU (h₀ : Heap) (σ : Hp) (s : Shared) (Q : Hp → Prop) (s' : Shared) : Prop
  | mk (σ' : Hp) (h1 : (Step h₀ σ s.heap σ' s'.heap ∧ Sm s s')) (h2 : Q σ') : PU h₀ σ s Q s'
structure opSet (o i v : V) (Q : Hp → Prop) (σ : Hp) : Prop where
  go : ∀ ⦃prog : Program⦄ ⦃w : World⦄ ⦃A : Around⦄ ⦃s : Shared⦄ ⦃h₀ : Heap⦄ ⦃vo vi vv : Value⦄, Rep s.heap vo o → Rep s.heap vi i → Rep s.heap vv v → W h₀ σ s.heap →
  wpAny (model prog w) A (setItem vo vi vv) (fun _ => PU h₀ σ s Q) E0 s
theorem set_list {a : Addr} {k : Int} {v : V} {xs : List V} {P : Hp → Prop} (e : σ a = some (.list xs)) (h0 : 0 ≤ k) (hn : k < xs.length) (q : P (upd σ a (.list (xs.set k.toNat v)))) : opSet (.ref a) (.int k) v P σ := by
  refine opSet.mk ?_
  intro prog w A s h₀ vo vi vv ro ri rv hw
  obtain rfl := ro.iref
  obtain ⟨t, rfl⟩ := ri.iint
  obtain ⟨vs, n, g, r⟩ := hw.mlist e
  have hb := hw.len (listAt_list e)
  have hlen := r.length
  unfold BIG at hb
  have hl : s.heap.IsList a vs.toArray := LObj.isList g
  unfold setItem
  try with_reducible refine wpAny_holding ?_
  first | refine wpAny_bind (wpAny_pure ?_) | skip
  refine wpAny_bind (wpAny_sequenceKey hl.typeIs (by decide) ?_)
  refine wpAny_bind (wpAny_callSpecial?_slot (name := Str.ofString "__setitem__") hl.typeIs slot_list_setitem
    (wpAny_call_entry slot_list_setitem hl.typeIs entry_list_setitem ?_ (args_list_setitem _ _ _)))
  show wpAny _ _ (Builtin.List.listSubscript? (.int k t) >>= _) _ _ s
  refine wpAny_bind (wpAny_listSubscript_int (fitsIndex_of h0 (by omega)) ?_)
  obtain ⟨j, rfl⟩ := Int.eq_ofNat_of_zero_le h0
  have hj : j < vs.toArray.size := by simp; omega
  have hx' : vs.toArray[j]? = some vs.toArray[j] := Array.getElem?_eq_getElem hj
  show wpAny _ _ ((seqItemAt a j >>= fun r => pure (r.map (j, ·))) >>= _) _ _ s
  refine wpAny_bind (wpAny_bind (wpAny_seqItemAt (items := vs.toArray) (n := n) g rfl (wpAny_pure ?_)))
  rw [hx']
  show wpAny _ _ (setSeqItemAt a j vv >>= _) _ _ s
  refine wpAny_bind (wpAny_setSeqItemAt (items := vs.toArray) (n := n) g rfl ?_)
  have fin : PU h₀ σ s P { s with heap := s.heap.update a (Obj.mapSeq (·.setIfInBounds j vv)) } :=
    ⟨_, ⟨hw.mapSeq (ys := xs.set j v) e g (·.setIfInBounds j vv) (by simpa using r.set j rv) (by simp; unfold BIG; omega), Eq.refl _, Eq.refl _⟩, q⟩
  first
    | exact wpAny_bind (wpAny_pure (wpAny_pure ⟨.none, rfl, wpAny_pure fin⟩))
    | exact wpAny_pure ⟨.none, rfl, wpAny_pure fin⟩

/-! comparisons -/
structure CmpS (op : CmpOp) (a b : V) (Q : V → Hp → Prop) (σ : Hp) : Prop where
  go : ∀ ⦃prog : Program⦄ ⦃w : World⦄ ⦃A : Around⦄ ⦃s : Shared⦄ ⦃h₀ : Heap⦄ ⦃n : Nat⦄ ⦃va vb : Value⦄, Room A n → Rep s.heap va a → Rep s.heap vb b → W h₀ σ s.heap →
  wpAny (model prog w) A (compareOp op va vb) (PV h₀ σ s Q) E0 s
noncomputable def cmpI (op : CmpOp) (x y : Int) (Q : V → Hp → Prop) (σ : Hp) : Prop := match op with
  | .Lt => Q (.bool (decide (x < y))) σ
  | .LtE => Q (.bool (decide (x ≤ y))) σ
  | .Gt => Q (.bool (decide (y < x))) σ
  | .GtE => Q (.bool (decide (y ≤ x))) σ
  | .Eq => Q (.bool (x == y)) σ
  | .NotEq => Q (.bool (x != y)) σ
  | _ => False
noncomputable def opCmp (op : CmpOp) (a b : V) (Q : V → Hp → Prop) (σ : Hp) : Prop := match a, b with
  | .int x, .int y => cmpI op x y Q σ
  | a, b => CmpS op a b Q σ
theorem opCmp_ok {n : Nat} (R : Room A n) {op : CmpOp} {va vb : Value} {a b : V} (ra : Rep s.heap va a) (rb : Rep s.heap vb b) (hw : W h₀ σ s.heap) (h : opCmp op a b Q σ) :
    wpAny (model prog w) A (compareOp op va vb) (PV h₀ σ s Q) E0 s := by
  unfold opCmp at h
  split at h
  · obtain ⟨ta, rfl⟩ := ra.iint
    obtain ⟨tb, rfl⟩ := rb.iint
    cases op with
    | Lt => exact lt_int (PV.same' hw (.bool _) h)
    | LtE => exact le_int (PV.same' hw (.bool _) h)
    | Gt => exact gt_int (PV.same' hw (.bool _) h)
    | GtE => exact ge_int (PV.same' hw (.bool _) h)
    | Eq => exact eq_int (PV.same' hw (.bool _) h)
    | NotEq => exact ne_int (PV.same' hw (.bool _) h)
    | _ => exact h.elim
  · exact h.go R ra rb hw
/-- equality of data -/
theorem eq_dat {a b : V} {d e : PyData} (h1 : Dat σ a d) (h2 : Dat σ b e) (hd : d.depth ≤ 60) (q : Q (.bool (PyData.eqv d e)) σ) : CmpS .Eq a b Q σ := by
  refine CmpS.mk ?_
  intro prog w A s h₀ n va vb R ra rb hw
  obtain ⟨as, r1⟩ := h1.reads hw ra
  obtain ⟨bs, r2⟩ := h2.reads hw rb
  have hu : A.units ≤ 9000 := by have := R.units; omega
  exact SeqAt.compareEq_reads r1 r2 h1.lay h2.lay (by show _ < 9900; omega) (PV.same' hw (.bool _) q)
theorem ne_dat {a b : V} {d e : PyData} (h1 : Dat σ a d) (h2 : Dat σ b e) (hd : d.depth ≤ 60) (q : Q (.bool (!PyData.eqv d e)) σ) : CmpS .NotEq a b Q σ := by
  refine CmpS.mk ?_
  intro prog w A s h₀ n va vb R ra rb hw
  obtain ⟨as, r1⟩ := h1.reads hw ra
  obtain ⟨bs, r2⟩ := h2.reads hw rb
  have hu : A.units ≤ 9000 := by have := R.units; omega
  exact SeqAt.compareNe_reads r1 r2 h1.lay h2.lay (by show _ < 9900; omega) (PV.same' hw (.bool _) q)

noncomputable def truth (v : V) (Q : Bool → Hp → Prop) (σ : Hp) : Prop :=
  match v with
  | .none => Q false σ
  | .bool b => Q b σ
  | .int i => Q (i != 0) σ
  | .ref a => ∃ xs, listAt σ a = some xs ∧ Q (!xs.isEmpty) σ
  | _ => False
inductive PB (h₀ : Heap) (σ : Hp) (s : Shared) (Q : Bool → Hp → Prop) (b : Bool) (s' : Shared) : Prop
  | mk (σ' : Hp) (h1 : (Step h₀ σ s.heap σ' s'.heap ∧ Sm s s')) (h2 : Q b σ') : PB h₀ σ s Q b s'
theorem truth_ok {vv : Value} {v : V} {P : Bool → Hp → Prop} (rv : Rep s.heap vv v) (hw : W h₀ σ s.heap) (h : truth v P σ) :
    wpAny (model prog w) A (truthy vv) (PB h₀ σ s P) E0 s := by
  unfold truth at h
  split at h
  · obtain rfl := rv.inone; exact truthy_none ⟨_, ⟨.refl hw, Eq.refl _, Eq.refl _⟩, h⟩
  · obtain rfl := rv.ibool; exact wpAny_truthy_bool ⟨_, ⟨.refl hw, Eq.refl _, Eq.refl _⟩, h⟩
  · obtain ⟨t, rfl⟩ := rv.iint; exact truthy_int ⟨_, ⟨.refl hw, Eq.refl _, Eq.refl _⟩, h⟩
  · obtain rfl := rv.iref
    obtain ⟨xs, e, q⟩ := h
    obtain ⟨vs, hl, r⟩ := hw.list e
    have hb := hw.len e
    have hlen := r.length
    unfold BIG at hb
    refine wpAny_truthy_list hl (by simp; omega) ⟨_, ⟨.refl hw, Eq.refl _, Eq.refl _⟩, ?_⟩
    have : (!vs.toArray.isEmpty) = !xs.isEmpty := by
      cases xs with
      | nil => rw [r.inil]; rfl
      | cons x xs => obtain ⟨u, us, rfl, _⟩ := r.icons; rfl
    rw [this]; exact q
  · exact h.elim
end

/-! N4 -/
inductive BI where
  | len | min | max | sum | range | list | abs | sorted | divmod | reversed | zip | iter | object | str | isinstance
  deriving DecidableEq
noncomputable def BI.val : BI → Value
  | .len => .builtin "len"
  | .min => .builtin "min"
  | .max => .builtin "max"
  | .sum => .builtin "sum"
  | .range => .type "range"
  | .list => .type "list"
  | .abs => .builtin "abs"
  | .sorted => .builtin "sorted"
  | .divmod => .builtin "divmod"
  | .reversed => .type "reversed"
  | .zip => .type "zip"
  | .iter => .builtin "iter"
  | .object => .type "object"
  | .str => .type "str"
  | .isinstance => .builtin "isinstance"
noncomputable def BI.name : BI → Str
  | .len => "len" | .min => "min" | .max => "max" | .sum => "sum" | .range => "range" | .list => "list" | .abs => "abs" | .sorted => "sorted" | .divmod => "divmod" | .reversed => "reversed" | .zip => "zip" | .iter => "iter" | .object => "object" | .str => "str" | .isinstance => "isinstance"
noncomputable def BI.isType : BI → Bool
  | .range => true | .list => true | .reversed => true | .zip => true | .object => true | .str => true | _ => false

noncomputable def rlen (a b c : Int) : Nat := if 0 < c then (b - a).toNat else (a - b).toNat
noncomputable def rok (a b c : Int) : Prop := (c = 1 ∨ c = -1) ∧ a.natAbs ≤ 1000000000 ∧ b.natAbs ≤ 1000000000
theorem rok_small {a b c : Int} (h : rok a b c) : Builtin.Range.small a b c = true := by
  obtain ⟨h1, h2, h3⟩ := h
  rcases h1 with rfl | rfl
  · exact small_one (by omega) (by omega) (by omega) (by omega)
  · unfold Builtin.Range.small Builtin.Range.rangeSize Builtin.Range.rangeFitsLong
    rw [if_neg (by decide)]
    simp only [Bool.and_eq_true, decide_eq_true_eq, Bool.or_eq_true, beq_iff_eq]
    split <;> simp <;> omega
theorem rok_size {a b c : Int} (h : rok a b c) : Builtin.Range.rangeSize a b c = (rlen a b c : Nat) := by
  obtain ⟨h1, h2, h3⟩ := h
  unfold Builtin.Range.rangeSize rlen
  rcases h1 with rfl | rfl
  · simp; split <;> omega
  · simp; split <;> omega

section
variable {prog : Program} {w : World} {A : Around} {s : Shared} {h₀ : Heap} {mg mb : Str → Option Value} {σ : Hp} {Q : V → Hp → Prop}

/-- what a call asks -/
structure CallS (fv : Value) (args : List V) (Q : V → Hp → Prop) (σ : Hp) : Prop where
  go : ∀ ⦃prog : Program⦄ ⦃w : World⦄ ⦃A : Around⦄ ⦃s : Shared⦄ ⦃h₀ : Heap⦄ ⦃mg mb : Str → Option Value⦄ ⦃n : Nat⦄ ⦃vargs : List Value⦄, Gnd prog h₀ mg mb → Room A n → Reps s.heap vargs args → W h₀ σ s.heap →
  wpAny (model prog w) A (call fv vargs) (PV h₀ σ s Q) E0 s
noncomputable def rngC (args : List V) (Q : V → Hp → Prop) (σ : Hp) : Prop := match args with
  | [.int b] => Q (.rng 0 b 1) σ
  | [.int a, .int b] => Q (.rng a b 1) σ
  | [.int a, .int b, .int c] => c ≠ 0 ∧ Q (.rng a b c) σ
  | _ => False
noncomputable def opCall (f : BI) (args : List V) (Q : V → Hp → Prop) (σ : Hp) : Prop := match f with
  | .range => rngC args Q σ
  | f => CallS f.val args Q σ

theorem reps_ints {h : Heap} : ∀ {vs : List Value} {ns : List Int}, Reps h vs (ns.map .int) → IntsAre vs ns
  | vs, [], r => by rw [r.inil]; exact .nil
  | vs, n :: ns, r => by
    obtain ⟨v, us, rfl, r, rs⟩ := Reps.icons r
    obtain ⟨t, rfl⟩ := r.iint
    exact .cons _ _ (reps_ints rs)
theorem one_rep {h : Heap} {vs : List Value} {x : V} (r : Reps h vs [x]) : ∃ v, vs = [v] ∧ Rep h v x := by
  obtain ⟨v, us, rfl, r1, r2⟩ := r.icons
  rw [r2.inil]; exact ⟨_, rfl, r1⟩
theorem two_rep {h : Heap} {vs : List Value} {x y : V} (r : Reps h vs [x, y]) : ∃ v u, vs = [v, u] ∧ Rep h v x ∧ Rep h u y := by
  obtain ⟨v, us, rfl, r1, r2⟩ := r.icons
  obtain ⟨u, rfl, q⟩ := one_rep r2; exact ⟨_, _, rfl, r1, q⟩
theorem range_call {args : List V} (h : rngC args Q σ) : CallS (.type "range") args Q σ := by
  refine CallS.mk ?_
  intro prog w A s h₀ mg mb n vargs G R ra hw
  unfold rngC at h
  split at h
  · obtain ⟨v, rfl, r⟩ := one_rep ra; obtain ⟨t, rfl⟩ := r.iint
    exact call_range_1 ⟨_, σ, .rng (Heap.get?_push_size _ rfl), ⟨hw.extend (fun b o e => Heap.get?_push_of_some _ e), Eq.refl _, Eq.refl _⟩, h⟩
  · obtain ⟨v, u, rfl, r, r'⟩ := two_rep ra; obtain ⟨t, rfl⟩ := r.iint; obtain ⟨t', rfl⟩ := r'.iint
    exact call_range_2 ⟨_, σ, .rng (Heap.get?_push_size _ rfl), ⟨hw.extend (fun b o e => Heap.get?_push_of_some _ e), Eq.refl _, Eq.refl _⟩, h⟩
  · obtain ⟨v1, us, rfl, r1, r2⟩ := ra.icons
    obtain ⟨v, u, rfl, r, r'⟩ := two_rep r2; obtain ⟨t, rfl⟩ := r.iint; obtain ⟨t', rfl⟩ := r'.iint; obtain ⟨t1, rfl⟩ := r1.iint
    exact call_range_3 h.1 ⟨_, σ, .rng (Heap.get?_push_size _ rfl), ⟨hw.extend (fun b o e => Heap.get?_push_of_some _ e), Eq.refl _, Eq.refl _⟩, h.2⟩ (.inr (pylong G hw R))
  · exact h.elim
theorem opCall_ok {f : BI} {args : List V} (h : opCall f args Q σ) : CallS f.val args Q σ := by
  cases f with
  | range => exact range_call h
  | _ => exact h
theorem call_len {a : Addr} {xs : List V} (e : listAt σ a = some xs) (q : Q (.int xs.length) σ) : opCall .len [.ref a] Q σ := by
  refine CallS.mk ?_
  intro prog w A s h₀ mg mb n vargs G R ra hw
  obtain ⟨v, rfl, r⟩ := one_rep ra; obtain rfl := r.iref
  obtain ⟨vs, hl, r⟩ := hw.list e
  have hb := hw.len e
  have hlen := r.length
  unfold BIG at hb
  refine Calls.call_len_list hl (by simp; omega) (PV.same hw (.int _ _) ?_ _)
  simp only [List.size_toArray, hlen]; exact q
theorem call_min {a b : Int} (q : Q (.int (if b < a then b else a)) σ) : opCall .min [.int a, .int b] Q σ := by
  refine CallS.mk ?_
  intro prog w A s h₀ mg mb n vargs G R ra hw
  obtain ⟨v, u, rfl, r, r'⟩ := two_rep ra; obtain ⟨t, rfl⟩ := r.iint; obtain ⟨t', rfl⟩ := r'.iint
  refine min_two_ints R.handled fun h' tk k => ?_
  refine ⟨_, σ, ?_, ⟨hw.extend k, Eq.refl _, Eq.refl _⟩, q⟩
  split <;> exact .int _ _
theorem call_sum {a : Addr} {ns : List Int} (e : listAt σ a = some (ns.map .int)) (q : Q (.int ns.sum) σ) : opCall .sum [.ref a] Q σ := by
  refine CallS.mk ?_
  intro prog w A s h₀ mg mb n vargs G R ra hw
  obtain ⟨v, rfl, r⟩ := one_rep ra; obtain rfl := r.iref
  obtain ⟨vs, hl, r⟩ := hw.list e
  have hi := reps_ints r
  obtain ⟨xs, hx⟩ := hi.allInts.items
  rw [hx] at hl
  refine sum_intListG R.handled hl fun h' tk t' k => ?_
  refine ⟨_, σ, .int _ _, ⟨hw.extend k, Eq.refl _, Eq.refl _⟩, ?_⟩
  have e2 : preSum (numAt xs) xs.size = ns.sum := by
    have := hi.numsOf
    rw [show vs = vs.toArray.toList from rfl, hx, nums_intItems] at this
    rw [preSum_eq, List.take_of_length_le (by simp), this]
  rw [e2]; exact q
theorem call_list {a : Addr} {xs : List V} (e : listAt σ a = some xs) (q : newL xs Q σ) : opCall .list [.ref a] Q σ := by
  refine CallS.mk ?_
  intro prog w A s h₀ mg mb n vargs G R ra hw
  obtain ⟨v, rfl, r⟩ := one_rep ra; obtain rfl := r.iref
  obtain ⟨vs, hl, r⟩ := hw.list e
  have hb := hw.len e
  have hlen := r.length
  obtain ⟨o, ho, hc, n, hd⟩ := id hl
  exact call_list_seq _ (.inl rfl) ho hc hd (fun h' c' k g => PV.new (n := c') hw k (get_push_none _) g r q) (by simp; exact big_line (by omega))
inductive Meth where
  | append | extend | pop | index | reverse | sort
  deriving DecidableEq
noncomputable def Meth.name : Meth → Str
  | .append => "append" | .extend => "extend" | .pop => "pop" | .index => "index" | .reverse => "reverse" | .sort => "sort"
noncomputable def Meth.id : Meth → String
  | .append => "list.append" | .extend => "list.extend" | .pop => "list.pop" | .index => "list.index" | .reverse => "list.reverse" | .sort => "list.sort"
/-- what a method asks -/
structure opMeth (m : Meth) (o : V) (args : List V) (Q : V → Hp → Prop) (σ : Hp) : Prop where
  go : ∀ ⦃prog : Program⦄ ⦃w : World⦄ ⦃A : Around⦄ ⦃s : Shared⦄ ⦃h₀ : Heap⦄ ⦃mg mb : Str → Option Value⦄ ⦃n : Nat⦄ ⦃vo : Value⦄ ⦃vargs : List Value⦄, Gnd prog h₀ mg mb → Room A n → Rep s.heap vo o → Reps s.heap vargs args → W h₀ σ s.heap →
  wpAny (model prog w) A (call (.builtin m.id) (vo :: vargs)) (PV h₀ σ s Q) E0 s
theorem m_append {a : Addr} {x : V} {xs : List V} (e : σ a = some (.list xs)) (hb : xs.length < BIG) (q : Q .none (upd σ a (.list (xs ++ [x])))) : opMeth .append (.ref a) [x] Q σ := by
  refine opMeth.mk ?_
  intro prog w A s h₀ mg mb n0 vo vargs G R ro ra hw
  obtain ⟨v, rfl, r1⟩ := one_rep ra
  obtain rfl := ro.iref
  obtain ⟨vs, n, g, r⟩ := hw.mlist e
  have hlen := r.length
  have hsz : vs.length ≤ sizeLine := big_line (by omega)
  refine call_meets PySem.F.slot_list_append ⟨_, g, rfl⟩ PySem.F.entry_list_append (PySem.F.args_list_append_2 _ _) (AutoListH.list_append_list_val_0 _ vs.toArray n _ (by simpa using hsz)) ⟨g, ?_⟩
  exact ⟨_, _, .none, ⟨hw.mapSeq e g _ (by simpa using r.append (.cons r1 .nil)) (by simp; omega), Eq.refl _, Eq.refl _⟩, q⟩
end

/-! M5 -/
/-! what a text asks of a postcondition -/
inductive Tgt where
  | name (i : Nat)
  | tup (is : List Nat)
inductive IK where
  | plain | enum | rev
  deriving DecidableEq
abbrev Frm := List (Option V)

inductive It where
  | lst (a : Addr) (i : Nat)
  | rng (x : Int) (n : Nat) (c : Int)
  | vals (vs : List V)
  | enm (k : Nat) (a : Addr)

noncomputable def itStart (k : IK) (x : V) (Q : It → Hp → Prop) (σ : Hp) : Prop :=
  match k, x with
  | .plain, .ref a => (∃ xs, listAt σ a = some xs) ∧ Q (.lst a 0) σ
  | .plain, .rng a b c => rok a b c ∧ Q (.rng a (rlen a b c) c) σ
  | .plain, .tup vs => Q (.vals vs) σ
  | .enum, .ref a => (∃ xs, σ a = some (.list xs)) ∧ Q (.enm 0 a) σ
  | .rev, .rng a b c => a = 0 ∧ c = 1 ∧ 0 ≤ b ∧ b ≤ 1000000 ∧ Q (.rng (b - 1) b.toNat (-1)) σ
  | _, _ => False

noncomputable def itNext (it : It) (σ : Hp) : Option (Option (V × It)) :=
  match it with
  | .lst a i => match listAt σ a with
    | some xs => (match xs[i]? with | some x => some (some (x, .lst a (i + 1))) | none => some none)
    | none => none
  | .rng _ 0 _ => some none
  | .rng x (n + 1) c => some (some (.int x, .rng (x + c) n c))
  | .vals [] => some none
  | .vals (v :: vs) => some (some (v, .vals vs))
  | .enm k a => match listAt σ a with
    | some xs => (match xs[k]? with | some x => some (some (.tup [.int k, x], .enm (k + 1) a)) | none => some none)
    | none => none

noncomputable def setAll : List Nat → List V → Frm → Frm
  | i :: is, v :: vs, F => setAll is vs (F.set i (some v))
  | _, _, F => F

noncomputable def bindT (t : Tgt) (x : V) (Q : Frm → Prop) (F : Frm) (σ : Hp) : Prop :=
  match t, x with
  | .name i, x => Q (F.set i (some x))
  | .tup is, .tup vs => is.length = vs.length ∧ Q (setAll is vs F)
  | _, _ => False

noncomputable def partV (v : V) (Q : Option Int → Prop) : Prop := match v with | .none => Q .none | .int i => Q (some i) | _ => False
noncomputable def pickL (xs : List V) (lo hi st : Option Int) : List V :=
  (sliceRange (sliceBounds lo hi st xs.length).1 (sliceBounds lo hi st xs.length).2.1 (sliceBounds lo hi st xs.length).2.2).filterMap (xs[·]?)
noncomputable def opSlice (o lo hi st : V) (Q : V → Hp → Prop) (σ : Hp) : Prop :=
  match o with
  | .ref a => ∃ xs, listAt σ a = some xs ∧ partV lo fun l => partV hi fun h => partV st fun s => s ≠ some 0 ∧ newL (pickL xs l h s) Q σ
  | _ => False

abbrev Fns := Nat → List V → (V → Hp → Prop) → Hp → Prop
/-- an expression: as a value, as a test -/
structure PE where
  v : Fns → (V → Hp → Prop) → Frm → Hp → Prop
  t : Fns → (Bool → Hp → Prop) → Frm → Hp → Prop
noncomputable def vE (Φ : Fns) (p : PE) (Q : V → Hp → Prop) (F : Frm) (σ : Hp) : Prop := p.v Φ Q F σ
noncomputable def vT (Φ : Fns) (p : PE) (P : Bool → Hp → Prop) (F : Frm) (σ : Hp) : Prop := p.t Φ P F σ
noncomputable def PE.of (v : Fns → (V → Hp → Prop) → Frm → Hp → Prop) : PE := ⟨v, fun Φ P F σ => v Φ (fun x σ => truth x P σ) F σ⟩
noncomputable def vEs (Φ : Fns) : List PE → (List V → Hp → Prop) → Frm → Hp → Prop
  | [], Q, F, σ => Q [] σ
  | e :: es, Q, F, σ => vE Φ e (fun v σ => vEs Φ es (fun vs σ => Q (v :: vs) σ) F σ) F σ
noncomputable def vO (Φ : Fns) : Option PE → (V → Hp → Prop) → Frm → Hp → Prop
  | .none, Q, F, σ => Q .none σ
  | some e, Q, F, σ => vE Φ e Q F σ
noncomputable def vTs (Φ : Fns) : List PE → (Bool → Hp → Prop) → Frm → Hp → Prop
  | [], Q, F, σ => Q true σ
  | e :: es, Q, F, σ => vT Φ e (fun b σ => if b then vTs Φ es Q F σ else Q false σ) F σ
noncomputable def negQ (Q : V → Hp → Prop) (a : V) (σ : Hp) : Prop := match a with | .int x => Q (.int (-x)) σ | _ => False
noncomputable def look (F : Frm) (i : Nat) (K : V → Prop) : Prop := match F[i]? with | some (some v) => K v | _ => False
noncomputable def frOf (fmap : List (Option Nat)) (F : Frm) : Frm := fmap.map fun j => match j with | some j => (match F[j]? with | some v => v | none => none) | none => none
/-- the turns of a comprehension -/
inductive CompG (Φ : Fns) (ifs : List PE) (elt : PE) (t : Tgt) (F0 : Frm) (Q : V → Hp → Prop) (I : It) (σ : Hp) : Prop
  | mk (Inv : Nat → It → List V → Hp → Prop) (h1 : (∃ n, Inv n I [] σ)) (h2 : ∀ n I acc σ, Inv n I acc σ →
        match itNext I σ with
        | none => False
        | some none => newL acc Q σ
        | some (some (x, I')) => bindT t x (fun F1 => vTs Φ ifs (fun b σ => if b then vE Φ elt (fun y σ => acc.length < BIG ∧ ∃ m, m < n ∧ Inv m I' (acc ++ [y]) σ) F1 σ else ∃ m, m < n ∧ Inv m I' acc σ) F1 σ) F0 σ) : CompG Φ ifs elt t F0 Q I σ
namespace PE
noncomputable def int (i : Int) : PE := .of fun Φ Q F σ => Q (.int i) σ
noncomputable def bool (b : Bool) : PE := .of fun Φ Q F σ => Q (.bool b) σ
noncomputable def none : PE := .of fun Φ Q F σ => Q .none σ
noncomputable def str (s : Str) : PE := .of fun Φ Q F σ => Q (.str s) σ
noncomputable def var (i : Nat) : PE := .of fun Φ Q F σ => look F i (fun v => Q v σ)
noncomputable def bin (op : Operator) (l r : PE) : PE := .of fun Φ Q F σ => vE Φ l (fun a σ => vE Φ r (fun b σ => opBin op a b Q σ) F σ) F σ
noncomputable def neg (e : PE) : PE := .of fun Φ Q F σ => vE Φ e (negQ Q) F σ
noncomputable def not (e : PE) : PE := ⟨fun Φ Q F σ => vT Φ e (fun b σ => Q (.bool (!b)) σ) F σ, fun Φ P F σ => vT Φ e (fun b σ => P (!b) σ) F σ⟩
noncomputable def cmp (op : CmpOp) (l r : PE) : PE := .of fun Φ Q F σ => vE Φ l (fun a σ => vE Φ r (fun b σ => opCmp op a b Q σ) F σ) F σ
noncomputable def and (l r : PE) : PE := ⟨fun Φ Q F σ => vE Φ l (fun a σ => truth a (fun b σ => if b then vE Φ r Q F σ else Q a σ) σ) F σ, fun Φ P F σ => vT Φ l (fun b σ => if b then vT Φ r P F σ else P false σ) F σ⟩
noncomputable def or (l r : PE) : PE := ⟨fun Φ Q F σ => vE Φ l (fun a σ => truth a (fun b σ => if b then Q a σ else vE Φ r Q F σ) σ) F σ, fun Φ P F σ => vT Φ l (fun b σ => if b then P true σ else vT Φ r P F σ) F σ⟩
noncomputable def ite (c a b : PE) : PE := .of fun Φ Q F σ => vT Φ c (fun t σ => if t then vE Φ a Q F σ else vE Φ b Q F σ) F σ
noncomputable def sub (o i : PE) : PE := .of fun Φ Q F σ => vE Φ o (fun a σ => vE Φ i (fun b σ => opSub a b Q σ) F σ) F σ
noncomputable def slice (o : PE) (lo hi st : Option PE) : PE := .of fun Φ Q F σ => vE Φ o (fun a σ => vO Φ lo (fun l σ => vO Φ hi (fun h σ => vO Φ st (fun s σ => opSlice a l h s Q σ) F σ) F σ) F σ) F σ
noncomputable def list (es : List PE) : PE := .of fun Φ Q F σ => vEs Φ es (fun vs σ => newL vs Q σ) F σ
noncomputable def tuple (es : List PE) : PE := .of fun Φ Q F σ => vEs Φ es (fun vs σ => vs.length ≤ BIG ∧ Q (.tup vs) σ) F σ
noncomputable def call (f : BI) (es : List PE) : PE := .of fun Φ Q F σ => vEs Φ es (fun vs σ => opCall f vs Q σ) F σ
noncomputable def ucall (f : Nat) (es : List PE) : PE := .of fun Φ Q F σ => vEs Φ es (fun vs σ => Φ f vs Q σ) F σ
noncomputable def meth (m : Meth) (o : PE) (es : List PE) : PE := .of fun Φ Q F σ => vE Φ o (fun a σ => (∃ b xs, a = .ref b ∧ σ b = some (.list xs)) ∧ vEs Φ es (fun vs σ => opMeth m a vs Q σ) F σ) F σ
noncomputable def comp (fm : List (Option Nat)) (elt : PE) (t : Tgt) (k : IK) (it : PE) (ifs : List PE) : PE := .of fun Φ Q F σ => vE Φ it (fun x σ => itStart k x (fun I σ => CompG Φ ifs elt t (frOf fm F) Q I σ) σ) F σ
end PE
inductive Fl where
  | next | brk | cont
  | ret (v : V)
noncomputable def PS : Type := Fns → (Fl → Frm → Hp → Prop) → Frm → Hp → Prop
noncomputable def vS (Φ : Fns) (p : PS) (Q : Fl → Frm → Hp → Prop) (F : Frm) (σ : Hp) : Prop := p Φ Q F σ
/-- what comes behind a statement -/
structure Seq (fl : Fl) (A B : Prop) : Prop where
  go : match fl with
    | .next => A
    | _ => B
noncomputable def vSs (Φ : Fns) : List PS → (Fl → Frm → Hp → Prop) → Frm → Hp → Prop
  | [], Q, F, σ => Q .next F σ
  | s :: ss, Q, F, σ => vS Φ s (fun fl F σ => Seq fl (vSs Φ ss Q F σ) (Q fl F σ)) F σ
inductive ForG (Φ : Fns) (b : List PS) (t : Tgt) (Q : Fl → Frm → Hp → Prop) (I : It) (F : Frm) (σ : Hp) : Prop
  | mk (Inv : Nat → It → Frm → Hp → Prop) (h1 : (∃ n, Inv n I F σ)) (h2 : ∀ n I F σ, Inv n I F σ →
        match itNext I σ with
        | none => False
        | some none => Q .next F σ
        | some (some (x, I')) => bindT t x (fun F1 => vSs Φ b (fun fl F σ => match fl with
          | .next => ∃ m, m < n ∧ Inv m I' F σ
          | .cont => ∃ m, m < n ∧ Inv m I' F σ
          | .brk => Q .next F σ
          | .ret v => Q (.ret v) F σ) F1 σ) F σ) : ForG Φ b t Q I F σ
inductive WhileG (Φ : Fns) (c : PE) (b : List PS) (Q : Fl → Frm → Hp → Prop) (F : Frm) (σ : Hp) : Prop
  | mk (Inv : Nat → Frm → Hp → Prop) (h1 : (∃ n, Inv n F σ)) (h2 : ∀ n F σ, Inv n F σ →
      vT Φ c (fun t σ => if t then vSs Φ b (fun fl F σ => match fl with
        | .next => ∃ m, m < n ∧ Inv m F σ
        | .cont => ∃ m, m < n ∧ Inv m F σ
        | .brk => Q .next F σ
        | .ret v => Q (.ret v) F σ) F σ else Q .next F σ) F σ) : WhileG Φ c b Q F σ
noncomputable def augI (op : Operator) (x y : Int) (Q : V → Hp → Prop) (σ : Hp) : Prop := match op with
  | .Add => Q (.int (x + y)) σ
  | .Mult => IntMulOk x y ∧ Q (.int (x * y)) σ
  | _ => False
noncomputable def opAug (op : Operator) (a b : V) (Q : V → Hp → Prop) (σ : Hp) : Prop := match a, b with
  | .int x, .int y => augI op x y Q σ
  | _, _ => False
namespace PS
noncomputable def expr (e : PE) : PS := fun Φ R F σ => vE Φ e (fun _ σ => R .next F σ) F σ
noncomputable def assign (t : Tgt) (e : PE) : PS := fun Φ R F σ => vE Φ e (fun v σ => bindT t v (fun F' => R .next F' σ) F σ) F σ
noncomputable def setitem (o i e : PE) : PS := fun Φ R F σ => vE Φ e (fun v σ => vE Φ o (fun ov σ => vE Φ i (fun iv σ => opSet ov iv v (fun σ => R .next F σ) σ) F σ) F σ) F σ
noncomputable def aug (i : Nat) (op : Operator) (e : PE) : PS := fun Φ R F σ => look F i (fun x => vE Φ e (fun b σ => opAug op x b (fun v σ => R .next (F.set i (some v)) σ) σ) F σ)
noncomputable def augsub (o i : PE) (op : Operator) (e : PE) : PS := fun Φ R F σ => vE Φ o (fun a σ => vE Φ i (fun b σ => opSub a b (fun x σ => vE Φ e (fun y σ => opAug op x y (fun z σ => opSet a b z (fun σ => R .next F σ) σ) σ) F σ) σ) F σ) F σ
noncomputable def ifs (c : PE) (a b : List PS) : PS := fun Φ R F σ => vT Φ c (fun t σ => if t then vSs Φ a R F σ else vSs Φ b R F σ) F σ
noncomputable def whil (c : PE) (b : List PS) : PS := fun Φ R F σ => WhileG Φ c b R F σ
noncomputable def «for» (t : Tgt) (k : IK) (it : PE) (b : List PS) : PS := fun Φ R F σ => vE Φ it (fun x σ => itStart k x (fun I σ => ForG Φ b t R I F σ) σ) F σ
noncomputable def ret (e : PE) : PS := fun Φ R F σ => vE Φ e (fun v σ => R (.ret v) F σ) F σ
noncomputable def brk : PS := fun Φ R F σ => R .brk F σ
noncomputable def cont : PS := fun Φ R F σ => R .cont F σ
end PS

/-! the walk's equations -/
section
variable (Φ : Fns) (Q : V → Hp → Prop) (P : Bool → Hp → Prop) (R : Fl → Frm → Hp → Prop) (F : Frm) (σ : Hp)
theorem e_int (i : Int) : vE Φ (.int i) Q F σ = Q (.int i) σ := rfl
theorem e_bool (b : Bool) : vE Φ (.bool b) Q F σ = Q (.bool b) σ := rfl
theorem e_none : vE Φ .none Q F σ = Q .none σ := rfl
theorem e_str (s : Str) : vE Φ (.str s) Q F σ = Q (.str s) σ := rfl
theorem e_bin (op : Operator) (l r : PE) : vE Φ (.bin op l r) Q F σ = vE Φ l (fun a σ => vE Φ r (fun b σ => opBin op a b Q σ) F σ) F σ := rfl
theorem e_cmp (op : CmpOp) (l r : PE) : vE Φ (.cmp op l r) Q F σ = vE Φ l (fun a σ => vE Φ r (fun b σ => opCmp op a b Q σ) F σ) F σ := rfl
theorem e_and (l r : PE) : vE Φ (.and l r) Q F σ = vE Φ l (fun a σ => truth a (fun b σ => if b then vE Φ r Q F σ else Q a σ) σ) F σ := rfl
theorem e_or (l r : PE) : vE Φ (.or l r) Q F σ = vE Φ l (fun a σ => truth a (fun b σ => if b then Q a σ else vE Φ r Q F σ) σ) F σ := rfl
theorem e_ite (c a b : PE) : vE Φ (.ite c a b) Q F σ = vT Φ c (fun t σ => if t then vE Φ a Q F σ else vE Φ b Q F σ) F σ := rfl
theorem e_sub (o i : PE) : vE Φ (.sub o i) Q F σ = vE Φ o (fun a σ => vE Φ i (fun b σ => opSub a b Q σ) F σ) F σ := rfl
theorem e_slice (o : PE) (lo hi st : Option PE) : vE Φ (.slice o lo hi st) Q F σ = vE Φ o (fun a σ => vO Φ lo (fun l σ => vO Φ hi (fun h σ => vO Φ st (fun s σ => opSlice a l h s Q σ) F σ) F σ) F σ) F σ := rfl
theorem e_list (es : List PE) : vE Φ (.list es) Q F σ = vEs Φ es (fun vs σ => newL vs Q σ) F σ := rfl
theorem e_tuple (es : List PE) : vE Φ (.tuple es) Q F σ = vEs Φ es (fun vs σ => vs.length ≤ BIG ∧ Q (.tup vs) σ) F σ := rfl
theorem e_call (f : BI) (es : List PE) : vE Φ (.call f es) Q F σ = vEs Φ es (fun vs σ => opCall f vs Q σ) F σ := rfl
theorem e_ucall (f : Nat) (es : List PE) : vE Φ (.ucall f es) Q F σ = vEs Φ es (fun vs σ => Φ f vs Q σ) F σ := rfl
theorem e_meth (m : Meth) (o : PE) (es : List PE) : vE Φ (.meth m o es) Q F σ = vE Φ o (fun a σ => (∃ b xs, a = .ref b ∧ σ b = some (.list xs)) ∧ vEs Φ es (fun vs σ => opMeth m a vs Q σ) F σ) F σ := rfl
theorem t_not (e : PE) : vT Φ (.not e) P F σ = vT Φ e (fun b σ => P (!b) σ) F σ := rfl
theorem t_and (l r : PE) : vT Φ (.and l r) P F σ = vT Φ l (fun b σ => if b then vT Φ r P F σ else P false σ) F σ := rfl
theorem t_or (l r : PE) : vT Φ (.or l r) P F σ = vT Φ l (fun b σ => if b then P true σ else vT Φ r P F σ) F σ := rfl
theorem t_cmp (op : CmpOp) (l r : PE) : vT Φ (.cmp op l r) P F σ = vE Φ l (fun a σ => vE Φ r (fun b σ => opCmp op a b (fun v σ => truth v P σ) σ) F σ) F σ := rfl
theorem t_call (f : BI) (es : List PE) : vT Φ (.call f es) P F σ = vEs Φ es (fun vs σ => opCall f vs (fun v σ => truth v P σ) σ) F σ := rfl
theorem t_ucall (f : Nat) (es : List PE) : vT Φ (.ucall f es) P F σ = vEs Φ es (fun vs σ => Φ f vs (fun v σ => truth v P σ) σ) F σ := rfl
theorem s_expr (e : PE) : vS Φ (.expr e) R F σ = vE Φ e (fun _ σ => R .next F σ) F σ := rfl
theorem s_assign (t : Tgt) (e : PE) : vS Φ (.assign t e) R F σ = vE Φ e (fun v σ => bindT t v (fun F' => R .next F' σ) F σ) F σ := rfl
theorem s_setitem (o i e : PE) : vS Φ (.setitem o i e) R F σ = vE Φ e (fun v σ => vE Φ o (fun ov σ => vE Φ i (fun iv σ => opSet ov iv v (fun σ => R .next F σ) σ) F σ) F σ) F σ := rfl
theorem s_ifs (c : PE) (a b : List PS) : vS Φ (.ifs c a b) R F σ = vT Φ c (fun t σ => if t then vSs Φ a R F σ else vSs Φ b R F σ) F σ := rfl
theorem s_ret (e : PE) : vS Φ (.ret e) R F σ = vE Φ e (fun v σ => R (.ret v) F σ) F σ := rfl
theorem s_brk : vS Φ .brk R F σ = R .brk F σ := rfl
theorem s_cont : vS Φ .cont R F σ = R .cont F σ := rfl
theorem e_not (e : PE) : vE Φ (.not e) Q F σ = vT Φ e (fun b σ => Q (.bool (!b)) σ) F σ := rfl
theorem ss_nil : vSs Φ [] R F σ = R .next F σ := rfl
theorem es_nil (K : List V → Hp → Prop) : vEs Φ [] K F σ = K [] σ := rfl
theorem es_cons (K : List V → Hp → Prop) (e : PE) (es : List PE) : vEs Φ (e :: es) K F σ = vE Φ e (fun v σ => vEs Φ es (fun vs σ => K (v :: vs) σ) F σ) F σ := rfl
theorem o_none : vO Φ none Q F σ = Q .none σ := rfl
theorem o_some (e : PE) : vO Φ (some e) Q F σ = vE Φ e Q F σ := rfl
theorem ts_nil : vTs Φ [] P F σ = P true σ := rfl
theorem ts_cons (e : PE) (es : List PE) : vTs Φ (e :: es) P F σ = vT Φ e (fun b σ => if b then vTs Φ es P F σ else P false σ) F σ := rfl
theorem e_var (i : Nat) : vE Φ (.var i) Q F σ = look F i (fun v => Q v σ) := rfl
theorem e_neg (e : PE) : vE Φ (.neg e) Q F σ = vE Φ e (negQ Q) F σ := rfl
theorem n_int (x : Int) : negQ Q (.int x) σ = Q (.int (-x)) σ := rfl
theorem e_comp (fm : List (Option Nat)) (elt : PE) (t : Tgt) (k : IK) (it : PE) (ifs : List PE) : vE Φ (.comp fm elt t k it ifs) Q F σ = vE Φ it (fun x σ => itStart k x (fun I σ => CompG Φ ifs elt t (frOf fm F) Q I σ) σ) F σ := rfl
theorem t_var (i : Nat) : vT Φ (.var i) P F σ = look F i (fun v => truth v P σ) := rfl
theorem t_sub (o i : PE) : vT Φ (.sub o i) P F σ = vE Φ o (fun a σ => vE Φ i (fun b σ => opSub a b (fun v σ => truth v P σ) σ) F σ) F σ := rfl
theorem s_aug (i : Nat) (op : Operator) (e : PE) : vS Φ (.aug i op e) R F σ = look F i (fun x => vE Φ e (fun b σ => opAug op x b (fun v σ => R .next (F.set i (some v)) σ) σ) F σ) := rfl
theorem a_add (x y : Int) : opAug .Add (.int x) (.int y) Q σ = Q (.int (x + y)) σ := rfl
theorem a_mul (x y : Int) : opAug .Mult (.int x) (.int y) Q σ = (IntMulOk x y ∧ Q (.int (x * y)) σ) := rfl
theorem s_while (c : PE) (b : List PS) : vS Φ (.whil c b) R F σ = WhileG Φ c b R F σ := rfl
theorem s_for (t : Tgt) (k : IK) (it : PE) (b : List PS) : vS Φ (.for t k it b) R F σ = vE Φ it (fun x σ => itStart k x (fun I σ => ForG Φ b t R I F σ) σ) F σ := rfl
noncomputable def seqQ (Φ : Fns) (ss : List PS) (R : Fl → Frm → Hp → Prop) (fl : Fl) (F : Frm) (σ : Hp) : Prop := Seq fl (vSs Φ ss R F σ) (R fl F σ)
theorem ss_cons (s : PS) (ss : List PS) : vSs Φ (s :: ss) R F σ = vS Φ s (seqQ Φ ss R) F σ := rfl
theorem q_next (ss : List PS) : seqQ Φ ss R .next F σ = vSs Φ ss R F σ := propext ⟨fun h => h.go, fun h => ⟨h⟩⟩
theorem q_brk (ss : List PS) : seqQ Φ ss R .brk F σ = R .brk F σ := propext ⟨fun h => h.go, fun h => ⟨h⟩⟩
theorem q_cont (ss : List PS) : seqQ Φ ss R .cont F σ = R .cont F σ := propext ⟨fun h => h.go, fun h => ⟨h⟩⟩
theorem q_ret (ss : List PS) (v : V) : seqQ Φ ss R (.ret v) F σ = R (.ret v) F σ := propext ⟨fun h => h.go, fun h => ⟨h⟩⟩
theorem go_cons {s : PS} {ss : List PS} {Φ : Fns} {R : Fl → Frm → Hp → Prop} {F : Frm} {σ : Hp} (h : vS Φ s (seqQ Φ ss R) F σ) : vSs Φ (s :: ss) R F σ := h
theorem q_nextI {ss : List PS} {Φ : Fns} {R : Fl → Frm → Hp → Prop} {F : Frm} {σ : Hp} (h : vSs Φ ss R F σ) : seqQ Φ ss R .next F σ := ⟨h⟩
theorem q_brkI {ss : List PS} {Φ : Fns} {R : Fl → Frm → Hp → Prop} {F : Frm} {σ : Hp} (h : R .brk F σ) : seqQ Φ ss R .brk F σ := ⟨h⟩
theorem q_contI {ss : List PS} {Φ : Fns} {R : Fl → Frm → Hp → Prop} {F : Frm} {σ : Hp} (h : R .cont F σ) : seqQ Φ ss R .cont F σ := ⟨h⟩
theorem q_retI {ss : List PS} {v : V} {Φ : Fns} {R : Fl → Frm → Hp → Prop} {F : Frm} {σ : Hp} (h : R (.ret v) F σ) : seqQ Φ ss R (.ret v) F σ := ⟨h⟩
theorem ss_nilI {Φ : Fns} {R : Fl → Frm → Hp → Prop} {F : Frm} {σ : Hp} (h : R .next F σ) : vSs Φ [] R F σ := h
theorem bt_name (i : Nat) (x : V) (K : Frm → Prop) : bindT (.name i) x K F σ = K (F.set i (some x)) := rfl
theorem bt_tup (is : List Nat) (vs : List V) (K : Frm → Prop) : bindT (.tup is) (.tup vs) K F σ = (is.length = vs.length ∧ K (setAll is vs F)) := rfl
theorem c_range1 (b : Int) : opCall .range [.int b] Q σ = Q (.rng 0 b 1) σ := rfl
theorem c_range2 (a b : Int) : opCall .range [.int a, .int b] Q σ = Q (.rng a b 1) σ := rfl
theorem c_range3 (a b c : Int) : opCall .range [.int a, .int b, .int c] Q σ = (c ≠ 0 ∧ Q (.rng a b c) σ) := rfl
theorem i_rng (a b c : Int) (K : It → Hp → Prop) : itStart .plain (.rng a b c) K σ = (rok a b c ∧ K (.rng a (rlen a b c) c) σ) := rfl
theorem i_ref (a : Addr) (K : It → Hp → Prop) : itStart .plain (.ref a) K σ = ((∃ xs, listAt σ a = some xs) ∧ K (.lst a 0) σ) := rfl
theorem i_tup (vs : List V) (K : It → Hp → Prop) : itStart .plain (.tup vs) K σ = K (.vals vs) σ := rfl
theorem i_enm (a : Addr) (K : It → Hp → Prop) : itStart .enum (.ref a) K σ = ((∃ xs, σ a = some (.list xs)) ∧ K (.enm 0 a) σ) := rfl
theorem i_rev (a b c : Int) (K : It → Hp → Prop) : itStart .rev (.rng a b c) K σ = (a = 0 ∧ c = 1 ∧ 0 ≤ b ∧ b ≤ 1000000 ∧ K (.rng (b - 1) b.toNat (-1)) σ) := rfl
theorem look_zero (v : V) (K : V → Prop) : look (some v :: F) 0 K = K v := rfl
theorem look_succ (v : Option V) (i : Nat) (K : V → Prop) : look (v :: F) (i + 1) K = look F i K := rfl
theorem sa_nil (vs : List V) : setAll [] vs F = F := rfl
theorem sa_cons (i : Nat) (is : List Nat) (v : V) (vs : List V) : setAll (i :: is) (v :: vs) F = setAll is vs (F.set i (some v)) := rfl
variable (x y : Int) (b : Bool)
theorem c_lt : opCmp .Lt (.int x) (.int y) Q σ = Q (.bool (decide (x < y))) σ := rfl
theorem c_le : opCmp .LtE (.int x) (.int y) Q σ = Q (.bool (decide (x ≤ y))) σ := rfl
theorem c_gt : opCmp .Gt (.int x) (.int y) Q σ = Q (.bool (decide (y < x))) σ := rfl
theorem c_ge : opCmp .GtE (.int x) (.int y) Q σ = Q (.bool (decide (y ≤ x))) σ := rfl
theorem c_eq : opCmp .Eq (.int x) (.int y) Q σ = Q (.bool (x == y)) σ := rfl
theorem c_ne : opCmp .NotEq (.int x) (.int y) Q σ = Q (.bool (x != y)) σ := rfl
theorem b_add : opBin .Add (.int x) (.int y) Q σ = Q (.int (x + y)) σ := rfl
theorem b_sub : opBin .Sub (.int x) (.int y) Q σ = Q (.int (x - y)) σ := rfl
theorem b_mul : opBin .Mult (.int x) (.int y) Q σ = (IntMulOk x y ∧ Q (.int (x * y)) σ) := rfl
theorem b_div : opBin .FloorDiv (.int x) (.int y) Q σ = (y ≠ 0 ∧ Q (.int (x.fdiv y)) σ) := rfl
theorem b_mod : opBin .Mod (.int x) (.int y) Q σ = (y ≠ 0 ∧ Q (.int (x.fmod y)) σ) := rfl
theorem b_pow : opBin .Pow (.int x) (.int y) Q σ = (0 ≤ y ∧ y ≤ 1000 ∧ x.natAbs < 2 ^ 64 ∧ Q (.int (x ^ y.toNat)) σ) := rfl
theorem b_shr : opBin .RShift (.int x) (.int 1) Q σ = (0 ≤ x ∧ (1 : Int) = 1 ∧ Q (.int (x / 2)) σ) := rfl
theorem t_bool : truth (.bool b) P σ = P b σ := rfl
theorem t_int : truth (.int x) P σ = P (x != 0) σ := rfl
end
/-! which syntax it is that of -/
structure Cfg where
  sc : List (Str × NameKind)
  fns : List Str
noncomputable def isVar : NameKind → Bool
  | .local => true
  | .cell => true
  | .free => true
  | _ => false
noncomputable def Cfg.names (c : Cfg) : List Str := (c.sc.filter fun x => isVar x.2).map (·.1)

noncomputable def fmapOf (c : Cfg) (sc : List (Str × NameKind)) : List (Option Nat) :=
  (sc.filter fun x => isVar x.2).map fun x => if x.2 == .free then some (c.names.idxOf x.1) else none
noncomputable def scOk (c : Cfg) (sc : List (Str × NameKind)) : Bool :=
  decide (sc.map (·.1)).Nodup && sc.all fun x => (x.2 != .free || (c.names.contains x.1 && c.sc.lookup x.1 != some .local)) && (isVar x.2 || x.2 == .globalImplicit)

mutual
/-- a target -/
inductive CG : Cfg → Expr → Tgt → Prop
  | name {c : Cfg} {x : Str} {p : Pos} {i : Nat} : c.names[i]? = some x → c.sc.lookup x ≠ some .free → CG c (.Name x p) (.name i)
  | tup {c : Cfg} {es : List Expr} {k : Nat} {p : Pos} {is : List Nat} : CGs c es is → CG c (.Tuple es k p) (.tup is)
inductive CGs : Cfg → List Expr → List Nat → Prop
  | nil {c : Cfg} : CGs c [] []
  | cons {c : Cfg} {x : Str} {p : Pos} {i : Nat} {es : List Expr} {is : List Nat} : c.names[i]? = some x → c.sc.lookup x ≠ some .free → CGs c es is → CGs c (.Name x p :: es) (i :: is)
end

/-! M6 -/
/-- where a name's cell lies -/
inductive CellAt (c : Cfg) (env : Env) (own : Addr → Prop) (F : Frm) (h₀ : Heap) (σ : Hp) (h : Heap) (i : Nat) (x : Str) : Prop
  | mk (a : Addr) (cv : Option Value) (h1 : env.cells.lookup x = some a) (h2 : h.IsCell a cv) (h3 : σ a = none) (h4 : a ≠ env.locals) (h5 : c.sc.lookup x = some .cell → own a ∧ h₀.get? a = none) (h6 : ∀ v, F[i]? = some (some v) → ∃ w, cv = some w ∧ Rep h w v) : CellAt c env own F h₀ σ h i x
inductive NsHas (c : Cfg) (env : Env) (F : Frm) (h : Heap) : Prop
  | mk (m : Str → Option Value) (h1 : h.Ns env.locals m) (h2 : ∀ (i : Nat) x v, c.names[i]? = some x → env.kindOf x = some .local → F[i]? = some (some v) → ∃ w, m x = some w ∧ Rep h w v) : NsHas c env F h
/-- a frame bears F -/
structure FrOk (c : Cfg) (env : Env) (own : Addr → Prop) (F : Frm) (h₀ : Heap) (σ : Hp) (h : Heap) : Prop where
  kind : env.scope.kind = .function
  glob : env.globals = mainGlobals
  bi : env.builtins = builtinsNs
  gk : ∀ x, c.sc.lookup x = some .globalImplicit → env.kindOf x = some .globalImplicit
  vk : ∀ (i : Nat) x, c.names[i]? = some x → (c.sc.lookup x = some .local ∧ env.kindOf x = some .local) ∨ (c.sc.lookup x = some .cell ∧ env.kindOf x = some .cell) ∨
    (c.sc.lookup x = some .free ∧ (env.kindOf x = some .cell ∨ env.kindOf x = some .free))
  ns : NsHas c env F h
  cell : ∀ (i : Nat) x, c.names[i]? = some x → env.kindOf x ≠ some .local → CellAt c env own F h₀ σ h i x
  inj : ∀ x y a, env.cells.lookup x = some a → env.cells.lookup y = some a → x = y
  loc : own env.locals ∧ σ env.locals = none ∧ h₀.get? env.locals = none
  nd : ∀ (i j : Nat) x, c.names[i]? = some x → c.names[j]? = some x → i = j
  ex : ∀ a, own a → ∃ o, h.get? a = some o

section
variable {prog : Program} {w : World} {A : Around} {s : Shared} {h₀ : Heap} {mg mb : Str → Option Value} {σ σ' : Hp} {c : Cfg} {env : Env} {own : Addr → Prop} {F : Frm} {h h' : Heap}

theorem none_mut {σ : Hp} {a : Addr} (e : σ a = none) : ¬ Mut σ a := fun ⟨o, q, _⟩ => by rw [e] at q; cases q
theorem FrOk.step (f : FrOk c env own F h₀ σ h) (st : Step h₀ σ h σ' h') : FrOk c env own F h₀ σ' h' := by
  refine ⟨f.kind, f.glob, f.bi, f.gk, f.vk, ?_, fun i x e n => ?_, f.inj, ?_, f.nd, fun a oa => (f.ex a oa).elim fun o e => (st.alive a o e).imp fun _ q => q.1⟩
  · obtain ⟨m, n, r⟩ := f.ns
    exact ⟨m, st.ns (none_mut f.loc.2.1) (fun h => h) n, fun i x v e1 e2 e3 => by
      obtain ⟨w, e4, e5⟩ := r i x v e1 e2 e3
      exact ⟨w, e4, e5.step st⟩⟩
  · obtain ⟨a, cv, e1, ⟨o, e2, e2'⟩, e3, e4, e5, e6⟩ := f.cell i x e n
    refine ⟨a, cv, e1, ⟨o, st.keeps _ _ (none_mut e3) (fun ⟨_, _, d⟩ => by rw [e2'] at d; cases d) e2, e2'⟩, st.grow.none e2 e3, e4, e5, fun v hv => ?_⟩
    obtain ⟨w, q1, q2⟩ := e6 v hv
    exact ⟨w, q1, q2.step st⟩
  · obtain ⟨m, n, r⟩ := f.ns
    obtain ⟨o, es, ep, ho, q⟩ := n
    exact ⟨f.loc.1, st.grow.none ho f.loc.2.1, f.loc.2.2⟩

/-- the frame at a heap that has more -/
theorem FrOk.load (f : FrOk c env own F h₀ σ s.heap) {i : Nat} {x : Str} {v : V} (e : c.names[i]? = some x) (hv : F[i]? = some (some v)) (hcd : (x == ("__classdict__" : Str)) = false)
    {Q : Value → Shared → Prop} {E : Value → Shared → Prop} (q : ∀ w, Rep s.heap w v → Q w s) : wpAny (model prog w) A (loadName env x) Q E s := by
  rcases f.vk i x e with ⟨_, k⟩ | ⟨_, k⟩ | ⟨_, k | k⟩
  · obtain ⟨m, n, r⟩ := f.ns
    obtain ⟨w, e1, e2⟩ := r i x v e k hv
    exact wpAny_loadName_local f.kind k n e1 (q w e2)
  · obtain ⟨a, cv, e1, e2, e3, e4, e5, e6⟩ := f.cell i x e (by rw [k]; simp)
    obtain ⟨w, rfl, q2⟩ := e6 v hv
    exact wpAny_loadName_cell f.kind k e1 e2 (q w q2)
  · obtain ⟨a, cv, e1, e2, e3, e4, e5, e6⟩ := f.cell i x e (by rw [k]; simp)
    obtain ⟨w, rfl, q2⟩ := e6 v hv
    exact wpAny_loadName_cell f.kind k e1 e2 (q w q2)
  · obtain ⟨a, cv, e1, e2, e3, e4, e5, e6⟩ := f.cell i x e (by rw [k]; simp)
    obtain ⟨w, rfl, q2⟩ := e6 v hv
    exact wpAny_loadName_free f.kind k e1 e2 (q w q2) hcd

/-- a change of one's own object: the rest stays -/
theorem own_step {own : Addr → Prop} {a : Addr} (hw : W h₀ σ h) (oa : own a) (na : σ a = none) (ng : h₀.get? a = none) (sb : Heap.SameBut a h h') (ni : ∀ o, h.get? a = some o → ¬ Imm o)
    (al : ∀ o, h.get? a = some o → ∃ o', h'.get? a = some o' ∧ (IsD o → IsD o')) : StepX own h₀ σ h σ h' := by
  have keep : ∀ b o, b ≠ a → h.get? b = some o → h'.get? b = some o := fun b o n e => (sb.2 b n).trans e
  have tups : Tups h h' := fun b o e i => keep b o (by rintro rfl; exact ni o e i) e
  refine ⟨⟨fun b o e => keep b o (by rintro rfl; rw [ng] at e; cases e) (hw.stays b o e), fun b o e => ?_, hw.above, hw.small⟩, fun b o _ no _ e => keep b o (by rintro rfl; exact no oa) e, fun b o _ no _ e => ⟨o.slots, keep b o (by rintro rfl; exact no oa) e⟩, .refl _ _, tups, fun b o e => ?_⟩
  · have nb : b ≠ a := by rintro rfl; rw [na] at e; cases e
    have x := hw.holds b o e
    cases o with
    | list xs => obtain ⟨vs, n, e2, rr⟩ := x; exact ⟨vs, n, keep _ _ nb e2, rr.tups tups⟩
    | flist xs => obtain ⟨vs, ⟨o2, e2, r⟩, rr⟩ := x; exact ⟨vs, ⟨o2, keep _ _ nb e2, r⟩, rr.tups tups⟩
    | iter l i => cases l <;> (obtain ⟨o2, e2, r⟩ := x; exact ⟨o2, keep _ _ nb e2, r⟩)
  · by_cases q : b = a
    · subst q; exact al o e
    · exact ⟨o, keep b o q e, id⟩

theorem ns_not_imm {a : Addr} {m : Str → Option Value} (n : h.Ns a m) : ∀ o, h.get? a = some o → ¬ Imm o := fun o e i => by
  obtain ⟨o', es, ep, ho, hd, _⟩ := n
  rw [e] at ho; cases ho
  rcases i with ⟨_, vs, n, q⟩ | ⟨_, vs, q⟩ | ⟨fd, q⟩ | q
  · rw [hd] at q; cases q
  · rw [hd] at q; cases q
  · rw [hd] at q; cases q
  · rw [hd] at q; cases q
theorem cell_not_imm {a : Addr} {v : Option Value} (n : h.IsCell a v) : ∀ o, h.get? a = some o → ¬ Imm o := fun o e i => by
  obtain ⟨o', ho, hd⟩ := n
  rw [e] at ho; cases ho
  rcases i with ⟨_, vs, n, q⟩ | ⟨_, vs, q⟩ | ⟨fd, q⟩ | q <;> rw [hd] at q <;> cases q

/-- storing a name -/
theorem FrOk.store (f : FrOk c env own F h₀ σ s.heap) (hw : W h₀ σ s.heap) {i : Nat} {x : Str} {vv : Value} {v : V} (e : c.names[i]? = some x) (nf : c.sc.lookup x ≠ some .free) (rv : Rep s.heap vv v)
    {Q : Unit → Shared → Prop} {E : Value → Shared → Prop} (q : ∀ s', Sm s s' → StepX own h₀ σ s.heap σ s'.heap → FrOk c env own (F.set i (some v)) h₀ σ s'.heap → Q () s') : wpAny (model prog w) A (storeName env x vv) Q E s := by
  have hi := (List.getElem?_eq_some_iff.mp e).1
  have same : ∀ (j : Nat) y (u : V), c.names[j]? = some y → (F.set i (some v))[j]? = some (some u) → (j = i ∧ u = v) ∨ (j ≠ i ∧ F[j]? = some (some u)) := fun j y u _ e2 => by
    by_cases q : j = i
    · subst q
      rw [List.getElem?_set_self'] at e2
      cases q2 : F[j]? with
      | none => rw [q2] at e2; cases e2
      | some z => rw [q2] at e2; simp at e2; exact .inl ⟨rfl, e2.symm⟩
    · rw [List.getElem?_set_ne (fun h => q h.symm)] at e2; exact .inr ⟨q, e2⟩
  rcases f.vk i x e with ⟨_, k⟩ | ⟨kc, k⟩ | ⟨k, _⟩
  · obtain ⟨m, n, r⟩ := f.ns
    refine wpAny_storeName_local k n (fun h' n' sb => ?_) (by rw [f.kind]; rfl)
    have st : StepX own h₀ σ s.heap σ h' := own_step hw f.loc.1 f.loc.2.1 f.loc.2.2 sb (ns_not_imm n) (fun o _ => by obtain ⟨o', es, ep, ho, hd, _⟩ := n'; exact ⟨o', ho, fun _ => ⟨_, _, hd⟩⟩)
    refine q _ ⟨Eq.refl _, Eq.refl _⟩ st ⟨f.kind, f.glob, f.bi, f.gk, f.vk, ⟨_, n', fun j y u e1 e2 e3 => ?_⟩, fun j y e1 e2 => ?_, f.inj, f.loc, f.nd, fun a oa => (f.ex a oa).elim fun o e => (st.alive a o e).imp fun _ q => q.1⟩
    · rcases same j y u e1 e3 with ⟨rfl, rfl⟩ | ⟨hj, e3⟩
      · rw [e] at e1; cases e1
        exact ⟨vv, if_pos rfl, rv.step st⟩
      · obtain ⟨w, e4, e5⟩ := r j y u e1 e2 e3
        refine ⟨w, ?_, e5.step st⟩
        show (if y = x then some vv else m y) = some w
        rw [if_neg (by rintro rfl; exact hj (f.nd _ _ _ e1 e))]; exact e4
    · obtain ⟨a, cv, g1, g2, g3, g4, g5, g6⟩ := f.cell j y e1 e2
      refine ⟨a, cv, g1, g2.sameBut sb g4, g3, g4, g5, fun u hu => ?_⟩
      rcases same j y u e1 hu with ⟨rfl, rfl⟩ | ⟨hj, e3⟩
      · rw [e] at e1; cases e1; exact absurd k e2
      · obtain ⟨w, q1, q2⟩ := g6 u e3
        exact ⟨w, q1, q2.step st⟩
  · obtain ⟨a, cv, g1, g2, g3, g4, g5, g6⟩ := f.cell i x e (by rw [k]; simp)
    refine wpAny_storeName_cell f.kind k g1 g2 fun h' n' sb => ?_
    have st : StepX own h₀ σ s.heap σ h' := own_step hw (g5 kc).1 g3 (g5 kc).2 sb (cell_not_imm g2) (fun o eo => by obtain ⟨o', ho, _⟩ := n'; exact ⟨o', ho, fun ⟨_, _, d⟩ => by obtain ⟨o2, e2, d2⟩ := g2; rw [eo] at e2; cases e2; rw [d] at d2; cases d2⟩)
    refine q _ ⟨Eq.refl _, Eq.refl _⟩ st ⟨f.kind, f.glob, f.bi, f.gk, f.vk, ?_, fun j y e1 e2 => ?_, f.inj, f.loc, f.nd, fun a oa => (f.ex a oa).elim fun o e => (st.alive a o e).imp fun _ q => q.1⟩
    · obtain ⟨m, n, r⟩ := f.ns
      refine ⟨m, n.sameBut sb (fun h => g4 h.symm), fun j y u e1 e2 e3 => ?_⟩
      rcases same j y u e1 e3 with ⟨rfl, rfl⟩ | ⟨hj, e3⟩
      · rw [e] at e1; cases e1; rw [k] at e2; cases e2
      · obtain ⟨w, e4, e5⟩ := r j y u e1 e2 e3
        exact ⟨w, e4, e5.step st⟩
    · obtain ⟨a', cv', g1', g2', g3', g4', g5', g6'⟩ := f.cell j y e1 e2
      by_cases hya : y = x
      · subst hya
        rw [g1] at g1'; cases g1'
        refine ⟨a, some vv, g1, n', g3, g4, g5', fun u hu => ?_⟩
        rcases same j _ u e1 hu with ⟨rfl, rfl⟩ | ⟨hj, e3⟩
        · exact ⟨vv, rfl, rv.step st⟩
        · exact absurd (f.nd _ _ _ e1 e) hj
      · have na : a' ≠ a := by rintro rfl; exact hya (f.inj _ _ _ g1' g1)
        refine ⟨a', cv', g1', g2'.sameBut sb na, g3', g4', g5', fun u hu => ?_⟩
        rcases same j y u e1 hu with ⟨rfl, rfl⟩ | ⟨hj, e3⟩
        · rw [e] at e1; cases e1; exact absurd rfl hya
        · obtain ⟨w, q1, q2⟩ := g6' u e3
          exact ⟨w, q1, q2.step st⟩
  · exact absurd k nf
end

/-! M7 -/
section
variable {prog : Program} {w : World} {A : Around} {s : Shared} {h₀ : Heap} {mg mb : Str → Option Value} {σ σ' σs : Hp} {c : Cfg} {env : Env} {own : Addr → Prop} {F : Frm} {h h' hs : Heap}

theorem FrOk.move (f : FrOk c env own F h₀ σ h) (kl : ∀ o, h.get? env.locals = some o → h'.get? env.locals = some o) (kc : ∀ x a, env.cells.lookup x = some a → ∀ o, h.get? a = some o → h'.get? a = some o)
    (t : Tups h h') (al : ∀ a, own a → ∃ o, h'.get? a = some o) : FrOk c env own F h₀ σ h' := by
  refine ⟨f.kind, f.glob, f.bi, f.gk, f.vk, ?_, fun i x e n => ?_, f.inj, f.loc, f.nd, al⟩
  · obtain ⟨m, n, r⟩ := f.ns
    obtain ⟨o, es, ep, ho, q⟩ := n
    exact ⟨m, ⟨o, es, ep, kl _ ho, q⟩, fun i x v e1 e2 e3 => by
      obtain ⟨w, e4, e5⟩ := r i x v e1 e2 e3
      exact ⟨w, e4, e5.tups t⟩⟩
  · obtain ⟨a, cv, e1, ⟨o, e2, e2'⟩, e3, e4, e5, e6⟩ := f.cell i x e n
    refine ⟨a, cv, e1, ⟨o, kc _ _ e1 _ e2, e2'⟩, e3, e4, e5, fun v hv => ?_⟩
    obtain ⟨w, q1, q2⟩ := e6 v hv
    exact ⟨w, q1, q2.tups t⟩

/-- objects beside all (iterators) change -/
noncomputable def Beside (as : List Addr) (h₀ : Heap) (σ : Hp) (hs : Heap) : Prop := ∀ a ∈ as, hs.get? a = none ∧ σ a = none ∧ h₀.get? a = none
theorem W.slip {as : List Addr} (hw : W h₀ σ h) (b : ∀ a ∈ as, σ a = none ∧ h₀.get? a = none) (ni : ∀ a ∈ as, ∀ o, h.get? a = some o → ¬ Imm o) (k : ∀ b o, b ∉ as → h.get? b = some o → h'.get? b = some o) : W h₀ σ h' ∧ Tups h h' := by
  have tups : Tups h h' := fun a o e i => k a o (fun m => ni a m o e i) e
  refine ⟨⟨fun a o e => k a o (fun m => by rw [(b a m).2] at e; cases e) (hw.stays a o e), fun a o e => ?_, hw.above, hw.small⟩, tups⟩
  have na : a ∉ as := fun m => by rw [(b a m).1] at e; cases e
  have x := hw.holds a o e
  cases o with
  | list xs => obtain ⟨vs, n, e2, rr⟩ := x; exact ⟨vs, n, k _ _ na e2, rr.tups tups⟩
  | flist xs => obtain ⟨vs, ⟨o2, e2, r⟩, rr⟩ := x; exact ⟨vs, ⟨o2, k _ _ na e2, r⟩, rr.tups tups⟩
  | iter l i => cases l <;> (obtain ⟨o2, e2, r⟩ := x; exact ⟨o2, k _ _ na e2, r⟩)
theorem StepX.slip {as : List Addr} (x : StepX own h₀ σs hs σ h) (b : Beside as h₀ σ hs) (ni : ∀ a ∈ as, ∀ o, h.get? a = some o → ¬ Imm o) (k : ∀ b o, b ∉ as → h.get? b = some o → h'.get? b = some o) : StepX own h₀ σs hs σ h' := by
  obtain ⟨w', tups⟩ := x.w.slip (fun a m => (b a m).2) ni k
  have old : ∀ a o, hs.get? a = some o → a ∉ as := fun a o e m => by rw [(b a m).1] at e; cases e
  exact ⟨w', fun a o n m d e => k a o (old a o e) (x.keep a o n m d e), fun a o n m d e => (x.dict a o n m d e).imp fun sl e' => k a _ (old a o e) e', x.grow, fun a o e i => k a o (old a o e) (x.tups a o e i), fun a o e => by
    obtain ⟨o', e', d⟩ := x.alive a o e
    exact ⟨o', k a o' (old a o e) e', d⟩⟩

inductive ItVals (h : Heap) (v : Value) (as : List Addr) (vs : List V) : Prop
  | mk (I t : Addr) (k : Nat) (ws : List Value) (h1 : v = .ref I) (h2 : as = [I]) (h3 : h.IsTupleIter I t k) (h4 : h.IsTuple t ws.toArray) (h5 : Reps h (ws.drop k) vs) : ItVals h v as vs
inductive ItEnm (h : Heap) (v : Value) (as : List Addr) (k : Nat) (a : Addr) : Prop
  | mk (e I : Addr) (old : Value) (h1 : v = .ref e) (h2 : as = [e, I]) (h3 : e ≠ I) (h4 : IsEnum h e I k old) (h5 : h.IsListIter I a k) : ItEnm h v as k a
/-- an iterator of the machine, beside the abstract heap -/
noncomputable def ItRep (h : Heap) (v : Value) (as : List Addr) : It → Prop
  | .lst a i => ∃ I, v = .ref I ∧ as = [I] ∧ h.IsListIter I a i
  | .rng x n c => ∃ I, v = .ref I ∧ as = [I] ∧ IsRangeIter h I x n c
  | .vals vs => ItVals h v as vs
  | .enm k a => ItEnm h v as k a
theorem ItRep.notImm {v : Value} {as : List Addr} {it : It} (r : ItRep h v as it) : ∀ a ∈ as, ∀ o, h.get? a = some o → ¬ Imm o := by
  intro a m o e i
  cases it with
  | lst b k => obtain ⟨I, _, rfl, o', e', c', d'⟩ := r; simp at m; subst m; rw [e] at e'; cases e'; rcases i with ⟨i, _⟩ | ⟨i, _⟩ | ⟨fd, i⟩ | i <;> simp_all
  | rng x n c => obtain ⟨I, _, rfl, e'⟩ := r; simp at m; subst m; have e2 := e.symm.trans e'; cases e2; rcases i with ⟨i, _⟩ | ⟨i, _⟩ | ⟨fd, i⟩ | i <;> simp_all
  | vals vs => obtain ⟨I, t, k, ws, _, rfl, ⟨o', e', c', d'⟩, _⟩ := r; simp at m; subst m; rw [e] at e'; cases e'; rcases i with ⟨i, _⟩ | ⟨i, _⟩ | ⟨fd, i⟩ | i <;> simp_all
  | enm k b =>
    obtain ⟨e1, I, old, _, rfl, _, e', o', e2, c', d'⟩ := r
    simp at m
    rcases m with rfl | rfl
    · have e3 := e.symm.trans e'; cases e3; rcases i with ⟨i, _⟩ | ⟨i, _⟩ | ⟨fd, i⟩ | i <;> simp_all
    · rw [e] at e2; cases e2; rcases i with ⟨i, _⟩ | ⟨i, _⟩ | ⟨fd, i⟩ | i <;> simp_all
theorem ItRep.notD {v : Value} {as : List Addr} {it : It} (r : ItRep h v as it) : ∀ a ∈ as, ∀ o, h.get? a = some o → ¬ IsD o := by
  intro a m o e ⟨es, n, d⟩
  cases it with
  | lst b k => obtain ⟨I, _, rfl, o', e', c', d'⟩ := r; simp at m; subst m; rw [e] at e'; cases e'; rw [d] at d'; cases d'
  | rng x n c => obtain ⟨I, _, rfl, e'⟩ := r; simp at m; subst m; have e2 := e.symm.trans e'; cases e2; cases d
  | vals vs => obtain ⟨I, t, k, ws, _, rfl, ⟨o', e', c', d'⟩, _⟩ := r; simp at m; subst m; rw [e] at e'; cases e'; rw [d] at d'; cases d'
  | enm k b =>
    obtain ⟨e1, I, old, _, rfl, _, e', o', e2, c', d'⟩ := r
    simp at m
    rcases m with rfl | rfl
    · have e3 := e.symm.trans e'; cases e3; cases d
    · rw [e] at e2; cases e2; rw [d] at d'; cases d'
/-- it stands where its own objects stand -/
theorem ItRep.move {v : Value} {as : List Addr} {it : It} (r : ItRep h v as it) (k : ∀ a ∈ as, ∀ o, h.get? a = some o → h'.get? a = some o) (t : Tups h h') : ItRep h' v as it := by
  cases it with
  | lst b j => obtain ⟨I, rfl, rfl, o', e', q⟩ := r; exact ⟨I, rfl, rfl, o', k I (by simp) _ e', q⟩
  | rng x n c => obtain ⟨I, rfl, rfl, e'⟩ := r; exact ⟨I, rfl, rfl, k I (by simp) _ e'⟩
  | vals vs =>
    obtain ⟨I, t', j, ws, rfl, rfl, ⟨o', e', q⟩, ⟨o2, e2, c2, n2, d2⟩, rr⟩ := r
    exact ⟨I, t', j, ws, rfl, rfl, ⟨o', k I (by simp) _ e', q⟩, ⟨o2, t _ _ e2 (.inl ⟨c2, _, _, d2⟩), c2, n2, d2⟩, rr.tups t⟩
  | enm j b =>
    obtain ⟨e1, I, old, rfl, rfl, hne, e', o', e2, q⟩ := r
    exact ⟨e1, I, old, rfl, rfl, hne, k e1 (by simp) _ e', o', k I (by simp) _ e2, q⟩

/-- the next item -/
theorem next_item {v : Value} {as : List Addr} {it it' : It} {x : V} (hh : A.handled = none) (hw : W h₀ σ s.heap) (r : ItRep s.heap v as it) (b : ∀ a ∈ as, σ a = none ∧ h₀.get? a = none)
    (hn : itNext it σ = some (some (x, it'))) (hk : (∀ k a, it = .enm k a → False)) {Q : Option Value → Shared → Prop} {E : Value → Shared → Prop}
    (q : ∀ y s', Sm s s' → Rep s'.heap y x → ItRep s'.heap v as it' → (∀ b o, b ∉ as → s.heap.get? b = some o → s'.heap.get? b = some o) → Q (some y) s') : wpAny (model prog w) A (pyNext v) Q E s := by
  cases it with
  | lst a i =>
    obtain ⟨I, rfl, rfl, hi⟩ := r
    simp only [itNext] at hn
    cases e : listAt σ a with
    | none => rw [e] at hn; cases hn
    | some xs =>
      rw [e] at hn
      dsimp only at hn
      cases e2 : xs[i]? with
      | none => rw [e2] at hn; cases hn
      | some z =>
        rw [e2] at hn; cases hn
        obtain ⟨vs, hl, rr⟩ := hw.list e
        obtain ⟨y, e3, ry⟩ := rr.get e2
        refine wpAny_pyNext_list_item hi hl (by simpa using e3) fun h' hi' sb => ?_
        have k : ∀ b o, b ∉ [I] → s.heap.get? b = some o → h'.get? b = some o := fun b o n e => sb.extBut b o (by simpa using n) e
        have t := (hw.slip (as := [I]) b (ItRep.notImm (it := .lst a i) ⟨I, rfl, rfl, hi⟩) k).2
        exact q _ _ ⟨Eq.refl _, Eq.refl _⟩ (ry.tups t) ⟨I, rfl, rfl, hi'⟩ k
  | rng a n cc =>
    obtain ⟨I, rfl, rfl, hi⟩ := r
    cases n with
    | zero => simp [itNext] at hn
    | succ n =>
      simp only [itNext] at hn; cases hn
      refine wpAny_pyNext_range_item hi (by omega) fun h' hi' sb => ?_
      have k : ∀ b o, b ∉ [I] → s.heap.get? b = some o → h'.get? b = some o := fun b o n e => sb.extBut b o (by simpa using n) e
      refine q _ _ ⟨Eq.refl _, Eq.refl _⟩ (.int _ _) ⟨I, rfl, rfl, ?_⟩ k
      have : ((n + 1 : Nat) : Int) - 1 = (n : Int) := by omega
      rw [this] at hi'; exact hi'
  | vals vs =>
    obtain ⟨I, t, k0, ws, rfl, rfl, hi, ht, rr⟩ := r
    cases vs with
    | nil => simp [itNext] at hn
    | cons z zs =>
      simp only [itNext] at hn; cases hn
      have hk0 : k0 < ws.length := by
        rcases Nat.lt_or_ge k0 ws.length with h | h
        · exact h
        · rw [List.drop_eq_nil_of_le h] at rr; cases rr
      rw [List.drop_eq_getElem_cons hk0] at rr
      cases rr with
      | cons ry rr => ?_
      refine wpAny_pyNext_tuple_item hi ht (by simp [hk0]; rfl) fun h' hi' sb => ?_
      have k : ∀ b o, b ∉ [I] → s.heap.get? b = some o → h'.get? b = some o := fun b o n e => sb.extBut b o (by simpa using n) e
      have t2 := (hw.slip (as := [I]) b (ItRep.notImm (it := .vals (x :: zs)) ⟨I, t, k0, ws, rfl, rfl, hi, ht, by rw [List.drop_eq_getElem_cons hk0]; exact .cons ry rr⟩) k).2
      refine q _ _ ⟨Eq.refl _, Eq.refl _⟩ (ry.tups t2) ⟨I, t, k0 + 1, ws, rfl, rfl, hi', ?_, rr.tups t2⟩ k
      obtain ⟨o2, e2, c2, n2, d2⟩ := ht
      exact ⟨o2, t2 _ _ e2 (.inl ⟨c2, _, _, d2⟩), c2, n2, d2⟩
  | enm k a => exact (hk _ _ rfl).elim

theorem next_end {v : Value} {as : List Addr} {it : It} (hh : A.handled = none) (hw : W h₀ σ s.heap) (r : ItRep s.heap v as it)
    (hn : itNext it σ = some none) {Q : Option Value → Shared → Prop} {E : Value → Shared → Prop}
    (q : ∀ s', Sm s s' → (∀ b o, b ∉ as → s.heap.get? b = some o → s'.heap.get? b = some o) → Q none s') : wpAny (model prog w) A (pyNext v) Q E s := by
  cases it with
  | lst a i =>
    obtain ⟨I, rfl, rfl, hi⟩ := r
    simp only [itNext] at hn
    cases e : listAt σ a with
    | none => rw [e] at hn; cases hn
    | some xs =>
      rw [e] at hn
      dsimp only at hn
      cases e2 : xs[i]? with
      | some z => rw [e2] at hn; cases hn
      | none =>
        obtain ⟨vs, hl, rr⟩ := hw.list e
        have e3 : vs[i]? = none := by rw [List.getElem?_eq_none_iff] at e2 ⊢; rw [rr.length]; exact e2
        exact wpAny_pyNext_list_end hh hi hl (by simpa using e3) fun h' sb => q _ ⟨Eq.refl _, Eq.refl _⟩ fun b o n e => sb b o (by simpa using n) e
  | rng a n cc =>
    obtain ⟨I, rfl, rfl, hi⟩ := r
    cases n with
    | succ n => simp [itNext] at hn
    | zero => exact wpAny_pyNext_range_end hh hi (by omega) fun h' sb => q _ ⟨Eq.refl _, Eq.refl _⟩ fun b o n e => sb b o (by simpa using n) e
  | vals vs =>
    obtain ⟨I, t, k0, ws, rfl, rfl, hi, ht, rr⟩ := r
    cases vs with
    | cons z zs => simp [itNext] at hn
    | nil =>
      have hk0 : ws.length ≤ k0 := by
        have := rr.length; simp at this; omega
      exact wpAny_pyNext_tuple_end hh hi ht (by simp; exact hk0) fun h' sb => q _ ⟨Eq.refl _, Eq.refl _⟩ fun b o n e => sb b o (by simpa using n) e
  | enm k a =>
    obtain ⟨e1, I, old, rfl, rfl, hne, he, hi⟩ := r
    simp only [itNext] at hn
    cases e : listAt σ a with
    | none => rw [e] at hn; cases hn
    | some xs =>
      rw [e] at hn
      dsimp only at hn
      cases e2 : xs[k]? with
      | some z => rw [e2] at hn; cases hn
      | none =>
        obtain ⟨vs, hl, rr⟩ := hw.list e
        have e3 : vs[k]? = none := by rw [List.getElem?_eq_none_iff] at e2 ⊢; rw [rr.length]; exact e2
        exact wpAny_pyNext_enum_end hh he hi hl (by simpa using e3) fun h' sb => q _ ⟨Eq.refl _, Eq.refl _⟩ fun b o n e => sb b o (by simp at n; exact n.2) e

theorem next_enum {e1 I a : Addr} {k : Nat} {old : Value} {x : V} {it' : It} (hw : W h₀ σ s.heap) (hne : e1 ≠ I) (he : IsEnum s.heap e1 I k old) (hi : s.heap.IsListIter I a k) (b : ∀ a ∈ [e1, I], σ a = none ∧ h₀.get? a = none)
    (hn : itNext (.enm k a) σ = some (some (x, it'))) {elts : List Expr} {x1 : Nat} {pos : Pos} {Q : Option Value → Shared → Prop} {E : Value → Shared → Prop}
    (q : ∀ y s', wpAny (model prog w) A (letOwnedTupleGo (.Tuple elts x1 pos) (.ref e1) y) (fun _ s'' => Sm s s'' ∧ Rep s''.heap y x ∧ ItRep s''.heap (.ref e1) [e1, I] it' ∧ (∀ b o, b ∉ [e1, I] → s.heap.get? b = some o → s''.heap.get? b = some o)) E0 s' → Q (some y) s') :
    wpAny (model prog w) A (pyNext (.ref e1)) Q E s := by
  simp only [itNext] at hn
  cases e : listAt σ a with
  | none => rw [e] at hn; cases hn
  | some xs =>
    rw [e] at hn
    dsimp only at hn
    cases e2 : xs[k]? with
    | none => rw [e2] at hn; cases hn
    | some z =>
      rw [e2] at hn; cases hn
      obtain ⟨vs, hl, rr⟩ := hw.list e
      obtain ⟨y, e3, ry⟩ := rr.get e2
      refine wpAny_pyNext_enum_item he hi hl (by simpa using e3) hne fun h' eo hi' ht hz kk => q _ _ ?_
      have hlt : e1 < s.heap.objs.size := Heap.lt_size he
      refine wpAny_letOwnedTupleGo_enum eo fun h'' he' sb => ?_
      have k2 : ∀ b o, b ∉ [e1, I] → s.heap.get? b = some o → h''.get? b = some o := fun b o n e => by
        simp at n
        exact sb.extBut b o n.1 (kk b o n.1 n.2 e)
      have t := (hw.slip (as := [e1, I]) b (ItRep.notImm (it := .enm k a) ⟨e1, I, old, rfl, rfl, hne, he, hi⟩) k2).2
      refine ⟨⟨Eq.refl _, Eq.refl _⟩, ?_, ⟨e1, I, y, rfl, rfl, hne, ?_, hi'.extBut sb.extBut (Ne.symm hne)⟩, k2⟩
      · refine .tup (vs := [.int k s.toks, y]) ⟨_, sb.extBut _ _ (Nat.ne_of_gt hlt) ht, rfl, _, rfl⟩ (.cons (.int _ _) (.cons (ry.tups t) .nil))
      · have : ((k + 1 : Nat) : Int) = (k : Int) + 1 := by omega
        rw [this]; exact he'
end

/-! M8 -/
section
variable {prog : Program} {w : World} {A : Around} {s : Shared} {h₀ : Heap} {mg mb : Str → Option Value} {σ σ' σs : Hp} {c : Cfg} {env : Env} {own : Addr → Prop} {F : Frm} {h h' hs : Heap}

theorem beside_one (hw : W h₀ σ h) {a : Addr} (e : h.get? a = none) : h.get? a = none ∧ σ a = none ∧ h₀.get? a = none :=
  ⟨e, hw.fresh e, by cases q : h₀.get? a with | none => rfl | some o => rw [hw.stays a o q] at e; cases e⟩

inductive Started (en : Bool) (h₀ : Heap) (σ : Hp) (s : Shared) (P : It → Hp → Prop) (it : Value) (s' : Shared) : Prop
  | mk (l0 : Sm s s') (I : It) (as : List Addr) (h1 : (∀ k a, I = .enm k a → en = true)) (h2 : ItRep s'.heap it as I) (h3 : Beside as h₀ σ s.heap) (h4 : (∀ b o, s.heap.get? b = some o → s'.heap.get? b = some o)) (h5 : P I σ) : Started en h₀ σ s P it s'

theorem start_plain {v : Value} {x : V} {P : It → Hp → Prop} (hw : W h₀ σ s.heap) (r : Rep s.heap v x) (q : itStart .plain x P σ) : wpAny (model prog w) A (pyIter v) (Started false h₀ σ s P) E0 s := by
  unfold itStart at q
  have b1 := beside_one hw (get_push_none s.heap)
  split at q
  · obtain ⟨⟨xs, e⟩, q⟩ := q
    obtain rfl := r.iref
    obtain ⟨vs, hl, rr⟩ := hw.list e
    exact wpAny_pyIter_list hl ⟨⟨Eq.refl _, Eq.refl _⟩, .lst _ 0, [s.heap.objs.size], (by intro k a e; cases e), ⟨_, rfl, rfl, _, Heap.get?_push_size _ rfl, rfl, rfl⟩, by intro a m; simp at m; subst m; exact b1, fun b o e => Heap.get?_push_of_some _ e, q⟩
  · obtain ⟨ok, q⟩ := q
    obtain ⟨lr, t, u, w', rfl, hr⟩ := r.irng
    refine wpAny_pyIter_range hr (rok_small ok) ⟨⟨Eq.refl _, Eq.refl _⟩, .rng _ _ _, [s.heap.objs.size], (by intro k a e; cases e), ⟨_, rfl, rfl, ?_⟩, by intro a m; simp at m; subst m; exact b1, fun b o e => Heap.get?_push_of_some _ e, q⟩
    rw [rok_size ok]; exact Heap.get?_push_size _ rfl
  · obtain ⟨a, ws, rfl, y, rr⟩ := r.itup
    refine wpAny_pyIter_tuple (items := ws.toArray) y ⟨⟨Eq.refl _, Eq.refl _⟩, .vals _, [s.heap.objs.size], (by intro k a e; cases e), ⟨_, a, 0, ws, rfl, rfl, ⟨_, Heap.get?_push_size _ rfl, rfl, rfl⟩, Heap.IsTuple.push y _, ?_⟩, by intro a m; simp at m; subst m; exact b1, fun b o e => Heap.get?_push_of_some _ e, q⟩
    exact rr.tups fun a o e _ => Heap.get?_push_of_some _ e
  all_goals first | exact q.elim | (exfalso; simp_all)

/-- names in order -/
theorem store_all : ∀ {es : List Expr} {is : List Nat}, CGs c es is → ∀ {F : Frm} {s : Shared} {ys : List Value} {xs : List V}, W h₀ σ s.heap → FrOk c env own F h₀ σ s.heap → Reps s.heap ys xs → is.length = xs.length →
    ∀ {Q : Unit → Shared → Prop} {E : Value → Shared → Prop}, (∀ s', Sm s s' → StepX own h₀ σ s.heap σ s'.heap → FrOk c env own (setAll is xs F) h₀ σ s'.heap → Q () s') → wpAny (model prog w) A (assignInOrder ((assignEach es env).map (·.2)) ys) Q E s
  | _, _, .nil, F, s, ys, xs, hw, hf, r, hl, Q, E, q => by
    cases xs with
    | nil => obtain rfl := r.inil; exact wpAny_pure (q s .rfl (.refl hw) hf)
    | cons _ _ => simp at hl
  | _, _, .cons (x := x) (p := p) (i := i) (es := es) (is := is) e nf hr, F, s, ys, xs, hw, hf, r, hl, Q, E, q => by
    cases xs with
    | nil => simp at hl
    | cons x1 xs =>
      obtain ⟨v, vs, rfl, r1, rs⟩ := r.icons
      show wpAny _ A (do holding vs (assign (.Name x p) env v); assignInOrder ((assignEach es env).map (·.2)) vs) _ _ _
      refine wpAny_bind (wpAny_holding (wpAny_assign_Name (hf.store hw e nf r1 fun s' m st hf' => ?_)))
      refine store_all hr st.w hf' (rs.step st) (by simpa using hl) fun s'' m' st' hf'' => q s'' (m.trans m') (st.trans st') hf''

theorem cgs_len : ∀ {es : List Expr} {is : List Nat}, CGs c es is → (assignEach es env).length = is.length ∧ (assignEach es env).findIdx? (·.1) = none
  | _, _, .nil => ⟨rfl, rfl⟩
  | _, _, .cons (es := es) _ _ hr => by
    have ih := cgs_len hr
    refine ⟨by show (assignEach es env).length + 1 = _; rw [ih.1]; rfl, ?_⟩
    show List.findIdx? _ ((false, _) :: assignEach es env) = none
    rw [List.findIdx?_cons]
    simp [ih.2]

theorem assign_ok {t : Expr} {tg : Tgt} {y : Value} {x : V} {P : Frm → Prop} (hg : CG c t tg) (hh : A.handled = none) (hw : W h₀ σ s.heap) (hf : FrOk c env own F h₀ σ s.heap) (r : Rep s.heap y x) (q : bindT tg x P F σ)
    {Q : Unit → Shared → Prop} {E : Value → Shared → Prop} (k : ∀ s' F1, P F1 → Sm s s' → StepX own h₀ σ s.heap σ s'.heap → FrOk c env own F1 h₀ σ s'.heap → Q () s') :
    wpAny (model prog w) A (assign t env y) Q E s := by
  cases hg with
  | name e nf => exact wpAny_assign_Name (hf.store hw e nf r fun s' m st hf' => k s' _ q m st hf')
  | tup hgs =>
    unfold bindT at q
    split at q
    · rename_i hh2; cases hh2
    · rename_i hh2; cases hh2
      obtain ⟨hl, q⟩ := q
      obtain ⟨ta, tvs, rfl, z, rr⟩ := r.itup
      obtain ⟨l1, l2⟩ := cgs_len (env := env) hgs
      refine wpAny_assign_Tuple hh z (by rw [l1, hl]; simp [rr.length]) l2 fun h' ext => ?_
      have st : Step h₀ σ s.heap σ h' := hw.extend fun b o e => ext b o (Nat.ne_of_lt (Heap.lt_size e)) e
      refine store_all hgs (s := { s with heap := h' }) st.w (hf.step st) (rr.step st) hl fun s'' m st' hf' => k s'' _ q (Sm.trans ⟨Eq.refl _, Eq.refl _⟩ m) ((Step.any st).trans st') hf'
    · exact q.elim
end

/-! M9 -/
/-! the frame of a comprehension -/
noncomputable def clGo (env : Env) : List (Str × NameKind) → List (Str × Addr) → List (Str × Addr)
  | [], acc => acc
  | (n, k) :: r, acc => if k == .free then clGo env r ((n, (env.cells.lookup n).getD 0) :: acc) else clGo env r acc
theorem closure_go {env : Env} (f : Str × NameKind → List (Str × Addr) → Sem (ForInStep (List (Str × Addr))))
    (hf : ∀ n k cs, f (n, k) cs = if k == .free then (do let a ← cellOf env n; pure (.yield ((n, a) :: cs))) else pure (.yield cs)) :
    ∀ (names : List (Str × NameKind)) (acc : List (Str × Addr)), (∀ n, (n, NameKind.free) ∈ names → (env.cells.lookup n).isSome = true) → forIn names acc f = pure (clGo env names acc)
  | [], acc, _ => by rw [List.forIn_nil]; rfl
  | (n, k) :: r, acc, h => by
    rw [List.forIn_cons, hf]
    unfold clGo
    by_cases q : (k == NameKind.free) = true
    · rw [if_pos q, if_pos q]
      have e : k = .free := by simpa using q
      subst e
      obtain ⟨a, ha⟩ := Option.isSome_iff_exists.mp (h n (.head _))
      have : cellOf env n = pure a := by unfold cellOf; rw [ha]
      rw [this]
      show (forIn r ((n, a) :: acc) f) = _
      rw [closure_go f hf r _ (fun m hm => h m (.tail _ hm)), ha]; rfl
    · rw [if_neg q, if_neg q]
      show (forIn r acc f) = _
      exact closure_go f hf r _ (fun m hm => h m (.tail _ hm))
theorem closureFor_eq {env : Env} {scope : Scope} (h : ∀ n, (n, NameKind.free) ∈ scope.names → (env.cells.lookup n).isSome = true) : closureFor scope env = pure (clGo env scope.names []) := by
  simp only [closureFor]
  rw [closure_go (env := env) _ (fun n k cs => ?_) scope.names [] h]
  · rfl
  · cases hk : k == NameKind.free <;> simp

theorem clGo_not {env : Env} {x : Str} : ∀ (names : List (Str × NameKind)) (acc : List (Str × Addr)), (x, NameKind.free) ∉ names → (clGo env names acc).lookup x = acc.lookup x
  | [], acc, _ => rfl
  | (n, k) :: r, acc, h => by
    unfold clGo
    split
    · rename_i q
      have e : k = .free := by simpa using q
      subst e
      rw [clGo_not r _ (fun m => h (.tail _ m)), List.lookup_cons]
      have : (x == n) = false := by
        cases q : x == n with
        | false => rfl
        | true => exact absurd (by rw [beq_iff_eq.mp q]; exact .head _) h
      rw [this]
    · exact clGo_not r _ (fun m => h (.tail _ m))
theorem clGo_free {env : Env} {x : Str} : ∀ (names : List (Str × NameKind)) (acc : List (Str × Addr)), (names.map (·.1)).Nodup → (x, NameKind.free) ∈ names → (clGo env names acc).lookup x = some ((env.cells.lookup x).getD 0)
  | (n, k) :: r, acc, nd, h => by
    unfold clGo
    simp only [List.map_cons, List.nodup_cons] at nd
    rcases List.mem_cons.mp h with e | h'
    · cases e
      rw [if_pos (by decide), clGo_not r _ (fun m => nd.1 (List.mem_map_of_mem (f := (·.1)) m)), List.lookup_cons]
      simp
    · split <;> exact clGo_free r _ nd.2 h'
theorem clGo_some {env : Env} {x : Str} {a : Addr} : ∀ (names : List (Str × NameKind)) (acc : List (Str × Addr)), (clGo env names acc).lookup x = some a → acc.lookup x = some a ∨ ((x, NameKind.free) ∈ names ∧ a = (env.cells.lookup x).getD 0)
  | [], acc, h => .inl h
  | (n, k) :: r, acc, h => by
    unfold clGo at h
    split at h
    · rename_i q
      have e : k = .free := by simpa using q
      subst e
      rcases clGo_some r _ h with q | ⟨q1, q2⟩
      · rw [List.lookup_cons] at q
        cases hx : x == n with
        | true => rw [hx] at q; cases q; have := beq_iff_eq.mp hx; subst this; exact .inr ⟨.head _, rfl⟩
        | false => rw [hx] at q; exact .inl q
      · exact .inr ⟨.tail _ q1, q2⟩
    · rcases clGo_some r _ h with q | ⟨q1, q2⟩
      · exact .inl q
      · exact .inr ⟨.tail _ q1, q2⟩

noncomputable def relK (env : Env) (x : Str) (k : NameKind) : NameKind := if (k == .free && env.scope.kind == .function && env.kindOf x == some .cell) then .cell else k
theorem lookup_relabel {env : Env} {x : Str} : ∀ (names : List (Str × NameKind)),
    (names.map fun (n, k) => if (k == NameKind.free && env.scope.kind == .function && env.kindOf n == some .cell) then (n, NameKind.cell) else (n, k)).lookup x = (names.lookup x).map (relK env x)
  | [] => rfl
  | (n, k) :: r => by
    have ih := lookup_relabel (env := env) (x := x) r
    show List.lookup x ((if (k == NameKind.free && env.scope.kind == .function && env.kindOf n == some .cell) = true then (n, NameKind.cell) else (n, k)) :: _) = _
    cases hx : x == n with
    | true =>
      have := beq_iff_eq.mp hx; subst this
      unfold relK
      by_cases hc : (k == NameKind.free && env.scope.kind == .function && env.kindOf x == some .cell) = true
      · rw [if_pos hc]; simp only [List.lookup_cons, beq_self_eq_true, Option.map_some, if_pos hc]
      · rw [if_neg hc]; simp only [List.lookup_cons, beq_self_eq_true, Option.map_some, if_neg hc]
    | false =>
      by_cases hc : (k == NameKind.free && env.scope.kind == .function && env.kindOf n == some .cell) = true
      · rw [if_pos hc]; simp only [List.lookup_cons, hx]; exact ih
      · rw [if_neg hc]; simp only [List.lookup_cons, hx]; exact ih

theorem lookup_of_nodup {x : Str} {k : NameKind} : ∀ {names : List (Str × NameKind)}, (names.map (·.1)).Nodup → (x, k) ∈ names → names.lookup x = some k
  | (n, k') :: r, nd, h => by
    simp only [List.map_cons, List.nodup_cons] at nd
    rw [List.lookup_cons]
    rcases List.mem_cons.mp h with e | h'
    · cases e; simp
    · have : (x == n) = false := by
        cases q : x == n with
        | false => rfl
        | true => exact absurd (by rw [← beq_iff_eq.mp q]; exact List.mem_map_of_mem (f := (·.1)) h') nd.1
      rw [this]; exact lookup_of_nodup nd.2 h'
theorem names_mem {c : Cfg} {i : Nat} {x : Str} (h : c.names[i]? = some x) : ∃ k, (c.sc.filter fun x => isVar x.2)[i]? = some (x, k) ∧ (x, k) ∈ c.sc ∧ isVar k = true := by
  unfold Cfg.names at h
  rw [List.getElem?_map] at h
  cases e : (c.sc.filter fun x => isVar x.2)[i]? with
  | none => rw [e] at h; cases h
  | some p =>
    rw [e] at h; cases h
    have := List.mem_of_getElem? e
    have := List.mem_filter.mp this
    exact ⟨p.2, rfl, this.1, this.2⟩
theorem getElem_inj {α : Type} {l : List α} (nd : l.Nodup) {i j : Nat} {x : α} (h1 : l[i]? = some x) (h2 : l[j]? = some x) : i = j := by
  obtain ⟨a, b⟩ := List.getElem?_eq_some_iff.mp h1
  obtain ⟨a', b'⟩ := List.getElem?_eq_some_iff.mp h2
  exact (List.getElem_inj nd).mp (b.trans b'.symm)
theorem nodup_names {c : Cfg} (nd : (c.sc.map (·.1)).Nodup) : c.names.Nodup := by
  unfold Cfg.names
  exact List.Nodup.sublist (List.Sublist.map _ List.filter_sublist) nd


/-- the cells of one's own -/
structure OwnCells (names : List (Str × NameKind)) (C : Addr) (h h' : Heap) (A : List (Str × Addr)) : Prop where
  all : ∀ x, names.lookup x = some .cell → (A.lookup x).isSome = true
  mem : ∀ x a, (x, a) ∈ A → (x, NameKind.cell) ∈ names ∧ h'.IsCell a none ∧ h.get? a = none ∧ a ≠ C
  apart : A.Pairwise fun x y => x.2 ≠ y.2
theorem inner_ok {c : Cfg} {env : Env} {own : Addr → Prop} {F : Frm} {h₀ : Heap} {σ : Hp} {h h' : Heap} {scope : Scope} {C : Addr} {A cl : List (Str × Addr)} (hf : FrOk c env own F h₀ σ h) (ok : scOk c scope.names = true) (hk : scope.kind = .function)
    (hcl : cl = A ++ clGo env scope.names []) (hA : OwnCells scope.names C h h' A) (fresh : ∀ a, h.get? a = none → σ a = none ∧ h₀.get? a = none) (k : ∀ b o, h.get? b = some o → h'.get? b = some o) (hC : h.get? C = none) (hn : h'.Ns C fun _ => none) :
    FrOk { sc := scope.names, fns := c.fns } (compEnvC scope cl C env) (fun a => a ∈ C :: A.map (·.2)) (frOf (fmapOf c scope.names) F) h₀ σ h' := by
  simp only [scOk, Bool.and_eq_true, decide_eq_true_eq, List.all_eq_true] at ok
  obtain ⟨nd, ok⟩ := ok
  have t : Tups h h' := fun a o e _ => k a o e
  have kind : ∀ x, (compEnvC scope cl C env).kindOf x = (scope.names.lookup x).map (relK env x) := fun x => lookup_relabel scope.names
  have vark : ∀ (i : Nat) x, (Cfg.mk scope.names c.fns).names[i]? = some x → ∃ kk, (scope.names.filter fun x => isVar x.2)[i]? = some (x, kk) ∧ (x, kk) ∈ scope.names ∧ scope.names.lookup x = some kk ∧ (kk = .local ∨ kk = .free ∨ kk = .cell) := fun i x e => by
    obtain ⟨kk, e1, e2, e3⟩ := names_mem e
    refine ⟨kk, e1, e2, lookup_of_nodup nd e2, ?_⟩
    have := ok _ e2
    cases kk <;> simp_all [isVar]
  have freeOut : ∀ x, (x, NameKind.free) ∈ scope.names → c.names[c.names.idxOf x]? = some x ∧ (env.kindOf x = some .cell ∨ env.kindOf x = some .free) := fun x m => by
    have o := ok _ m
    simp at o
    have hx : x ∈ c.names := o.1.1
    have e : c.names[c.names.idxOf x]? = some x := by
      have hlt := List.idxOf_lt_length_iff.mpr hx
      rw [List.getElem?_eq_getElem hlt, List.getElem_idxOf hlt]
    refine ⟨e, ?_⟩
    rcases hf.vk _ _ e with ⟨q, _⟩ | ⟨_, q⟩ | ⟨_, q⟩
    · exact absurd q o.1.2
    · exact .inl q
    · exact q
  have noA : ∀ x kk, (x, kk) ∈ scope.names → kk ≠ .cell → A.lookup x = none := fun x kk m hkk => by
    cases e : A.lookup x with
    | none => rfl
    | some a =>
      have m2 := (hA.mem x a (mem_of_lookup e)).1
      have l1 := lookup_of_nodup nd m
      have l2 := lookup_of_nodup nd m2
      rw [l1] at l2; cases l2; exact absurd rfl hkk
  have look : ∀ x, cl.lookup x = (A.lookup x).or ((clGo env scope.names []).lookup x) := fun x => by rw [hcl]; exact List.lookup_append
  refine ⟨hk, hf.glob, hf.bi, fun x e => ?_, fun i x e => ?_, ⟨_, hn, fun i x v e1 e2 e3 => ?_⟩, fun i x e1 e2 => ?_, fun x y a e1 e2 => ?_, ⟨.head _, (fresh C hC).1, (fresh C hC).2⟩, fun i j x e1 e2 => getElem_inj (nodup_names nd) e1 e2, fun a e => ?_⟩
  · rw [kind, show scope.names.lookup x = some NameKind.globalImplicit from e]; simp [relK]
  · obtain ⟨kk, _, m, l, q⟩ := vark i x e
    rcases q with rfl | rfl | rfl
    · exact .inl ⟨l, by rw [kind, l]; simp [relK]⟩
    · refine .inr (.inr ⟨l, ?_⟩)
      rw [kind, l]
      rcases (freeOut x m).2 with q | q
      · exact .inl (by simp [relK, hf.kind, q])
      · exact .inr (by simp [relK, q])
    · exact .inr (.inl ⟨l, by rw [kind, l]; simp [relK]⟩)
  · obtain ⟨kk, g, m, l, q⟩ := vark i x e1
    exfalso
    rcases q with rfl | rfl | rfl
    · unfold frOf fmapOf at e3
      rw [List.getElem?_map, List.getElem?_map, g] at e3
      simp at e3
    · rw [kind, l] at e2
      rcases (freeOut x m).2 with q | q
      · simp [relK, hf.kind, q] at e2
      · simp [relK, q] at e2
    · rw [kind, l] at e2
      simp [relK] at e2
  · obtain ⟨kk, g, m, l, q⟩ := vark i x e1
    rcases q with rfl | rfl | rfl
    · exfalso; apply e2; rw [kind, l]; simp [relK]
    · obtain ⟨q1, q2⟩ := freeOut x m
      obtain ⟨a, cv, g1, g2, g3, g4, g5, g6⟩ := hf.cell _ _ q1 (by rcases q2 with q | q <;> rw [q] <;> simp)
      refine ⟨a, cv, ?_, g2.keeps k, g3, ?_, fun hh => ?_, fun v hv => ?_⟩
      · show cl.lookup x = some a
        rw [look, noA x _ m (by simp), clGo_free _ _ nd m, g1]; rfl
      · rintro rfl; obtain ⟨o, ho, _⟩ := g2; rw [hC] at ho; cases ho
      · rw [show ({ sc := scope.names, fns := c.fns } : Cfg).sc.lookup x = some NameKind.free from l] at hh; cases hh
      · unfold frOf fmapOf at hv
        rw [List.getElem?_map, List.getElem?_map, g] at hv
        simp at hv
        obtain ⟨w, w1, w2⟩ := g6 v (by cases q : F[List.idxOf x c.names]? with | none => rw [q] at hv; cases hv | some z => rw [q] at hv; simp at hv; rw [hv])
        exact ⟨w, w1, w2.tups t⟩
    · obtain ⟨a, ha⟩ := Option.isSome_iff_exists.mp (hA.all x l)
      obtain ⟨_, g2, g3, g4⟩ := hA.mem x a (mem_of_lookup ha)
      refine ⟨a, none, ?_, g2, (fresh a g3).1, g4, fun _ => ⟨.tail _ (List.mem_map.mpr ⟨(x, a), mem_of_lookup ha, rfl⟩), (fresh a g3).2⟩, fun v hv => ?_⟩
      · show cl.lookup x = some a
        rw [look, ha]; rfl
      · exfalso
        unfold frOf fmapOf at hv
        rw [List.getElem?_map, List.getElem?_map, g] at hv
        simp at hv
  · have e1' : cl.lookup x = some a := e1
    have e2' : cl.lookup y = some a := e2
    rw [look] at e1' e2'
    have old : ∀ z b, (clGo env scope.names []).lookup z = some b → (∃ o, h.get? b = some o) ∧ env.cells.lookup z = some b := fun z b e => by
      rcases clGo_some _ _ e with q | ⟨m1, q1⟩
      · cases q
      obtain ⟨p1, p2⟩ := freeOut z m1
      obtain ⟨a1, cv, g1, ⟨o, g2, _⟩, _⟩ := hf.cell _ _ p1 (by rcases p2 with q | q <;> rw [q] <;> simp)
      rw [g1] at q1; simp at q1; subst q1
      exact ⟨⟨o, g2⟩, g1⟩
    cases hx : A.lookup x with
    | some a1 =>
      rw [hx] at e1'; simp at e1'; subst e1'
      cases hy : A.lookup y with
      | some a2 => rw [hy] at e2'; simp at e2'; subst e2'; exact name_of_addr hA.apart (mem_of_lookup hx) (mem_of_lookup hy)
      | none =>
        rw [hy] at e2'; simp at e2'
        obtain ⟨⟨o, q⟩, _⟩ := old y _ e2'
        rw [(hA.mem x _ (mem_of_lookup hx)).2.2.1] at q; cases q
    | none =>
      rw [hx] at e1'; simp at e1'
      cases hy : A.lookup y with
      | some a2 =>
        rw [hy] at e2'; simp at e2'; subst e2'
        obtain ⟨⟨o, q⟩, _⟩ := old x _ e1'
        rw [(hA.mem y _ (mem_of_lookup hy)).2.2.1] at q; cases q
      | none =>
        rw [hy] at e2'; simp at e2'
        exact hf.inj x y a (old x a e1').2 (old y a e2').2
  · rcases List.mem_cons.mp e with rfl | e
    · obtain ⟨o, _, _, ho, _⟩ := hn
      exact ⟨o, ho⟩
    · obtain ⟨⟨x, a'⟩, m, rfl⟩ := List.mem_map.mp e
      obtain ⟨o, ho, _⟩ := (hA.mem x a' m).2.1
      exact ⟨o, ho⟩

/-! M10 -/
theorem BI.boot (f : BI) : bootBuiltins f.name = some f.val := by cases f <;> decide +kernel
theorem BI.notName (f : BI) : f.name ≠ ("__name__" : Str) ∧ (f.name == ("__debug__" : Str)) = false := by cases f <;> decide +kernel
noncomputable def freeNames : List Str := ["len", "min", "max", "sum", "range", "list", "abs", "sorted", "divmod", "reversed", "zip", "iter", "object", "str", "isinstance", "enumerate", "int", "TypeError", "AttributeError", "IndexError"]
theorem BI.mem (f : BI) : f.name ∈ freeNames := by cases f <;> decide +kernel
/-- the frames of the run are namespaces above the ground -/
structure Frs (A : Around) (h₀ : Heap) (σ : Hp) (h : Heap) : Prop where
  go : ∃ l, A.frames = some l ∧ ∀ env ∈ l, env.scope.kind ≠ .module ∧ ∃ L, env.frame = some L ∧ h₀.get? L = none ∧ σ L = none ∧ ∃ o, h.get? L = some o ∧ IsD o
theorem Frs.step {A : Around} {own : Addr → Prop} {h₀ : Heap} {σ σ' : Hp} {h h' : Heap} (f : Frs A h₀ σ h) (st : StepX own h₀ σ h σ' h') : Frs A h₀ σ' h' := by
  obtain ⟨l, e, q⟩ := f.go
  refine ⟨l, e, fun env m => ?_⟩
  obtain ⟨k, L, e1, e2, e3, o, e4, e5⟩ := q env m
  obtain ⟨o', e6, e7⟩ := st.alive L o e4
  exact ⟨k, L, e1, e2, st.grow.none e4 e3, o', e6, e7 e5⟩
/-- the frame on top -/
noncomputable def OnTop (A : Around) (env : Env) : Prop := ∃ l, A.frames = some (env :: l)
/-- a function of this make keeps a contract -/
noncomputable def FdOk (prog : Program) (w : World) (h₀ : Heap) (n : Nat) (fd : FuncData) (Φ : List V → (V → Hp → Prop) → Hp → Prop) : Prop :=
  ∀ (A : Around) (s : Shared) (σ : Hp) (fa : Addr) (o : Obj) (ar : Args) (vals : List Value) (args : List V) (Q : V → Hp → Prop), s.heap.get? fa = some o → o.data = .func fd → (∀ binds, BindsTo s fd ⟨vals, []⟩ binds → BindsTo s fd ar binds) → RoomW A n → Frs A h₀ σ s.heap → W h₀ σ s.heap → Reps s.heap vals args →
    Φ args Q σ → wpAny (model prog w) A (call (.ref fa) ar.pos ar.kw) (PV h₀ σ s Q) E0 s
/-- a def of the text that keeps a contract -/
inductive FnOk (prog : Program) (w : World) (h₀ : Heap) (n : Nat) (fv : Value) (Φ : List V → (V → Hp → Prop) → Hp → Prop) : Prop
  | mk (fa : Addr) (o : Obj) (fd : FuncData) (h1 : fv = .ref fa) (h2 : h₀.get? fa = some o) (h3 : o.data = .func fd) (h4 : FdOk prog w h₀ n fd Φ) : FnOk prog w h₀ n fv Φ
/-- what the ground must show of the names -/
structure NamesOk (prog : Program) (w : World) (h₀ : Heap) (mg : Str → Option Value) (n : Nat) (fns : List Str) (Φ : Fns) : Prop where
  fr : ∀ x ∈ freeNames, mg x = none
  fn : ∀ (i : Nat) x, fns[i]? = some x → ∃ fv, mg x = some fv ∧ FnOk prog w h₀ n fv (Φ i)
  cv : ∀ fd, FdOk prog w h₀ n fd (fun args Q σ => Φ 1000 (.func fd :: args) Q σ)
  gv : ∀ (i : Nat) x fa o fd, fns[i]? = some x → mg x = some (.ref fa) → h₀.get? fa = some o → o.data = .func fd → ∀ σ, Φ 1001 [.int i, .func fd] (fun _ _ => True) σ
  kv : ∀ fa o fd, mg "nsmallest" = some (.ref fa) → h₀.get? fa = some o → o.data = .func fd → ∀ (s : Shared), (∀ b o, h₀.get? b = some o → s.heap.get? b = some o) → ∀ binds a b c,
    (BindsTo s fd ⟨[a, b, c], []⟩ binds → BindsTo s fd ⟨[a, b], [("key", c)]⟩ binds) ∧ (BindsTo s fd ⟨[a, b, .none], []⟩ binds → BindsTo s fd ⟨[a, b], []⟩ binds)

theorem PV.back {h₀ : Heap} {σ σ' : Hp} {s s₁ : Shared} {Q : V → Hp → Prop} {v : Value} {s' : Shared} (p : PV h₀ σ' s₁ Q v s') (st : Step h₀ σ s.heap σ' s₁.heap) (m : Sm s s₁) : PV h₀ σ s Q v s' := by
  obtain ⟨x, σ'', r, ⟨st', m'⟩, q⟩ := p; exact ⟨x, σ'', r, ⟨st.trans st', m.trans m'⟩, q⟩
theorem PB.back {h₀ : Heap} {σ σ' : Hp} {s s₁ : Shared} {Q : Bool → Hp → Prop} {v : Bool} {s' : Shared} (p : PB h₀ σ' s₁ Q v s') (st : Step h₀ σ s.heap σ' s₁.heap) (m : Sm s s₁) : PB h₀ σ s Q v s' := by
  obtain ⟨σ'', ⟨st', m'⟩, q⟩ := p; exact ⟨σ'', ⟨st.trans st', m.trans m'⟩, q⟩
inductive PVs (h₀ : Heap) (σ : Hp) (s : Shared) (Q : List V → Hp → Prop) (v : List Value) (s' : Shared) : Prop
  | mk (x : List V) (σ' : Hp) (h1 : Reps s'.heap v x) (h2 : (Step h₀ σ s.heap σ' s'.heap ∧ Sm s s')) (h3 : Q x σ') : PVs h₀ σ s Q v s'

theorem PV.on {h₀ : Heap} {σ : Hp} {s s' : Shared} {Q : V → Hp → Prop} {v : Value} {R : Prop} (k : ∀ x σ', Rep s'.heap v x → Step h₀ σ s.heap σ' s'.heap → Sm s s' → Q x σ' → R) (p : PV h₀ σ s Q v s') : R := by
  obtain ⟨x, σ', r, ⟨st, m⟩, q⟩ := p; exact k x σ' r st m q
theorem PVs.on {h₀ : Heap} {σ : Hp} {s s' : Shared} {Q : List V → Hp → Prop} {v : List Value} {R : Prop} (k : ∀ x σ', Reps s'.heap v x → Step h₀ σ s.heap σ' s'.heap → Sm s s' → Q x σ' → R) (p : PVs h₀ σ s Q v s') : R := by
  obtain ⟨x, σ', r, ⟨st, m⟩, q⟩ := p; exact k x σ' r st m q
theorem PB.on {h₀ : Heap} {σ : Hp} {s s' : Shared} {Q : Bool → Hp → Prop} {v : Bool} {R : Prop} (k : ∀ σ', Step h₀ σ s.heap σ' s'.heap → Sm s s' → Q v σ' → R) (p : PB h₀ σ s Q v s') : R := by
  obtain ⟨σ', ⟨st, m⟩, q⟩ := p; exact k σ' st m q
theorem list_slots (m : Meth) : Slot "list" m.name m.id ∧ typeOf (.builtin m.id) = pure (.type "method_descriptor") := by
  cases m
  · exact ⟨PySem.F.slot_list_append, by kernel_rfl⟩
  · exact ⟨PySem.F.slot_list_extend, by kernel_rfl⟩
  · exact ⟨PySem.F.slot_list_pop, by kernel_rfl⟩
  · exact ⟨PySem.F.slot_list_index, by kernel_rfl⟩
  · exact ⟨PySem.F.slot_list_reverse, by kernel_rfl⟩
  · exact ⟨PySem.F.slot_list_sort, by kernel_rfl⟩

section
variable {prog : Program} {w : World} {h₀ : Heap} {mg mb : Str → Option Value} {Φ : Fns} {n : Nat} {fns : List Str}

theorem load_glob (G : Gnd prog h₀ mg mb) {A : Around} {s : Shared} {σ : Hp} {c : Cfg} {env : Env} {own : Addr → Prop} {F : Frm} (hw : W h₀ σ s.heap) (hf : FrOk c env own F h₀ σ s.heap) {x : Str} {p : Pos} {v : Value}
    (k : c.sc.lookup x = some .globalImplicit) (hd : (x == ("__debug__" : Str)) = false) (hv : mg x = some v ∨ (mg x = none ∧ mb x = some v)) {Q : Value → Shared → Prop} {E : Value → Shared → Prop} (q : Q v s) :
    wpAny (model prog w) A (eval (.Name x p) env) Q E s := by
  refine Calls.Name_function_global hf.kind (hf.gk x k) ?_ hd
  rcases hv with e | ⟨e1, e2⟩
  · exact Calls.loadGlobal_global (by rw [hf.glob]; exact G.g.keeps hw.stays) e q
  · exact Calls.loadGlobal_builtin (by rw [hf.glob]; exact G.g.keeps hw.stays) e1 (by rw [hf.bi]; exact G.b.keeps hw.stays) e2 q

/-- where a text stands -/
structure Here (prog : Program) (w : World) (h₀ : Heap) (mg mb : Str → Option Value) (Φ : Fns) (n : Nat) (c : Cfg) (A : Around) (s : Shared) (σ : Hp) (env : Env) (own : Addr → Prop) (F : Frm) : Prop where
  G : Gnd prog h₀ mg mb
  NM : NamesOk prog w h₀ mg n c.fns Φ
  R : Room A n
  w : W h₀ σ s.heap
  f : FrOk c env own F h₀ σ s.heap
  fs : Frs A h₀ σ s.heap
theorem Here.step {c : Cfg} {A : Around} {s s' : Shared} {σ σ' : Hp} {env : Env} {own : Addr → Prop} {F : Frm} (X : Here prog w h₀ mg mb Φ n c A s σ env own F) (st : Step h₀ σ s.heap σ' s'.heap) : Here prog w h₀ mg mb Φ n c A s' σ' env own F := ⟨X.G, X.NM, X.R, st.w, X.f.step st, X.fs.step st⟩
end
/-- an expression is what its walk says -/
noncomputable def CE (c : Cfg) (e : Expr) (p : PE) : Prop := ∀ {prog : Program} {w : World} {h₀ : Heap} {mg mb : Str → Option Value} {Φ : Fns} {n : Nat} {A : Around} {s : Shared} {σ : Hp} {env : Env} {own : Addr → Prop} {F : Frm} {Q : V → Hp → Prop},
  Here prog w h₀ mg mb Φ n c A s σ env own F → vE Φ p Q F σ → wpAny (model prog w) A (eval e env) (PV h₀ σ s Q) E0 s
/-- a test -/
noncomputable def CT (c : Cfg) (e : Expr) (p : PE) : Prop := ∀ {prog : Program} {w : World} {h₀ : Heap} {mg mb : Str → Option Value} {Φ : Fns} {n : Nat} {A : Around} {s : Shared} {σ : Hp} {env : Env} {own : Addr → Prop} {F : Frm} {P : Bool → Hp → Prop},
  Here prog w h₀ mg mb Φ n c A s σ env own F → vT Φ p P F σ → wpAny (model prog w) A (isTrue e env (eval e env)) (PB h₀ σ s P) E0 s
inductive CEs (c : Cfg) : List Expr → List PE → Prop
  | nil : CEs c [] []
  | cons {e : Expr} {a : PE} {es : List Expr} {as : List PE} : CE c e a → CEs c es as → (∀ env, starEach (e :: es) env = (false, eval e env) :: starEach es env) → CEs c (e :: es) (a :: as)
inductive CO (c : Cfg) : Option Expr → Option PE → Prop
  | none : CO c none none
  | some {e : Expr} {a : PE} : CE c e a → CO c (some e) (some a)
inductive CTs (c : Cfg) : List Expr → List PE → Prop
  | nil : CTs c [] []
  | cons {e : Expr} {a : PE} {es : List Expr} {as : List PE} : CT c e a → CTs c es as → CTs c (e :: es) (a :: as)
section
variable {prog : Program} {w : World} {h₀ : Heap} {mg mb : Str → Option Value} {Φ : Fns} {n : Nat} {fns : List Str}

theorem star_plain {c : Cfg} {env : Env} {pos : Pos} : ∀ {es : List Expr} {as : List PE}, CEs c es as → (backTo pos (starEach es env)).any (·.1) = false
  | _, _, .nil => rfl
  | _, _, .cons (es := es) _ h hs => by
    rw [hs env]
    show (false || (backTo pos (starEach es env)).any (·.1)) = false
    rw [star_plain h]; rfl

theorem evalArgs_ces {c : Cfg} {es : List Expr} {as : List PE} {env : Env} {pos : Pos} {M : Model} {A : Around} {s : Shared} {E : Value → Shared → Prop} {f : Value} {Q : Args → Shared → Prop} (h : CEs c es as)
    (q : wpAny M A (spliced (backTo pos (starEach es env))) (fun vs s' => Q ⟨vs, []⟩ s') E s) : wpAny M A (evalArgs f true (backTo pos (starEach es env)) []) Q E s := by
  cases h with
  | nil =>
    have q' : wpAny M A (spliced []) (fun vs s' => Q ⟨vs, []⟩ s') E s := q
    show wpAny M A (evalArgs f true [] []) Q E s
    unfold evalArgs
    show wpAny M A (spliced [] >>= _) Q E s
    refine wpAny_bind (wpAny_mono q' (fun vs s' h' => wpAny_bind (wpAny_pure ?_)) fun _ _ x => x)
    refine wpAny_holding ?_
    exact wpAny_bind (wpAny_pure (wpAny_bind (wpAny_pure (wpAny_pure h'))))
  | cons h1 h2 hs =>
    rw [hs env] at q ⊢
    exact Calls.evalArgs_plain q
end

/-! M11 -/
theorem StepX.drop {own : Addr → Prop} {h₀ : Heap} {σ σ' : Hp} {h h' : Heap} (x : StepX own h₀ σ h σ' h') (n : ∀ a, own a → h.get? a = none) : Step h₀ σ h σ' h' :=
  ⟨x.w, fun a o m _ d e => x.keep a o m (fun q => by rw [n a q] at e; cases e) d e, fun a o m _ d e => x.dict a o m (fun q => by rw [n a q] at e; cases e) d e, x.grow, x.tups, x.alive⟩
theorem Beside.of_grow {as : List Addr} {h₀ : Heap} {σ σ' : Hp} {hb h : Heap} (b : Beside as h₀ σ hb) (g : Grow σ h σ') (e : ∀ a ∈ as, ∃ o, h.get? a = some o) : Beside as h₀ σ' hb := fun a m => by
  obtain ⟨o, q⟩ := e a m
  exact ⟨(b a m).1, g.none q (b a m).2.1, (b a m).2.2⟩
theorem ItRep.there {h : Heap} {v : Value} {as : List Addr} {it : It} (r : ItRep h v as it) : ∀ a ∈ as, ∃ o, h.get? a = some o := by
  intro a m
  cases it with
  | lst b k => obtain ⟨I, _, rfl, o', e', _⟩ := r; simp at m; subst m; exact ⟨_, e'⟩
  | rng x n c => obtain ⟨I, _, rfl, e'⟩ := r; simp at m; subst m; exact ⟨_, e'⟩
  | vals vs => obtain ⟨I, t, k, ws, _, rfl, ⟨o', e', _⟩, _⟩ := r; simp at m; subst m; exact ⟨_, e'⟩
  | enm k b =>
    obtain ⟨e1, I, old, _, rfl, _, e', o', e2, _⟩ := r
    simp at m
    rcases m with rfl | rfl
    · exact ⟨_, e'⟩
    · exact ⟨_, e2⟩

noncomputable def Sub0 (F F' : Frm) : Prop := ∀ (i : Nat) v, F[i]? = some (some v) → F'[i]? = some (some v)
theorem FrOk.weak {c : Cfg} {env : Env} {own : Addr → Prop} {F F' : Frm} {h₀ : Heap} {σ : Hp} {h : Heap} (f : FrOk c env own F' h₀ σ h) (s : Sub0 F F') : FrOk c env own F h₀ σ h :=
  ⟨f.kind, f.glob, f.bi, f.gk, f.vk, (by obtain ⟨m, a, b⟩ := f.ns; exact ⟨m, a, fun i x v e1 e2 e3 => b i x v e1 e2 (s i v e3)⟩),
   (fun i x e1 e2 => by obtain ⟨a, cv, g1, g2, g3, g4, g5, g6⟩ := f.cell i x e1 e2; exact ⟨a, cv, g1, g2, g3, g4, g5, fun v hv => g6 v (s i v hv)⟩), f.inj, f.loc, f.nd, f.ex⟩

/-- slots that hold nothing -/
noncomputable def Tgt.free (t : Tgt) (F : Frm) : Prop := match t with | .name i => ∀ v, F[i]? ≠ some (some v) | .tup is => ∀ i ∈ is, ∀ v, F[i]? ≠ some (some v)
theorem sub_set {F : Frm} {i : Nat} {x : V} (h : ∀ v, F[i]? ≠ some (some v)) : Sub0 F (F.set i (some x)) := fun j v e => by
  by_cases q : i = j
  · subst q; exact absurd e (h v)
  · rw [List.getElem?_set_ne q]; exact e
theorem sub_setAll : ∀ (is : List Nat) (xs : List V) (F G : Frm), (∀ i ∈ is, ∀ v, F[i]? ≠ some (some v)) → Sub0 F G → Sub0 F (setAll is xs G)
  | [], _, F, G, _, h => by simpa [setAll] using h
  | i :: is, [], F, G, _, h => by simpa [setAll] using h
  | i :: is, x :: xs, F, G, hn, h => by
    unfold setAll
    refine sub_setAll is xs F _ (fun j m => hn j (.tail _ m)) fun j v e => ?_
    by_cases q : i = j
    · subst q; exact absurd e (hn _ (.head _) v)
    · rw [List.getElem?_set_ne q]; exact h j v e
theorem bind_sub {t : Tgt} {x : V} {P : Frm → Prop} {F : Frm} {σ : Hp} (h : bindT t x P F σ) (f : t.free F) : bindT t x (fun F1 => P F1 ∧ Sub0 F F1) F σ := by
  unfold bindT at h ⊢
  split at h
  · exact ⟨h, sub_set f⟩
  · exact ⟨h.1, h.2, sub_setAll _ _ _ _ f (fun _ _ e => e)⟩
  · exact h
theorem inner_free_at {c : Cfg} {scope : Scope} {F : Frm} (ok : scOk c scope.names = true) {i : Nat} {x : Str} (e : (Cfg.mk scope.names c.fns).names[i]? = some x) (nf : (Cfg.mk scope.names c.fns).sc.lookup x ≠ some .free) :
    ∀ v, (frOf (fmapOf c scope.names) F)[i]? ≠ some (some v) := by
  intro v h
  simp only [scOk, Bool.and_eq_true, decide_eq_true_eq, List.all_eq_true] at ok
  obtain ⟨kk, g, m, l⟩ := names_mem e
  have lk := lookup_of_nodup ok.1 m
  have hk : kk ≠ .free := by rintro rfl; exact nf lk
  unfold frOf fmapOf at h
  rw [List.getElem?_map, List.getElem?_map, g] at h
  simp [hk] at h
theorem inner_free {c : Cfg} {scope : Scope} {F : Frm} (ok : scOk c scope.names = true) {t : Expr} {tg : Tgt} (h : CG { sc := scope.names, fns := c.fns } t tg) : tg.free (frOf (fmapOf c scope.names) F) := by
  cases h with
  | name e nf => exact inner_free_at ok e nf
  | tup hg =>
    show ∀ i ∈ _, _
    exact go hg
where
  go : ∀ {es : List Expr} {is : List Nat}, CGs { sc := scope.names, fns := c.fns } es is → ∀ i ∈ is, ∀ v, (frOf (fmapOf c scope.names) F)[i]? ≠ some (some v)
  | _, _, .nil, i, m => by cases m
  | _, _, .cons e nf hr, i, m => by
    rcases List.mem_cons.mp m with rfl | m
    · exact inner_free_at ok e nf
    · exact go hr i m

section
variable {prog : Program} {w : World} {A : Around} {R : Result → Shared → Prop} {s : Shared}
theorem compLoop_gen {elt target iter : Expr} {ifs : List Expr} {scope : Scope} {pos : Pos} {it acc : Value} {env : Env} (I : Nat → Shared → Prop)
    (turn : ∀ n s, I n s → wpAny (model prog w) A (pyNext it) (fun r s₁ => match r with
      | none => R (.ok .next) s₁
      | some v => wpAny (model prog w) A (letOwnedTupleGo target it v) (fun _ s₁' => wpAny (model prog w) A (assign target env v) (fun _ s₂ =>
          wpAny (model prog w) A (forIn ifs true fun c r => if r = true then do let ok ← isTrue c env (eval c env); pure (ForInStep.yield ok) else pure (ForInStep.yield r)) (fun ok s₃ =>
            if ok = true then wpAny (model prog w) A (eval elt env) (fun x s₄ =>
              wpAny (model prog w) A (call (.builtin "list.append") [acc, x]) (fun _ s₅ => ∃ m, m < n ∧ I m s₅) E0 s₄) E0 s₃
            else ∃ m, m < n ∧ I m s₃) E0 s₂) E0 s₁') E0 s₁) E0 s)
    (n : Nat) (h : I n s) :
    codeAny (model prog w) A (.compLoop (.ListComp elt [⟨target, iter, ifs, 0⟩] scope pos) 0 it acc env) R s := by
  refine codeAny_loop rfl I (fun n s hI => ?_) n h
  show wpAny _ A ((compTurn (.ListComp elt [⟨target, iter, ifs, 0⟩] scope pos) 0 it acc env).onRaise (fun x => do noteFrame x env; theTreesLotGoes x)) _ _ s
  refine wpAny_noted ?_
  rw [compTurn_list]
  have e0 : ∀ (E : Value → Shared → Prop) e s, E0 e s → E e s := fun _ _ _ f => f.elim
  refine wpAny_bind (wpAny_standAt (wpAny_bind (wpAny_mono (turn n s hI) (fun r s₁ h₁ => ?_) (e0 _))))
  cases r with
  | none => exact wpAny_pure h₁
  | some v =>
    refine wpAny_bind (wpAny_mono h₁ (fun _ s₁' h₁' => ?_) (e0 _))
    refine wpAny_bind (wpAny_mono h₁' (fun _ s₂ h₂ => wpAny_bind (wpAny_mono h₂ (fun ok s₃ h₃ => ?_) (e0 _))) (e0 _))
    cases ok with
    | true =>
      simp only [if_true] at h₃ ⊢
      exact wpAny_bind (wpAny_bind (wpAny_mono h₃ (fun x s₄ h₄ => wpAny_bind (wpAny_mono h₄ (fun _ s₅ h₅ => wpAny_pure (wpAny_pure ⟨rfl, h₅⟩)) (e0 _))) (e0 _)))
    | false =>
      simp only [Bool.false_eq_true, if_false] at h₃ ⊢
      exact wpAny_pure ⟨rfl, h₃⟩
end

/-! M12 -/
theorem letGo_at {prog : Program} {w : World} {A : Around} {s : Shared} {t : Expr} {I : Addr} {o : Obj} {T : String} {vs : Array Value} {y : Value} {Q : Unit → Shared → Prop} {E : Value → Shared → Prop} (e : s.heap.get? I = some o) (hc : o.cls = .type T) (hd : o.data = .fields vs)
    (hT : ["enumerate", "zip", "dict_itemiterator", "dict_reverseitemiterator", "odict_iterator", "itertools.zip_longest", "itertools.pairwise"].contains T = false) (q : Q () s) : wpAny (model prog w) A (letOwnedTupleGo t (.ref I) y) Q E s := by
  have key : wpAny (model prog w) A (do
      let (.ref r, .ref a) := (Value.ref I, y) | return
      let o ← load r
      match o.cls, o.data with
      | .type n, .fields vs =>
        if ["enumerate", "zip", "dict_itemiterator", "dict_reverseitemiterator", "odict_iterator", "itertools.zip_longest", "itertools.pairwise"].contains n && vs[0]? == some (rawInt a) then
          rule "for.unpacks-the-owned-tuple"
          updateField r 0 .none
      | _, _ => pure ()) Q E s := by
    cases y with
    | ref a =>
      refine wpAny_bind (wpAny_load e ?_)
      rw [hc, hd]
      dsimp only
      rw [hT]
      exact wpAny_pure q
    | _ => exact wpAny_pure q
  unfold letOwnedTupleGo
  split
  · exact key
  · exact key
  · exact wpAny_pure q
theorem letGo_it {prog : Program} {w : World} {A : Around} {s : Shared} {t : Expr} {iv : Value} {as : List Addr} {it : It} {y : Value} {Q : Unit → Shared → Prop} {E : Value → Shared → Prop} (r : ItRep s.heap iv as it) (hk : (∀ k a, it = .enm k a → False)) (q : Q () s) :
    wpAny (model prog w) A (letOwnedTupleGo t iv y) Q E s := by
  cases it with
  | lst b k => obtain ⟨I, rfl, rfl, o', e', c', d'⟩ := r; exact letGo_at e' c' d' (by decide) q
  | rng x n c => obtain ⟨I, rfl, rfl, e'⟩ := r; exact letGo_at e' rfl rfl (by decide) q
  | vals vs => obtain ⟨I, t, k, ws, rfl, rfl, ⟨o', e', c', d'⟩, _⟩ := r; exact letGo_at e' c' d' (by decide) q
  | enm k b => exact (hk _ _ rfl).elim
theorem pyIter_self {prog : Program} {w : World} {A : Around} {s : Shared} {iv : Value} {as : List Addr} {it : It} {Q : Value → Shared → Prop} {E : Value → Shared → Prop} (hh : A.handled = none) (r : ItRep s.heap iv as it) (q : Q iv s) :
    wpAny (model prog w) A (pyIter iv) Q E s := by
  cases it with
  | lst b k => obtain ⟨I, rfl, rfl, hi⟩ := r; exact wpAny_pyIter_listiter hi q
  | rng x n c =>
    obtain ⟨I, rfl, rfl, hi⟩ := r
    exact (Walks.range hh I x c n).self 0 s Q E (by simpa using hi) q
  | vals vs =>
    obtain ⟨I, t, k, ws, rfl, rfl, hi, ht, _⟩ := r
    have hne : t ≠ I := by
      rintro rfl
      obtain ⟨o, e, c, _⟩ := hi
      obtain ⟨o', e', c', _⟩ := ht
      rw [e] at e'; cases e'; rw [c] at c'; simp at c'
    exact (Walks.tuple hh I t hne ws.toArray).self k s Q E ⟨hi, ht⟩ q
  | enm k b => obtain ⟨e1, I, old, rfl, rfl, hne, he, hi⟩ := r; exact wpAny_pyIter_enum he q
theorem next_kind {it it' : It} {σ : Hp} {x : V} (hn : itNext it σ = some (some (x, it'))) (hk : (∀ k a, it = .enm k a → False)) : (∀ k a, it' = .enm k a → False) := by
  intro k a e
  subst e
  cases it with
  | lst b j =>
    simp only [itNext] at hn
    split at hn
    · split at hn <;> simp at hn
    · cases hn
  | rng x n c => cases n <;> simp [itNext] at hn
  | vals vs => cases vs <;> simp [itNext] at hn
  | enm k b => exact hk _ _ rfl

theorem lobj_notD {vs : List Value} {k : Nat} : ¬ IsD (LObj vs k) := fun ⟨_, _, d⟩ => by cases d
/-- what iterators beside the abstract heap are -/
structure Stand (as : List Addr) (P : Heap → Prop) : Prop where
  move : ∀ {h h' : Heap}, P h → (∀ a ∈ as, ∀ o, h.get? a = some o → h'.get? a = some o) → Tups h h' → P h'
  notImm : ∀ {h : Heap}, P h → ∀ a ∈ as, ∀ o, h.get? a = some o → ¬ Imm o
  there : ∀ {h : Heap}, P h → ∀ a ∈ as, ∃ o, h.get? a = some o
  notD : ∀ {h : Heap}, P h → ∀ a ∈ as, ∀ o, h.get? a = some o → ¬ IsD o
abbrev ItAt (iv : Value) (as : List Addr) (I : It) (h : Heap) : Prop := ItRep h iv as I
theorem stand_it {iv : Value} {as : List Addr} {I : It} : Stand as (ItAt iv as I) := ⟨fun x k t => ItRep.move x k t, fun x => ItRep.notImm x, fun x => ItRep.there x, fun x => ItRep.notD x⟩
/-- how a comprehension stands amid its turns -/
structure CSt (c : Cfg) (env : Env) (Cs : List Addr) (D : Addr) (as : List Addr) (P : Heap → Prop) (F0 : Frm) (h₀ : Heap) (σb : Hp) (hb : Heap) (acc : List V) (σ : Hp) (h : Heap) : Prop where
  it : P h
  sd : Stand as P
  lst : ∃ vs k, h.get? D = some (LObj vs k) ∧ Reps h vs acc
  fr : FrOk c env (fun a => a ∈ Cs) F0 h₀ σ h
  st : Step h₀ σb hb σ h
  bD : hb.get? D = none ∧ σ D = none ∧ h₀.get? D = none
  bC : Beside Cs h₀ σ hb
  bI : Beside as h₀ σ hb
  ne : D ∉ Cs ∧ D ∉ as ∧ ∀ a ∈ Cs, a ∉ as
  cl : ∀ y a, env.cells.lookup y = some a → a ∉ as ∧ a ≠ D ∧ (a ∈ Cs ∨ ∃ o, hb.get? a = some o)

section
variable {prog : Program} {w : World} {A : Around} {s : Shared} {c : Cfg} {env : Env} {Cs : List Addr} {D : Addr} {as : List Addr} {P P' : Heap → Prop} {F0 F1 : Frm} {h₀ : Heap} {σb σ σ' : Hp} {hb h h' : Heap} {acc : List V}

theorem CSt.step (x : CSt c env Cs D as P F0 h₀ σb hb acc σ h) (y : Step h₀ σ h σ' h') : CSt c env Cs D as P F0 h₀ σb hb acc σ' h' := by
  obtain ⟨vs, k, e, r⟩ := x.lst
  refine ⟨x.sd.move x.it (fun a m o e => y.keeps a o (none_mut (x.bI a m).2.1) (x.sd.notD x.it a m o e) e) y.tups, x.sd, ⟨vs, k, y.keeps D _ (none_mut x.bD.2.1) lobj_notD e, r.step y⟩, x.fr.step y, x.st.trans y, ⟨x.bD.1, y.grow.none e x.bD.2.1, x.bD.2.2⟩, x.bC.of_grow y.grow (fun a m => x.fr.ex a m), x.bI.of_grow y.grow (x.sd.there x.it), x.ne, x.cl⟩
/-- the iterator has moved on -/
theorem CSt.moved (x : CSt c env Cs D as P F0 h₀ σb hb acc σ h) (k : ∀ b o, b ∉ as → h.get? b = some o → h'.get? b = some o) (it' : P' h') (sd' : Stand as P') : CSt c env Cs D as P' F0 h₀ σb hb acc σ h' := by
  have t := (x.st.w.slip (fun a m => (x.bI a m).2) (x.sd.notImm x.it) k).2
  have st := StepX.slip x.st x.bI (x.sd.notImm x.it) k
  refine ⟨it', sd', ?_, ?_, st, x.bD, x.bC, x.bI, x.ne, x.cl⟩
  · obtain ⟨vs, j, e, r⟩ := x.lst
    exact ⟨vs, j, k D _ x.ne.2.1 e, r.tups t⟩
  · refine x.fr.move (fun o e => k _ o (x.ne.2.2 _ x.fr.loc.1) e) (fun y a e o e2 => k a o (x.cl y a e).1 e2) t (fun a m => ?_)
    obtain ⟨o, e⟩ := x.fr.ex a m
    exact ⟨o, k a o (x.ne.2.2 a m) e⟩
/-- the target is bound -/
theorem CSt.bound (x : CSt c env Cs D as P F0 h₀ σb hb acc σ h) (y : StepX (fun a => a ∈ Cs) h₀ σ h σ h') (f : FrOk c env (fun a => a ∈ Cs) F1 h₀ σ h') : CSt c env Cs D as P F1 h₀ σb hb acc σ h' := by
  obtain ⟨vs, k, e, r⟩ := x.lst
  refine ⟨x.sd.move x.it (fun a m o e => y.keep a o (none_mut (x.bI a m).2.1) (fun q => x.ne.2.2 a q m) (x.sd.notD x.it a m o e) e) y.tups, x.sd, ⟨vs, k, y.keep D _ (none_mut x.bD.2.1) x.ne.1 lobj_notD e, r.step y⟩, f, ?_, x.bD, x.bC, x.bI, x.ne, x.cl⟩
  exact StepX.drop ((Step.any x.st).trans y) fun a q => (x.bC a q).1
/-- an item is laid down -/
theorem CSt.append (x : CSt c env Cs D as P F1 h₀ σb hb acc σ s.heap) (sub : Sub0 F0 F1) {y : V} {v : Value} (r : Rep s.heap v y) (hb' : acc.length < BIG) {Q : Value → Shared → Prop} {E : Value → Shared → Prop}
    (q : ∀ s', Sm s s' → CSt c env Cs D as P F0 h₀ σb hb (acc ++ [y]) σ s'.heap → Q .none s') : wpAny (model prog w) A (call (.builtin "list.append") [.ref D, v]) Q E s := by
  obtain ⟨vs, k, e, rr⟩ := x.lst
  have hlen := rr.length
  refine call_meets PySem.F.slot_list_append ⟨_, e, rfl⟩ PySem.F.entry_list_append (PySem.F.args_list_append_2 _ _) (AutoListH.list_append_list_val_0 _ vs.toArray k _ (by simp; exact big_line (by omega))) ⟨e, ?_⟩
  have kk : ∀ b o, b ∉ [D] → s.heap.get? b = some o → (s.heap.update D (Obj.mapSeq fun x => x.push v)).get? b = some o := fun b o n e => (Heap.SameBut.update ..).extBut b o (by simpa using n) e
  have ni : ∀ a ∈ [D], ∀ o, s.heap.get? a = some o → ¬ Imm o := fun a m o e' i => by
    simp at m; subst m; rw [e] at e'; cases e'
    rcases i with i | i | i | i <;> simp [LObj] at i
  have bD : Beside [D] h₀ σ hb := fun a m => by simp at m; subst m; exact x.bD
  have t := (x.st.w.slip (fun a m => (bD a m).2) ni kk).2
  have nd : ∀ a ∈ Cs, a ∉ [D] := fun a m m' => by simp at m'; subst m'; exact x.ne.1 m
  refine q _ ⟨Eq.refl _, Eq.refl _⟩ ⟨x.sd.move x.it (fun a m o e => kk a o (by simp; rintro rfl; exact x.ne.2.1 m) e) t, x.sd, ?_, ?_, StepX.slip x.st bD ni kk, x.bD, x.bC, x.bI, x.ne, x.cl⟩
  · obtain ⟨m, g⟩ := LObj.update e (fun x => x.push v)
    refine ⟨_, m, g, ?_⟩
    have : ((fun x : Array Value => x.push v) vs.toArray).toList = vs ++ [v] := by simp
    rw [this]
    exact (rr.tups t).append (.cons (r.tups t) .nil)
  · refine (x.fr.weak sub).move (fun o e => kk _ o (nd _ x.fr.loc.1) e) (fun y a e o e2 => kk a o (by simp; exact (x.cl y a e).2.1) e2) t (fun a m => ?_)
    obtain ⟨o, e⟩ := x.fr.ex a m
    exact ⟨o, kk a o (nd a m) e⟩
theorem CSt.weak (x : CSt c env Cs D as P F1 h₀ σb hb acc σ h) (sub : Sub0 F0 F1) : CSt c env Cs D as P F0 h₀ σb hb acc σ h := ⟨x.it, x.sd, x.lst, x.fr.weak sub, x.st, x.bD, x.bC, x.bI, x.ne, x.cl⟩
end

/-- cells laid behind those of the closure -/
theorem cellsFrom_app : ∀ (names : List (Str × NameKind)) (n : Nat) (a b : List (Str × Addr)), cellsFrom n names (a ++ b) = cellsFrom n names a ++ b
  | [], n, a, b => rfl
  | (x, k) :: r, n, a, b => by
    unfold cellsFrom; split
    · exact cellsFrom_app r (n + 1) ((x, n) :: a) b
    · exact cellsFrom_app r n a b
theorem cells_mem {x : Str} {a : Addr} : ∀ (names : List (Str × NameKind)) (n : Nat) (acc : List (Str × Addr)), (x, a) ∈ cellsFrom n names acc → (x, a) ∈ acc ∨ (x, NameKind.cell) ∈ names
  | [], n, acc, h => .inl h
  | (y, k) :: r, n, acc, h => by
    unfold cellsFrom at h
    split at h
    · rename_i hk
      have e : k = .cell := by simpa using hk
      subst e
      rcases cells_mem r _ _ h with q | q
      · rcases List.mem_cons.mp q with q | q
        · cases q; exact .inr (.head _)
        · exact .inl q
      · exact .inr (.tail _ q)
    · rcases cells_mem r _ _ h with q | q
      · exact .inl q
      · exact .inr (.tail _ q)
theorem newEnv_cells {M : Model} {A : Around} {E : Value → Shared → Prop} {s : Shared} {scope : Scope} {globals : Addr} {cl : List (Str × Addr)} {qual : Str} {outer : Env} {Q : Env → Shared → Prop}
    (hQ : ∀ h' Ac, h'.Ns s.heap.objs.size (fun _ => none) → (∀ b o, s.heap.get? b = some o → h'.get? b = some o) → OwnCells scope.names s.heap.objs.size s.heap h' Ac →
      Q { scope, locals := s.heap.objs.size, globals, cells := Ac ++ cl, qual, func := none, code := outer.code, frame := outer.frame, builtins := outer.builtins } { s with heap := h' }) :
    wpAny M A (newFunctionEnv scope globals cl [] qual none .none (some outer)) Q E s := by
  simp only [newFunctionEnv, Option.isSome_some, if_true]
  refine wpAny_bind (wpAny_alloc ?_)
  refine wpAny_bind (wpAny_layCells _ (fun name kind cells => by cases hkc : kind == NameKind.cell <;> simp [hkc]) _ _ _ _ ?_)
  refine wpAny_bind ?_
  rw [List.forIn_nil]
  refine wpAny_pure (wpAny_pure ?_)
  have sz : ({ s with heap := s.heap.push { cls := .type "dict", data := .dict #[] } } : Shared).heap.objs.size = s.heap.objs.size + 1 := Heap.size_push ..
  rw [sz]
  have e0 : cellsFrom (s.heap.objs.size + 1) scope.names cl = cellsFrom (s.heap.objs.size + 1) scope.names [] ++ cl := cellsFrom_app scope.names _ [] cl
  rw [e0]
  have ok := cellsFrom_ok scope.names (s.heap.push { cls := .type "dict", data := .dict #[] }) (s.heap.objs.size + 1) [] ⟨fun _ _ hm => (nomatch hm), List.Pairwise.nil⟩ (by rw [Heap.size_push]; exact Nat.le_refl _)
  rw [Heap.size_push] at ok
  have hns : (s.heap.push { cls := .type "dict", data := .dict #[] }).Ns s.heap.objs.size (fun _ => none) := Heap.Ns.new ..
  refine hQ _ _ (hns.keeps (pushCells_keeps scope.names _)) (fun b o e => pushCells_keeps scope.names _ b o (Heap.get?_push_of_some _ e)) ⟨fun x e => cellsFrom_some _ _ _ (.inl e), fun x a m => ?_, ok.apart⟩
  obtain ⟨h1, h2⟩ := ok.empty x a m
  refine ⟨(cells_mem _ _ _ m).resolve_left (by simp), h1, ?_, Nat.ne_of_gt h2⟩
  cases q : s.heap.get? a with
  | none => rfl
  | some o => exact absurd (Heap.lt_size q) (Nat.not_lt_of_le (Nat.le_of_succ_le h2))

section
variable {prog : Program} {w : World} {A : Around} {s : Shared} {c : Cfg} {env : Env} {own : Addr → Prop} {as : List Addr} {iv : Value} {F : Frm} {h₀ : Heap} {σ : Hp} {hb : Heap} {I : It}

noncomputable def CompInv (Φ : Fns) (fm : List (Option Nat)) (elt : PE) (t : Tgt) (ifs : List PE) (Q : V → Hp → Prop) (F : Frm) (Inv : Nat → It → List V → Hp → Prop) : Prop :=
  ∀ n I acc σ, Inv n I acc σ →
        match itNext I σ with
        | none => False
        | some none => newL acc Q σ
        | some (some (x, I')) => bindT t x (fun F1 => vTs Φ ifs (fun b σ => if b then vE Φ elt (fun y σ => acc.length < BIG ∧ ∃ m, m < n ∧ Inv m I' (acc ++ [y]) σ) F1 σ else ∃ m, m < n ∧ Inv m I' acc σ) F1 σ)
            (frOf fm F) σ

/-- the frame of a comprehension, laid; then the turns -/
theorem comp_setup {elt t it : Expr} {ifs : List Expr} {rest : List Comprehension} {scope : Scope} {pos : Pos}
    (hh : A.handled = none) (ok : scOk c scope.names = true) (hk : scope.kind = .function)
    (hwb : W h₀ σ hb) (hf : FrOk c env own F h₀ σ hb) (ko : ∀ b o, hb.get? b = some o → s.heap.get? b = some o) (hit : ItRep s.heap iv as I) (bes : Beside as h₀ σ hb)
    {RR : Value → Addr → Result → Shared → Prop}
    (turns : ∀ env' Cs D s₃, Sm s s₃ → CSt { sc := scope.names, fns := c.fns } env' Cs D as (ItAt iv as I) (frOf (fmapOf c scope.names) F) h₀ σ hb [] σ s₃.heap →
      codeAny (model prog w) A (.compLoop (.ListComp elt (⟨t, it, ifs, 0⟩ :: rest) scope pos) 0 iv (.ref D) env') (RR (.ref D) env'.locals) s₃) :
    wpAny (model prog w) A (newList []) (fun acc s₃ => wpAny (model prog w) A (newFunctionEnv scope env.globals (clGo env scope.names []) [] env.qual none .none (some env)) (fun cenv s₄ =>
      codeAny (model prog w) A (.compStart (.ListComp elt (⟨t, it, ifs, 0⟩ :: rest) scope pos) 0 iv acc { cenv with scope := relabel scope env }) (RR acc cenv.locals) s₄) E0 s₃) E0 s := by
  have okk := ok
  simp only [scOk, Bool.and_eq_true, decide_eq_true_eq, List.all_eq_true] at okk
  refine wpAny_newObj_type (newEnv_cells (fun h₁ Ac hns₁ old₁ own₁ => ?_))
  dsimp only at hns₁ old₁ own₁ ⊢
  generalize hH2 : s.heap.push { cls := .type "list", dict := none, data := .seq ([] : List Value).toArray } = H2 at hns₁ old₁ own₁ ⊢
  have hC : H2.objs.size = s.heap.objs.size + 1 := by rw [← hH2, Heap.size_push]
  have hDC : s.heap.objs.size ≠ H2.objs.size := by rw [hC]; exact Nat.ne_of_lt (Nat.lt_succ_self _)
  have below : ∀ b o, s.heap.get? b = some o → b ≠ H2.objs.size ∧ b ≠ s.heap.objs.size := fun b o e => ⟨by rw [hC]; exact Nat.ne_of_lt (Nat.lt_succ_of_lt (Heap.lt_size e)), Nat.ne_of_lt (Heap.lt_size e)⟩
  have old2 : ∀ b o, s.heap.get? b = some o → H2.get? b = some o := fun b o e => hH2 ▸ Heap.get?_push_of_some _ e
  have old : ∀ b o, s.heap.get? b = some o → h₁.get? b = some o := fun b o e => old₁ b o (old2 b o e)
  have gD2 : H2.get? s.heap.objs.size = some (LObj [] 0) := hH2 ▸ Heap.get?_push_size _ rfl
  have hacc : h₁.get? s.heap.objs.size = some (LObj [] 0) := old₁ _ _ gD2
  have sD : s.heap.get? s.heap.objs.size = none := get_push_none _
  have sC : s.heap.get? H2.objs.size = none := by
    cases e : s.heap.get? H2.objs.size with
    | none => rfl
    | some o => exact absurd rfl (below _ _ e).1
  have back : ∀ a, s.heap.get? a = none → hb.get? a = none := fun a e => by
    cases q : hb.get? a with
    | none => rfl
    | some o => rw [ko a o q] at e; cases e
  have back2 : ∀ a, H2.get? a = none → s.heap.get? a = none := fun a e => by
    cases q : s.heap.get? a with
    | none => rfl
    | some o => rw [old2 a o q] at e; cases e
  have st0 : Step h₀ σ hb σ h₁ := hwb.extend fun b o e => old b o (ko b o e)
  have bD := beside_one hwb (back _ sD)
  have own1 : OwnCells scope.names H2.objs.size hb h₁ Ac := ⟨own₁.all, fun x a m => ⟨(own₁.mem x a m).1, (own₁.mem x a m).2.1, back _ (back2 _ (own₁.mem x a m).2.2.1), (own₁.mem x a m).2.2.2⟩, own₁.apart⟩
  have fr1 : FrOk { sc := scope.names, fns := c.fns } (compEnvC scope (Ac ++ clGo env scope.names []) H2.objs.size env) (fun a => a ∈ H2.objs.size :: Ac.map (·.2)) (frOf (fmapOf c scope.names) F) h₀ σ h₁ :=
    inner_ok hf ok hk rfl own1 (fun a e => (beside_one hwb e).2) (fun b o e => old b o (ko b o e)) (back _ sC) hns₁
  have bCs : Beside (H2.objs.size :: Ac.map (·.2)) h₀ σ hb := fun a m => by
    rcases List.mem_cons.mp m with rfl | m
    · exact beside_one hwb (back _ sC)
    · obtain ⟨⟨x, a'⟩, m2, rfl⟩ := List.mem_map.mp m
      exact beside_one hwb (own1.mem x a' m2).2.2.1
  have notAs : ∀ a, s.heap.get? a = none → a ∉ as := fun a e m => by obtain ⟨o, q⟩ := hit.there _ m; rw [e] at q; cases q
  have cellNew : ∀ x a, (x, a) ∈ Ac → s.heap.get? a = none ∧ a ≠ s.heap.objs.size := fun x a m => ⟨back2 _ (own₁.mem x a m).2.2.1, by rintro rfl; rw [(own₁.mem x _ m).2.2.1] at gD2; cases gD2⟩
  have x0 : CSt { sc := scope.names, fns := c.fns } (compEnvC scope (Ac ++ clGo env scope.names []) H2.objs.size env) (H2.objs.size :: Ac.map (·.2)) s.heap.objs.size as (ItAt iv as I) (frOf (fmapOf c scope.names) F) h₀ σ hb [] σ h₁ := by
    refine ⟨ItRep.move hit (fun a m o e => old a o e) (fun a o e _ => old a o e), stand_it, ⟨[], 0, hacc, .nil⟩, fr1, st0, bD, bCs, bes, ⟨fun m => ?_, notAs _ sD, fun a m => ?_⟩, fun y a e => ?_⟩
    · rcases List.mem_cons.mp m with e | m
      · exact hDC e
      · obtain ⟨⟨x, a'⟩, m, e⟩ := List.mem_map.mp m
        exact (cellNew x a' m).2 e
    · rcases List.mem_cons.mp m with rfl | m
      · exact notAs _ sC
      · obtain ⟨⟨x, a'⟩, m2, rfl⟩ := List.mem_map.mp m
        exact notAs _ (cellNew x a' m2).1
    · have e' : (Ac ++ clGo env scope.names []).lookup y = some a := e
      rw [List.lookup_append] at e'
      cases hA : Ac.lookup y with
      | some a2 =>
        rw [hA] at e'; simp at e'; subst e'
        exact ⟨notAs _ (cellNew y _ (mem_of_lookup hA)).1, (cellNew y _ (mem_of_lookup hA)).2, .inl (.tail _ (List.mem_map.mpr ⟨_, mem_of_lookup hA, rfl⟩))⟩
      | none =>
        rw [hA] at e'; simp at e'
        rcases clGo_some _ _ e' with q | ⟨m, q⟩
        · cases q
        · have o := okk.2 _ m
          simp at o
          have hx : y ∈ c.names := o.1.1
          have e' : c.names[c.names.idxOf y]? = some y := by
            have hlt := List.idxOf_lt_length_iff.mpr hx
            rw [List.getElem?_eq_getElem hlt, List.getElem_idxOf hlt]
          have nl : env.kindOf y ≠ some .local := by
            rcases hf.vk _ _ e' with ⟨q, _⟩ | ⟨_, q⟩ | ⟨_, q | q⟩
            · exact absurd q o.1.2
            all_goals rw [q]; simp
          obtain ⟨a', cv, g1, ⟨ob, g2, _⟩, _⟩ := hf.cell _ _ e' nl
          rw [g1] at q; simp at q; subst q
          refine ⟨fun m => ?_, fun e => ?_, .inr ⟨_, g2⟩⟩
          · rw [(bes a m).1] at g2; cases g2
          · subst e; rw [bD.1] at g2; cases g2
  have loop : ∀ s₃ : Shared, s₃.heap = h₁ → Sm s s₃ →
      codeAny (model prog w) A (.compLoop (.ListComp elt (⟨t, it, ifs, 0⟩ :: rest) scope pos) 0 iv (.ref s.heap.objs.size) (compEnvC scope (Ac ++ clGo env scope.names []) H2.objs.size env)) (RR (.ref s.heap.objs.size) H2.objs.size) s₃ :=
    fun s₃ e₃ m₃ => turns _ _ _ s₃ m₃ (by rw [e₃]; exact x0)
  exact codeAny_compStart_list (loop _ rfl ⟨Eq.refl _, Eq.refl _⟩) (pyIter_self hh x0.it (loop _ rfl ⟨Eq.refl _, Eq.refl _⟩))
/-- what is there when a comprehension's turns are over -/
noncomputable def CompEnd (h₀ : Heap) (σ : Hp) (hb : Heap) (s : Shared) (Q : V → Hp → Prop) (RR : Value → Addr → Result → Shared → Prop) : Prop :=
  ∀ D C s' σ' acc vs k m, Sm s s' → newL acc Q σ' → s'.heap.get? D = some (LObj vs k) → Reps s'.heap vs acc → s'.heap.Ns C m → Step h₀ σ hb σ' s'.heap → hb.get? D = none → hb.get? C = none → D ≠ C → σ' D = none → σ' C = none → RR (.ref D) C (.ok .next) s'
theorem CSt.over {env' : Env} {Cs : List Addr} {D : Addr} {F0 : Frm} {acc : List V} {σ' : Hp} {s' s'' : Shared} {Q : V → Hp → Prop} {RR : Value → Addr → Result → Shared → Prop} {cc : Cfg} {P : Heap → Prop} (x : CSt cc env' Cs D as P F0 h₀ σ hb acc σ' s'.heap) (mI : Sm s s'') (kk : ∀ b o, b ∉ as → s'.heap.get? b = some o → s''.heap.get? b = some o)
    (q : newL acc Q σ') (hRR : CompEnd h₀ σ hb s Q RR) : RR (.ref D) env'.locals (.ok .next) s'' := by
  have b : Beside as h₀ σ' hb := x.bI
  have t2 := (x.st.w.slip (fun a m => (b a m).2) (x.sd.notImm x.it) kk).2
  have st := StepX.slip x.st b (x.sd.notImm x.it) kk
  obtain ⟨vs, j, e, r⟩ := x.lst
  obtain ⟨mm, nn, _⟩ := x.fr.ns
  obtain ⟨o, es, ep, ho, qq⟩ := nn
  have hl := x.fr.loc.1
  exact hRR _ _ s'' σ' acc vs j mm mI q (kk _ _ x.ne.2.1 e) (r.tups t2) ⟨o, es, ep, kk _ _ (x.ne.2.2 _ hl) ho, qq⟩ st x.bD.1 (x.bC _ hl).1 (fun e => x.ne.1 (e ▸ hl)) x.bD.2.1 (x.bC _ hl).2.1
theorem comp_tail {Φ : Fns} {elt t it : Expr} {ifs : List Expr} {scope : Scope} {pos : Pos} {pelt : PE} {tg : Tgt} {pifs : List PE} {Q : V → Hp → Prop} {Inv : Nat → It → List V → Hp → Prop}
    (hh : A.handled = none) (ok : scOk c scope.names = true) (hk : scope.kind = .function) (hg : CG { sc := scope.names, fns := c.fns } t tg)
    (hel : ∀ {s : Shared} {σ : Hp} {env : Env} {own : Addr → Prop} {F : Frm} {Q : V → Hp → Prop}, W h₀ σ s.heap → FrOk { sc := scope.names, fns := c.fns } env own F h₀ σ s.heap → Frs A h₀ σ s.heap → vE Φ pelt Q F σ → wpAny (model prog w) A (eval elt env) (PV h₀ σ s Q) E0 s)
    (hif : ∀ {s : Shared} {σ : Hp} {env : Env} {own : Addr → Prop} {F : Frm} {Q : Bool → Hp → Prop}, W h₀ σ s.heap → FrOk { sc := scope.names, fns := c.fns } env own F h₀ σ s.heap → Frs A h₀ σ s.heap → vTs Φ pifs Q F σ →
      wpAny (model prog w) A (forIn ifs true fun c r => if r = true then do let ok ← isTrue c env (eval c env); pure (ForInStep.yield ok) else pure (ForInStep.yield r)) (PB h₀ σ s Q) E0 s)
    (hen : ∀ k a, I = .enm k a → ∃ elts x1 p, t = .Tuple elts x1 p)
    (hwb : W h₀ σ hb) (hf : FrOk c env own F h₀ σ hb) (hfs : Frs A h₀ σ hb) (ko : ∀ b o, hb.get? b = some o → s.heap.get? b = some o) (hit : ItRep s.heap iv as I) (bes : Beside as h₀ σ hb)
    {n : Nat} (hi : Inv n I [] σ) (hinv : CompInv Φ (fmapOf c scope.names) pelt tg pifs Q F Inv) {RR : Value → Addr → Result → Shared → Prop}
    (hRR : CompEnd h₀ σ hb s Q RR) :
    wpAny (model prog w) A (newList []) (fun acc s₃ => wpAny (model prog w) A (newFunctionEnv scope env.globals (clGo env scope.names []) [] env.qual none .none (some env)) (fun cenv s₄ =>
      codeAny (model prog w) A (.compStart (.ListComp elt [⟨t, it, ifs, 0⟩] scope pos) 0 iv acc { cenv with scope := relabel scope env }) (RR acc cenv.locals) s₄) E0 s₃) E0 s := by
  have fre := inner_free (F := F) ok hg
  refine comp_setup hh ok hk hwb hf ko hit bes fun env' Cs D s₃ m₃ x0 => ?_
  refine compLoop_gen (fun n s' => ∃ I acc σ', Sm s s' ∧ Inv n I acc σ' ∧ (∀ k a, I = .enm k a → ∃ elts x1 p, t = .Tuple elts x1 p) ∧
    CSt { sc := scope.names, fns := c.fns } env' Cs D as (ItAt iv as I) (frOf (fmapOf c scope.names) F) h₀ σ hb acc σ' s'.heap) (fun n s' hI => ?_) n ⟨I, [], σ, m₃, hi, hen, x0⟩
  obtain ⟨I, acc, σ', mI, hi, hen, x⟩ := hI
  have q := hinv n I acc σ' hi
  split at q
  · exact q.elim
  · rename_i hn
    refine next_end hh x.st.w x.it hn fun s'' mE kk => ?_
    exact x.over (mI.trans mE) kk q hRR
  · rename_i xx I' hn
    have q2 := bind_sub q fre
    have rest : ∀ y s₂, Sm s s₂ → Rep s₂.heap y xx → CSt { sc := scope.names, fns := c.fns } env' Cs D as (ItAt iv as I') (frOf (fmapOf c scope.names) F) h₀ σ hb acc σ' s₂.heap →
        (∀ k a, I' = .enm k a → ∃ elts x1 p, t = .Tuple elts x1 p) →
        wpAny (model prog w) A (assign t env' y) (fun _ s₂ =>
        wpAny (model prog w) A (forIn ifs true fun c r => if r = true then do let ok ← isTrue c env' (eval c env'); pure (ForInStep.yield ok) else pure (ForInStep.yield r)) (fun ok s₃ =>
          if ok = true then wpAny (model prog w) A (eval elt env') (fun x s₄ =>
            wpAny (model prog w) A (call (.builtin "list.append") [.ref D, x]) (fun _ s₅ => ∃ m, m < n ∧ ∃ I acc σ', Sm s s₅ ∧ Inv m I acc σ' ∧ (∀ k a, I = .enm k a → ∃ elts x1 p, t = .Tuple elts x1 p) ∧
    CSt { sc := scope.names, fns := c.fns } env' Cs D as (ItAt iv as I) (frOf (fmapOf c scope.names) F) h₀ σ hb acc σ' s₅.heap) E0 s₄) E0 s₃
          else ∃ m, m < n ∧ ∃ I acc σ', Sm s s₃ ∧ Inv m I acc σ' ∧ (∀ k a, I = .enm k a → ∃ elts x1 p, t = .Tuple elts x1 p) ∧
    CSt { sc := scope.names, fns := c.fns } env' Cs D as (ItAt iv as I) (frOf (fmapOf c scope.names) F) h₀ σ hb acc σ' s₃.heap) E0 s₂) E0 s₂ := by
      intro y s₂ m2 ry x2 hen'
      refine assign_ok hg hh x2.st.w x2.fr ry q2 fun s₃ F1 ⟨qF, sub⟩ m3 stx f1 => ?_
      have x3 := x2.bound stx f1
      refine wpAny_mono (hif x3.st.w x3.fr (hfs.step x3.st) qF) (fun ok s₄ ⟨σ4, ⟨st4, m4⟩, q4⟩ => ?_) fun _ _ f => f
      have x4 := x3.step st4
      cases ok with
      | true =>
        simp only [if_true] at q4 ⊢
        refine wpAny_mono (hel x4.st.w x4.fr (hfs.step x4.st) q4) (fun v s₅ ⟨y5, σ5, r5, ⟨st5, m5⟩, hl, m, hm, q5⟩ => ?_) fun _ _ f => f
        exact (x4.step st5).append sub r5 hl fun s₆ m6 x6 => ⟨m, hm, I', _, σ5, ((((m2.trans m3).trans m4).trans m5).trans m6), q5, hen', x6⟩
      | false =>
        simp only [Bool.false_eq_true, if_false] at q4 ⊢
        obtain ⟨m, hm, q5⟩ := q4
        exact ⟨m, hm, I', acc, σ4, (m2.trans m3).trans m4, q5, hen', x4.weak sub⟩
    have bb : ∀ a ∈ as, σ' a = none ∧ h₀.get? a = none := fun a m => (x.bI a m).2
    cases I with
    | enm k0 a0 =>
      obtain ⟨elts, x1, p, rfl⟩ := hen _ _ rfl
      obtain ⟨e1, I1, old', rfl, rfl, hne, he, hi'⟩ := x.it
      refine next_enum x.st.w hne he hi' bb hn (elts := elts) (x1 := x1) (pos := p) fun y s₂ hy => ?_
      refine wpAny_mono hy (fun _ s₃ ⟨mm, ry, it', kk⟩ => rest y s₃ (mI.trans mm) ry (x.moved kk it' stand_it) (fun _ _ _ => ⟨_, _, _, rfl⟩)) fun _ _ f => f
    | lst a0 i0 =>
      have hk' : ∀ k a, It.lst a0 i0 = It.enm k a → False := by intro k a e; cases e
      refine next_item hh x.st.w x.it bb hn hk' fun y s₂ mm ry it' kk => ?_
      exact letGo_it it' (next_kind hn hk') (rest y s₂ (mI.trans mm) ry (x.moved kk it' stand_it) (fun k a e => (next_kind hn hk' k a e).elim))
    | rng a0 n0 c0 =>
      have hk' : ∀ k a, It.rng a0 n0 c0 = It.enm k a → False := by intro k a e; cases e
      refine next_item hh x.st.w x.it bb hn hk' fun y s₂ mm ry it' kk => ?_
      exact letGo_it it' (next_kind hn hk') (rest y s₂ (mI.trans mm) ry (x.moved kk it' stand_it) (fun k a e => (next_kind hn hk' k a e).elim))
    | vals vs0 =>
      have hk' : ∀ k a, It.vals vs0 = It.enm k a → False := by intro k a e; cases e
      refine next_item hh x.st.w x.it bb hn hk' fun y s₂ mm ry it' kk => ?_
      exact letGo_it it' (next_kind hn hk') (rest y s₂ (mI.trans mm) ry (x.moved kk it' stand_it) (fun k a e => (next_kind hn hk' k a e).elim))
end

/-! M13 -/
set_option linter.unusedSimpArgs false

section
variable {prog : Program} {w : World} {h₀ : Heap} {mg mb : Str → Option Value} {Φ : Fns} {n : Nat} {fns : List Str}

theorem callee_bi {c : Cfg} {es : List Expr} {as : List PE} {env : Env} {pos : Pos} {M : Model} {A : Around} {s : Shared} {E : Value → Shared → Prop} (f : BI) {Q : Value → Shared → Prop} (h : CEs c es as)
    (q : wpAny M A (spliced (backTo pos (starEach es env))) (fun vs s' => wpAny M A (call f.val vs) Q E s') E s) : wpAny M A (callWith pos f.val [] (backTo pos (starEach es env)) []) Q E s := by
  cases hf : f.isType with
  | true => cases f <;> first | (simp [BI.isType] at hf; done) | exact PyProof.Rows.callWith_type (star_plain h) (evalArgs_ces h q)
  | false => cases f <;> first | (simp [BI.isType] at hf; done) | exact Calls.callWith_builtin (star_plain h) (evalArgs_ces h q)

theorem few_ok {c : Cfg} {es : List Expr} {as : List PE} {env : Env} {pos : Pos} (h : CEs c es as) (hl : es.length < 15) :
    ((backTo pos (starEach es env)).all (fun x => !x.1) && (backToKw pos (keywordEach [] env)).all (fun x => x.1.isSome) && decide (es.length + ([] : List Keyword).length + (if ([] : List Keyword).isEmpty then 0 else 1) < 30)) = true := by
  have h1 := star_plain (env := env) (pos := pos) h
  rw [List.any_eq_false] at h1
  have h2 : (backTo pos (starEach es env)).all (fun x => !x.1) = true := by
    rw [List.all_eq_true]; intro x hx; have := h1 x hx; simpa using this
  rw [h2]
  show (true && true && decide (es.length + 0 + 0 < 30)) = true
  simp; omega

theorem isPart_of {h : Heap} {v : Value} {x : V} {P : Option Int → Prop} (r : Rep h v x) (q : partV x P) : ∃ k, IsPart v k ∧ P k := by
  unfold partV at q
  split at q
  · obtain rfl := r.inone; exact ⟨none, .none, q⟩
  · obtain ⟨t, rfl⟩ := r.iint; exact ⟨some _, .int _ _, q⟩
  · exact q.elim

theorem opSlice_ok {A : Around} {s : Shared} {σ : Hp} {Q : V → Hp → Prop} {vo vl vh vs : Value} {o lo hi st : V} {value slice : Expr} (ro : Rep s.heap vo o) (rl : Rep s.heap vl lo) (rh : Rep s.heap vh hi) (rs : Rep s.heap vs st) (hw : W h₀ σ s.heap) (q : opSlice o lo hi st Q σ)
    (hs : ∀ o i, ∃ ops, subscripted slice false o i = operate ops (getItem o i)) :
    wpAny (model prog w) A (subscriptTail value slice vo (.ref s.heap.objs.size)) (PV h₀ σ s Q) E0 { s with heap := s.heap.push { cls := .type "slice", data := .fields #[vl, vh, vs] } } := by
  unfold opSlice at q
  split at q
  · obtain ⟨xs, e, q⟩ := q
    obtain rfl := ro.iref
    obtain ⟨l, pl, q⟩ := isPart_of rl q
    obtain ⟨h, ph, q⟩ := isPart_of rh q
    obtain ⟨st', ps, h0, q⟩ := isPart_of rs q
    obtain ⟨ws, hl, r⟩ := hw.list e
    have hb := hw.len e
    have hlen := r.length
    obtain ⟨ops, hs⟩ := hs (.ref _) (.ref s.heap.objs.size)
    have k1 : ∀ b o, s.heap.get? b = some o → (s.heap.push { cls := .type "slice", data := .fields #[vl, vh, vs] }).get? b = some o := fun b o e => Heap.get?_push_of_some _ e
    have hl' := hl.push { cls := .type "slice", data := .fields #[vl, vh, vs] }
    refine tail_any (T := "list") hl'.typeIs slot_list_getitem.lookup (wpAny_getItem_list_slice hl' (Heap.IsSliceOf.new _ _ _ _) pl ph ps h0 ?_ (by simp; exact big_line (by omega))) hs
    have st1 : Step h₀ σ s.heap σ _ := hw.extend k1
    refine PV.back (s' := _) (s₁ := { s with heap := s.heap.push { cls := .type "slice", data := .fields #[vl, vh, vs] } }) (PV.push (s := { s with heap := s.heap.push { cls := .type "slice", data := .fields #[vl, vh, vs] } }) (n := 0) (vs := (slicePick ws.toArray l h st').toList) (tk := s.toks) st1.w ?_ q) st1 ⟨Eq.refl _, Eq.refl _⟩
    unfold slicePick pickL
    simp only [List.size_toArray, hlen, List.getElem?_toArray]
    exact (r.tups fun a o e _ => k1 a o e).filterMap _
  · exact q.elim

theorem scOk_names {c : Cfg} {scope : Scope} (ok : scOk c scope.names = true) : ∀ x ∈ scope.names, x.2 = NameKind.local → scope.names.lookup x.1 = some NameKind.local := fun x m e => by
  simp only [scOk, Bool.and_eq_true, decide_eq_true_eq, List.all_eq_true] at ok
  exact lookup_of_nodup ok.1 (by rw [← e]; exact m)
theorem clos_ok {c : Cfg} {scope : Scope} {env : Env} {own : Addr → Prop} {F : Frm} {σ : Hp} {h : Heap} (ok : scOk c scope.names = true) (hf : FrOk c env own F h₀ σ h) : closureFor scope env = pure (clGo env scope.names []) :=
  closureFor_eq (fun x m => by
    simp only [scOk, Bool.and_eq_true, decide_eq_true_eq, List.all_eq_true] at ok
    have o := ok.2 _ m
    simp at o
    have e' : c.names[c.names.idxOf x]? = some x := by
      have hlt := List.idxOf_lt_length_iff.mpr o.1.1
      exact (List.getElem?_eq_getElem hlt).trans (congrArg some (List.getElem_idxOf hlt))
    have nl : env.kindOf x ≠ some .local := by
      rcases hf.vk _ _ e' with ⟨q, _⟩ | ⟨_, q⟩ | ⟨_, q | q⟩
      · exact absurd q o.1.2
      all_goals rw [q]; simp
    obtain ⟨a', cv, g1, _⟩ := hf.cell _ _ e' nl
    rw [g1]; rfl)

noncomputable def PVh (h₀ : Heap) (σ : Hp) (h : Heap) (Q : V → Hp → Prop) (v : Value) (s' : Shared) : Prop := ∃ x σ', Rep s'.heap v x ∧ Step h₀ σ h σ' s'.heap ∧ Q x σ'
theorem PVh.lift {σ σ' : Hp} {s : Shared} {h : Heap} {Q : V → Hp → Prop} {v : Value} {s' : Shared} (p : PVh h₀ σ' h Q v s') (st : Step h₀ σ s.heap σ' h) (m : Sm s s') : PV h₀ σ s Q v s' := by
  obtain ⟨x, σ'', r, st', q⟩ := p; exact ⟨x, σ'', r, ⟨st.trans st', m⟩, q⟩
/-- the list of a comprehension comes under σ -/
theorem comp_adopt {σ σ' : Hp} {hb : Heap} {s' : Shared} {D C : Addr} {acc : List V} {vs : List Value} {k : Nat} {m : Str → Option Value} {Q : V → Hp → Prop} {h'' : Heap} {tk : Nat} (hwb : W h₀ σ hb) (hq : newL acc Q σ') (gD : s'.heap.get? D = some (LObj vs k)) (rv : Reps s'.heap vs acc)
    (nC : s'.heap.Ns C m) (st : Step h₀ σ hb σ' s'.heap) (nD : hb.get? D = none) (nC' : hb.get? C = none) (hDC : D ≠ C) (sD : σ' D = none) (sC : σ' C = none) (sb : Heap.SameBut C s'.heap h'') :
    PVh h₀ σ hb Q (.ref D) { s' with heap := h'' } := by
  have kk : ∀ b o, b ∉ [C] → s'.heap.get? b = some o → h''.get? b = some o := fun b o n e => sb.extBut b o (by simpa using n) e
  have h0C : h₀.get? C = none := (beside_one hwb nC').2.2
  have ni : ∀ a ∈ [C], ∀ o, s'.heap.get? a = some o → ¬ Imm o := fun a m' o e => by simp at m'; subst m'; exact ns_not_imm nC o e
  have bC : Beside [C] h₀ σ' hb := fun a m' => by simp at m'; subst m'; exact ⟨nC', sC, h0C⟩
  have t2 := (st.w.slip (fun a m' => (bC a m').2) ni kk).2
  have st' := StepX.slip st bC ni kk
  have hD : Holds h'' D (.list acc) := ⟨vs, k, kk D _ (by simpa using hDC) gD, rv.tups t2⟩
  have wD := st'.w.adopt (beside_one hwb nD).2.2 hD hq.1
  refine ⟨_, _, .ref D, ⟨wD, st'.keep, st'.dict, fun a => ?_, st'.tups, st'.alive⟩, hq.2 D sD⟩
  by_cases qa : a = D
  · subst qa; exact ⟨fun _ => .inr nD, fun _ => .inr nD⟩
  · have := st'.grow a
    unfold Mut at this ⊢
    rw [upd_ne _ _ qa]; exact this

theorem rr_none {A : Around} {s : Shared} {σ : Hp} {hb : Heap} {Q : V → Hp → Prop} (hwb : W h₀ σ hb) {QQ : Value → Shared → Prop} (hQQ : ∀ v s', PVh h₀ σ hb Q v s' → Sm s s' → QQ v s') :
    CompEnd h₀ σ hb s Q (fun acc C => compPost (model prog w) A E0 none QQ acc C) := by
  intro D C s' σ' acc vs k m mm hq gD rv nC st nD nC' hDC sD sC
  exact ⟨m, nC, fun h'' sb => hQQ _ _ (comp_adopt (tk := 0) hwb hq gD rv nC st nD nC' hDC sD sC sb) (mm.trans ⟨Eq.refl _, Eq.refl _⟩)⟩

/-- the arguments of a call, one after the other -/
theorem sEs {c : Cfg} : ∀ {es : List Expr} {ps : List PE}, CEs c es ps → ∀ {A : Around} {s : Shared} {σ : Hp} {env : Env} {own : Addr → Prop} {F : Frm} {pos : Pos} {Q : List V → Hp → Prop},
    Here prog w h₀ mg mb Φ n c A s σ env own F → vEs Φ ps Q F σ → wpAny (model prog w) A (spliced (backTo pos (starEach es env))) (PVs h₀ σ s Q) E0 s
  | _, _, .nil, A, s, σ, env, own, F, pos, Q, X, v => Calls.spliced_nil ⟨_, σ, .nil, ⟨.refl X.w, .rfl⟩, v⟩
  | _, _, .cons he hs hst, A, s, σ, env, own, F, pos, Q, X, v => by
    rw [hst env]
    refine Calls.spliced_cons (wpAny_mono (he X v) (fun a s₁ => PV.on fun x σ₁ rx st m₁ q => wpAny_mono (sEs hs (X.step st) q) (fun vs s₂ => PVs.on fun xs σ₂ rs st₂ m₂ q₂ => ?_) fun _ _ f => f) fun _ _ f => f)
    exact ⟨_, σ₂, .cons (rx.step st₂) rs, ⟨st.trans st₂, m₁.trans m₂⟩, q₂⟩
theorem sO {c : Cfg} {e : Option Expr} {p : Option PE} (h : CO c e p) {A : Around} {s : Shared} {σ : Hp} {env : Env} {own : Addr → Prop} {F : Frm} {Q : V → Hp → Prop}
    (X : Here prog w h₀ mg mb Φ n c A s σ env own F) (v : vO Φ p Q F σ) : wpAny (model prog w) A (evalPart e env) (PV h₀ σ s Q) E0 s := by
  cases h with
  | none => exact wpAny_pure (PV.same' X.w .none v)
  | some h => exact h X v
theorem sTs {c : Cfg} : ∀ {es : List Expr} {ps : List PE}, CTs c es ps → ∀ {A : Around} {s : Shared} {σ : Hp} {env : Env} {own : Addr → Prop} {F : Frm} {Q : Bool → Hp → Prop},
    Here prog w h₀ mg mb Φ n c A s σ env own F → vTs Φ ps Q F σ →
    wpAny (model prog w) A (forIn es true fun c r => if r = true then do let ok ← isTrue c env (eval c env); pure (ForInStep.yield ok) else pure (ForInStep.yield r)) (PB h₀ σ s Q) E0 s
  | _, _, .nil, A, s, σ, env, own, F, Q, X, v => wpAny_pure ⟨σ, ⟨.refl X.w, .rfl⟩, v⟩
  | _, _, .cons (es := es) h hs, A, s, σ, env, own, F, Q, X, v => by
    rw [List.forIn_cons]
    simp only [if_true]
    refine wpAny_bind (wpAny_bind (wpAny_mono (h X v) (fun b s₁ => PB.on fun σ₁ st m₁ q => wpAny_pure ?_) fun _ _ f => f))
    cases b with
    | true => exact wpAny_mono (sTs hs (X.step st) q) (fun _ _ pb => pb.back st m₁) fun _ _ f => f
    | false =>
      have : ∀ es : List Expr, (forIn es false fun c r => if r = true then do let ok ← isTrue c env (eval c env); pure (ForInStep.yield ok) else pure (ForInStep.yield r)) = (pure false : Sem Bool) := fun es => by
        induction es with
        | nil => rfl
        | cons e es ih => rw [List.forIn_cons]; exact ih
      dsimp only
      rw [this]
      exact wpAny_pure ⟨σ₁, ⟨st, m₁⟩, q⟩
end
inductive CIr (k : IK) (h₀ : Heap) (σ : Hp) (s : Shared) (P : It → Hp → Prop) (it : Value) (s₂ : Shared) : Prop
  | mk (σ₁ : Hp) (s₀ : Shared) (h1 : Step h₀ σ s.heap σ₁ s₀.heap) (h2 : Sm s s₀) (h3 : Started (k == .enum) h₀ σ₁ s₀ P it s₂) : CIr k h₀ σ s P it s₂
/-- an iterable -/
noncomputable def CI (c : Cfg) (e : Expr) (k : IK) (a : PE) : Prop := (∀ env x, foldedSetIterable e env x = pure x) ∧ ∀ {prog : Program} {w : World} {h₀ : Heap} {mg mb : Str → Option Value} {Φ : Fns} {n : Nat} {A : Around} {s : Shared} {σ : Hp} {env : Env} {own : Addr → Prop} {F : Frm} {P : It → Hp → Prop},
  Here prog w h₀ mg mb Φ n c A s σ env own F → vE Φ a (fun x σ => itStart k x P σ) F σ → wpAny (model prog w) A (eval e env) (fun v s₁ => wpAny (model prog w) A (pyIter v) (fun it s₂ => CIr k h₀ σ s P it s₂) E0 s₁) E0 s
/-- the parts of a comprehension -/
structure CompOk (c : Cfg) (elt t it : Expr) (k : IK) (ifs : List Expr) (scope : Scope) (a b : PE) (tg : Tgt) (as : List PE) (fm : List (Option Nat)) : Prop where
  ok : scOk c scope.names = true
  kind : scope.kind = .function
  fm : fm = fmapOf c scope.names
  ci : CI c it k b
  en : k = .enum → ∃ is, tg = .tup is
  cg : CG { sc := scope.names, fns := c.fns } t tg
  ce : CE { sc := scope.names, fns := c.fns } elt a
  ct : CTs { sc := scope.names, fns := c.fns } ifs as
section
variable {c : Cfg} {p q : Pos}
theorem CE.int {i : Int} {k : Nat} : CE c (.Constant (.int i) k p) (.int i) := fun X v => wpAny_Constant_int (PV.same X.w (.int _ _) v _)
theorem CE.bool {b : Bool} {k : Nat} : CE c (.Constant (.bool b) k p) (.bool b) := fun X v => Constant_bool (PV.same' X.w (.bool _) v)
theorem CE.none {k : Nat} : CE c (.Constant .none k p) .none := fun X v => Constant_none (PV.same' X.w .none v)
theorem look_some {F : Frm} {i : Nat} {K : V → Prop} (h : look F i K) : ∃ v, F[i]? = some (some v) ∧ K v := by
  unfold look at h
  split at h
  · rename_i u hu; exact ⟨u, hu, h⟩
  · exact h.elim
theorem CE.var {x : Str} {i : Nat} (e : c.names[i]? = some x) (hd : (x == ("__debug__" : Str)) = false) (hcd : (x == ("__classdict__" : Str)) = false) : CE c (.Name x p) (.var i) := by
  intro prog w h₀ mg mb Φ n A s σ env own F Q X v
  obtain ⟨u, hu, v⟩ := look_some v
  exact wpAny_Name (X.f.load e hu hcd fun w r => PV.same' X.w r v) hd
theorem CE.bin {l r : Expr} {op : Operator} {a b : PE} (hl : CE c l a) (hr : CE c r b) : CE c (.BinOp l op r p) (.bin op a b) := by
  intro prog w h₀ mg mb Φ n A s σ env own F Q X v
  refine wpAny_BinOp (wpAny_mono (hl X v) (fun a s₁ => PV.on fun x σ₁ rx st m₁ q => wpAny_mono (hr (X.step st) q) (fun b s₂ => PV.on fun y σ₂ ry st₂ m₂ q₂ => ?_) fun _ _ f => f) fun _ _ f => f)
  exact wpAny_mono (opBin_ok X.G X.R st₂.w (rx.step st₂) ry q₂) (fun _ _ pv => pv.back (st.trans st₂) (m₁.trans m₂)) fun _ _ f => f
theorem CE.neg {e : Expr} {a : PE} (he : CE c e a) : CE c (.UnaryOp .USub e p) (.neg a) := by
  intro prog w h₀ mg mb Φ n A s σ env own F Q X v
  refine UnaryOp_ (wpAny_mono (he X v) (fun a s₁ => PV.on fun x σ₁ rx st m₁ q => ?_) fun _ _ f => f)
  unfold negQ at q
  split at q
  · obtain ⟨t, rfl⟩ := rx.iint; exact neg_int ⟨_, σ₁, .int _ _, ⟨st, m₁⟩, q⟩
  · exact q.elim
theorem CE.cmp {l r : Expr} {op : CmpOp} {a b : PE} (hl : CE c l a) (hr : CE c r b) (hm : behindInMarks op r = false) : CE c (.Compare l [op] [r] p) (.cmp op a b) := by
  intro prog w h₀ mg mb Φ n A s σ env own F Q X v
  refine wpAny_Compare1 (wpAny_mono (hl X v) (fun a s₁ => PV.on fun x σ₁ rx st m₁ q => wpAny_mono (hr (X.step st) q) (fun b s₂ => PV.on fun y σ₂ ry st₂ m₂ q₂ => ?_) fun _ _ f => f) fun _ _ f => f) hm
  exact wpAny_mono (opCmp_ok X.R (rx.step st₂) ry st₂.w q₂) (fun _ _ pv => pv.back (st.trans st₂) (m₁.trans m₂)) fun _ _ f => f
theorem CE.ite {t l r : Expr} {a b d : PE} (ht : CT c t a) (hl : CE c l b) (hr : CE c r d) : CE c (.IfExp t l r p) (.ite a b d) := by
  intro prog w h₀ mg mb Φ n A s σ env own F Q X v
  refine IfExp_ (wpAny_mono (ht X v) (fun b s₁ => PB.on fun σ₁ st m₁ q => ?_) fun _ _ f => f)
  cases b with
  | true => exact wpAny_mono (hl (X.step st) q) (fun _ _ pv => pv.back st m₁) fun _ _ f => f
  | false => exact wpAny_mono (hr (X.step st) q) (fun _ _ pv => pv.back st m₁) fun _ _ f => f
theorem CE.sub {o i : Expr} {a b : PE} (ho : CE c o a) (hi : CE c i b) (hs : ∀ o v, subscripted i false o v = operate [o, v] (getItem o v)) : CE c (.Subscript o i p) (.sub a b) := by
  intro prog w h₀ mg mb Φ n A s σ env own F Q X v
  refine Subscript_ (wpAny_mono (ho X v) (fun a s₁ => PV.on fun x σ₁ rx st m₁ q => wpAny_mono (hi (X.step st) q) (fun b s₂ => PV.on fun y σ₂ ry st₂ m₂ q₂ => ?_) fun _ _ f => f) fun _ _ f => f)
  exact wpAny_mono (q₂.go (rx.step st₂) ry st₂.w hs) (fun _ _ pv => pv.back (st.trans st₂) (m₁.trans m₂)) fun _ _ f => f
theorem CE.slice {o : Expr} {lo hi ste : Option Expr} {a : PE} {l h st' : Option PE} (ho : CE c o a) (hlo : CO c lo l) (hhi : CO c hi h) (hst : CO c ste st') : CE c (.Subscript o (.Slice lo hi ste p) q) (.slice a l h st') := by
  intro prog w h₀ mg mb Φ n A s σ env own F Q X v
  refine Subscript_ (wpAny_mono (ho X v) (fun a s₁ => PV.on fun x σ₁ rx st m₁ q => ?_) fun _ _ f => f)
  have X1 := X.step st
  refine wpAny_Slice (wpAny_mono (sO hlo X1 q) (fun l s₂ => PV.on fun lx σ₂ lr st₂ m₂ q₂ => wpAny_mono (sO hhi (X1.step st₂) q₂) (fun h s₃ => PV.on fun hx σ₃ hr st₃ m₃ q₃ =>
    wpAny_mono (sO hst ((X1.step st₂).step st₃) q₃) (fun sv s₄ => PV.on fun sx σ₄ sr st₄ m₄ q₄ => ?_) fun _ _ f => f) fun _ _ f => f) fun _ _ f => f)
  have all := ((st.trans st₂).trans st₃).trans st₄
  exact wpAny_mono (opSlice_ok (((rx.step st₂).step st₃).step st₄) ((lr.step st₃).step st₄) (hr.step st₄) sr st₄.w q₄ (fun o i => by cases ste with | none => exact ⟨_, rfl⟩ | some e => exact ⟨_, rfl⟩)) (fun _ _ pv => pv.back all (((m₁.trans m₂).trans m₃).trans m₄)) fun _ _ f => f
theorem CE.list {es : List Expr} {as : List PE} (hs : CEs c es as) : CE c (.List es p) (.list as) := by
  intro prog w h₀ mg mb Φ n A s σ env own F Q X v
  refine wpAny_List_spliced (wpAny_mono (sEs hs X v) (fun vs s₁ => PVs.on fun xs σ₁ rs st m₁ q => ?_) fun _ _ f => f)
  have hl := rs.length
  exact ⟨big_line (by rw [hl]; exact q.1), PV.back (PV.push (n := 0) st.w rs q _) st m₁⟩
theorem CE.tuple {es : List Expr} {k : Nat} {as : List PE} (hs : CEs c es as) : CE c (.Tuple es k p) (.tuple as) := by
  intro prog w h₀ mg mb Φ n A s σ env own F Q X v
  refine wpAny_Tuple_spliced (wpAny_mono (sEs hs X v) (fun vs s₁ ⟨xs, σ₁, rs, ⟨st, m₁⟩, hb, q⟩ => ?_) fun _ _ f => f)
  have hl := rs.length
  have k : ∀ b o, s₁.heap.get? b = some o → (s₁.heap.push { cls := .type "tuple", data := .seq vs.toArray }).get? b = some o := fun b o e => Heap.get?_push_of_some _ e
  exact ⟨big_line (by rw [hl]; exact hb), _, σ₁, .tup (vs := vs) ⟨_, Heap.get?_push_size _ rfl, rfl, 0, rfl⟩ (rs.tups fun a o e _ => k a o e), ⟨st.trans (st.w.extend k), m₁.trans ⟨Eq.refl _, Eq.refl _⟩⟩, q⟩
theorem CE.call {x : Str} {f : BI} {es : List Expr} {as : List PE} (hn : f.name = x) (hk : c.sc.lookup x = some .globalImplicit) (hs : CEs c es as) : CE c (.Call (.Name x p) es [] q) (.call f as) := by
  intro prog w h₀ mg mb Φ n A s σ env own F Q X v
  subst hn
  refine Call_Name rfl (load_glob X.G X.w X.f hk f.notName.2 (.inr ⟨X.NM.fr _ f.mem, (X.G.boot _ f.notName.1).trans f.boot⟩) ?_)
  refine callee_bi f hs (wpAny_mono (sEs hs X v) (fun vs s₁ => PVs.on fun xs σ₁ rs st m₁ q => ?_) fun _ _ f => f)
  exact wpAny_mono ((opCall_ok q).go X.G X.R rs st.w) (fun _ _ pv => pv.back st m₁) fun _ _ f => f
theorem CE.ucall {x : Str} {i : Nat} {es : List Expr} {as : List PE} (hn : c.fns[i]? = some x) (hd : (x == ("__debug__" : Str)) = false) (hk : c.sc.lookup x = some .globalImplicit) (hlen : es.length < 15) (hs : CEs c es as) : CE c (.Call (.Name x p) es [] q) (.ucall i as) := by
  intro prog w h₀ mg mb Φ n A s σ env own F Q X v
  obtain ⟨fv, e1, fa, o, fd, rfl, e2, e3, call⟩ := X.NM.fn i _ hn
  refine Call_Name rfl (load_glob X.G X.w X.f hk hd (.inl e1) ?_)
  refine callWith_function_kw (o := o) (fd := fd) (evalArgs_ces hs (wpAny_mono (sEs hs X v) (fun vs s₁ => PVs.on fun xs σ₁ rs st m₁ q => ?_) fun _ _ f => f))
  exact ⟨⟨st.w.stays _ _ e2, e3⟩, wpAny_mono (call A s₁ σ₁ fa o ⟨vs, []⟩ vs xs Q (st.w.stays _ _ e2) e3 (fun _ h => h) X.R.weak (X.fs.step st) st.w rs q) (fun _ _ pv => pv.back st m₁) fun _ _ f => f⟩
theorem CE.meth {o : Expr} {x : Str} {m : Meth} {es : List Expr} {ap : Pos} {a : PE} {as : List PE} (hn : m.name = x) (hl : (ap.endLine == q.line) = true) (hlen : es.length < 15) (ha : ∀ env, attributeBase o x env (eval o env) = eval o env)
    (ho : CE c o a) (hs : CEs c es as) : CE c (.Call (.Attribute o x ap) es [] q) (.meth m a as) := by
  intro prog w h₀ mg mb Φ n A s σ env own F Q X v
  subst hn
  refine wpAny_Call_method (T := "list") (id := m.id) (ha env) ?_ hl PySem.F.plainAttrs_list (list_slots m).1 (list_slots m).2 (wpAny_mono (ho X v) (fun ov s₁ ⟨x, σ₁, rx, ⟨st, m₁⟩, ⟨b, xs, eb, eσ⟩, q⟩ => ?_) fun _ _ f => f)
  · exact few_ok hs hlen
  · subst eb
    obtain rfl := rx.iref
    obtain ⟨vs, k, g, r⟩ := st.w.mlist eσ
    refine ⟨⟨_, g, rfl⟩, fun a e => ⟨_, by cases e; exact g, rfl⟩, ?_⟩
    refine Calls.callWith_builtin (star_plain hs) (evalArgs_ces hs (wpAny_mono (sEs hs (X.step st) q) (fun vs s₂ => PVs.on fun ys σ₂ rs st₂ m₂ q₂ => ?_) fun _ _ f => f))
    exact wpAny_mono (q₂.go X.G X.R (.ref _) rs st₂.w) (fun _ _ pv => pv.back (st.trans st₂) (m₁.trans m₂)) fun _ _ f => f
theorem CE.comp {elt t it : Expr} {k : IK} {ifs : List Expr} {scope : Scope} {a b : PE} {tg : Tgt} {as : List PE} {fm : List (Option Nat)} (C : CompOk c elt t it k ifs scope a b tg as fm) : CE c (.ListComp elt [⟨t, it, ifs, 0⟩] scope p) (.comp fm a tg k b as) := by
  intro prog w h₀ mg mb Φ n A s σ env own F Q X v
  rw [eval_ListComp]
  refine wpAny_comprehension_free (use := .none) rfl (C.ci.1 env) (clos_ok C.ok X.f) C.kind (scOk_names C.ok) (wpAny_mono (C.ci.2 X v) (fun x s₁ h => ?_) fun _ _ f => f)
  refine wpAny_mono h (fun it s₂ ⟨σ₁, s₀, st, m₁, m₂, I, as, ne, hit, bes, ko, Inv, ⟨n0, hi⟩, hinv⟩ => ?_) fun _ _ f => f
  have hfm := C.fm
  subst hfm
  exact comp_tail (Inv := Inv) X.R.handled C.ok C.kind C.cg (fun hw hf fs v => C.ce ⟨X.G, X.NM, X.R, hw, hf, fs⟩ v) (fun hw hf fs v => sTs C.ct ⟨X.G, X.NM, X.R, hw, hf, fs⟩ v)
    (fun k' a' e => by
      have hk := ne k' a' e
      obtain ⟨is, rfl⟩ := C.en (by simpa using hk)
      cases C.cg; exact ⟨_, _, _, rfl⟩) st.w (X.f.step st) (X.fs.step st) ko hit bes hi hinv (rr_none st.w (fun _ s' pv m₃ => PVh.lift pv st (m₁.trans (m₂.trans m₃))))
theorem CI.plain {e : Expr} {a : PE} (h : CE c e a) (hf : ∀ env x, foldedSetIterable e env x = pure x) : CI c e .plain a := by
  refine ⟨hf, fun {prog w h₀ mg mb Φ n A s σ env own F P} X v => ?_⟩
  exact wpAny_mono (h X v) (fun v s₁ => PV.on fun x σ₁ rx st m₁ q => wpAny_mono (start_plain st.w rx q) (fun it s₂ sd => ⟨σ₁, s₁, st, m₁, sd⟩) fun _ _ f => f) fun _ _ f => f
theorem CT.plain {e : Expr} {v : Fns → (V → Hp → Prop) → Frm → Hp → Prop} (h : CE c e (.of v)) (hp : ∀ {prog : Program} {w : World} {A : Around} {s : Shared} {env : Env} {Q : Bool → Shared → Prop} {E : Value → Shared → Prop}, wpAny (model prog w) A (eval e env) (fun v s' => wpAny (model prog w) A (truthy v) Q E s') E s → wpAny (model prog w) A (isTrue e env (eval e env)) Q E s) : CT c e (.of v) := by
  intro prog w h₀ mg mb Φ n A s σ env own F P X v
  exact hp (wpAny_mono (h X v) (fun v s₃ => PV.on fun z σ₃ rz st₃ m₃ q₃ => wpAny_mono (truth_ok rz st₃.w q₃) (fun _ _ pb => pb.back st₃ m₃) fun _ _ f => f) fun _ _ f => f)
theorem CT.not {e : Expr} {a : PE} (h : CT c e a) : CT c (.UnaryOp .Not e p) (.not a) := by
  intro prog w h₀ mg mb Φ n A s σ env own F P X v
  exact isTrue_not (wpAny_mono (h X v) (fun _ _ pb => by obtain ⟨σ', st, q⟩ := pb; exact ⟨σ', st, q⟩) fun _ _ f => f)
theorem CT.and {l r : Expr} {a b : PE} (hl : CT c l a) (hr : CT c r b) : CT c (.BoolOp .And [l, r] p) (.and a b) := by
  intro prog w h₀ mg mb Φ n A s σ env own F P X v
  refine isTrue_and (wpAny_mono (hl X v) (fun b s₁ => PB.on fun σ₁ st m₁ q => ?_) fun _ _ f => f)
  cases b with
  | true =>
    refine isTrue_and (wpAny_mono (hr (X.step st) q) (fun b s₂ q₂ => ?_) fun _ _ f => f)
    have := q₂.back st m₁
    cases b with
    | true => exact isTrue_and_nil this
    | false => exact this
  | false => exact ⟨σ₁, ⟨st, m₁⟩, q⟩
theorem CT.or {l r : Expr} {a b : PE} (hl : CT c l a) (hr : CT c r b) : CT c (.BoolOp .Or [l, r] p) (.or a b) := by
  intro prog w h₀ mg mb Φ n A s σ env own F P X v
  refine isTrue_or (wpAny_mono (hl X v) (fun b s₁ => PB.on fun σ₁ st m₁ q => ?_) fun _ _ f => f)
  cases b with
  | false =>
    refine isTrue_or (wpAny_mono (hr (X.step st) q) (fun b s₂ q₂ => ?_) fun _ _ f => f)
    have := q₂.back st m₁
    cases b with
    | false => exact isTrue_or_nil this
    | true => exact this
  | true => exact ⟨σ₁, ⟨st, m₁⟩, q⟩
theorem CT.cmp {l r : Expr} {op : CmpOp} {a b : PE} (hl : CE c l a) (hr : CE c r b) (hm : behindInMarks op r = false) : CT c (.Compare l [op] [r] p) (.cmp op a b) := by
  intro prog w h₀ mg mb Φ n A s σ env own F P X v
  refine wpAny_isTrue_Compare1 (wpAny_mono (hl X v) (fun a s₁ => PV.on fun x σ₁ rx st m₁ q => wpAny_mono (hr (X.step st) q) (fun b s₂ => PV.on fun y σ₂ ry st₂ m₂ q₂ => ?_) fun _ _ f => f) fun _ _ f => f) hm
  exact wpAny_mono (opCmp_ok X.R (rx.step st₂) ry st₂.w q₂) (fun v s₃ => PV.on fun z σ₃ rz st₃ m₃ q₃ => wpAny_mono (truth_ok rz st₃.w q₃) (fun _ _ pb => pb.back ((st.trans st₂).trans st₃) ((m₁.trans m₂).trans m₃)) fun _ _ f => f) fun _ _ f => f
theorem CT.var {x : Str} {i : Nat} (h : CE c (.Name x p) (.var i)) : CT c (.Name x p) (.var i) := CT.plain h isTrue_plain
end

/-! M14 -/
noncomputable def FlRep (h : Heap) : Flow → Fl → Prop
  | .next, .next => True
  | .brk, .brk => True
  | .cont, .cont => True
  | .ret v, .ret x => Rep h v x
  | _, _ => False
inductive PSt (c : Cfg) (env : Env) (own : Addr → Prop) (h₀ : Heap) (σ : Hp) (s : Shared) (Q : Fl → Frm → Hp → Prop) (f : Flow) (s' : Shared) : Prop
  | mk (fl : Fl) (F' : Frm) (σ' : Hp) (h1 : FlRep s'.heap f fl) (h2 : (StepX own h₀ σ s.heap σ' s'.heap ∧ Sm s s')) (h3 : FrOk c env own F' h₀ σ' s'.heap) (h4 : Q fl F' σ') : PSt c env own h₀ σ s Q f s'
theorem PSt.back {c : Cfg} {env : Env} {own : Addr → Prop} {h₀ : Heap} {σ σ' : Hp} {s s₁ : Shared} {Q : Fl → Frm → Hp → Prop} {f : Flow} {s' : Shared} (x : PSt c env own h₀ σ' s₁ Q f s') (st : StepX own h₀ σ s.heap σ' s₁.heap) (m : Sm s s₁) : PSt c env own h₀ σ s Q f s' := by
  obtain ⟨fl, F', σ'', a, ⟨b, m'⟩, d, e⟩ := x; exact ⟨fl, F', σ'', a, ⟨st.trans b, m.trans m'⟩, d, e⟩
theorem PSt.next {c : Cfg} {env : Env} {own : Addr → Prop} {h₀ : Heap} {σ σ' : Hp} {s : Shared} {F : Frm} {Q : Fl → Frm → Hp → Prop} {s' : Shared} (st : StepX own h₀ σ s.heap σ' s'.heap) (m : Sm s s') (f : FrOk c env own F h₀ σ' s'.heap) (q : Q .next F σ') : PSt c env own h₀ σ s Q .next s' :=
  ⟨.next, F, σ', trivial, ⟨st, m⟩, f, q⟩

/-- how a for stands amid its turns -/
structure FSt (c : Cfg) (env : Env) (own : Addr → Prop) (as : List Addr) (iv : Value) (h₀ : Heap) (σb : Hp) (hb : Heap) (I : It) (F : Frm) (σ : Hp) (h : Heap) : Prop where
  it : ItRep h iv as I
  fr : FrOk c env own F h₀ σ h
  st : StepX own h₀ σb hb σ h
  bes : Beside as h₀ σ hb
  no : ∀ a ∈ as, ¬ own a
  cl : ∀ (i : Nat) y a, c.names[i]? = some y → env.kindOf y ≠ some .local → env.cells.lookup y = some a → ∃ o, hb.get? a = some o
  lc : ∃ o, hb.get? env.locals = some o

section
variable {prog : Program} {w : World} {A : Around} {s : Shared} {c : Cfg} {env : Env} {own : Addr → Prop} {as : List Addr} {iv : Value} {F F1 : Frm} {h₀ : Heap} {σb σ σ' : Hp} {hb h h' : Heap} {I I' : It}

/-- a frame where only the cells that it names count -/
theorem FrOk.move' (f : FrOk c env own F h₀ σ h) (kl : ∀ o, h.get? env.locals = some o → h'.get? env.locals = some o) (kc : ∀ (i : Nat) x a, c.names[i]? = some x → env.kindOf x ≠ some .local → env.cells.lookup x = some a → ∀ o, h.get? a = some o → h'.get? a = some o)
    (t : Tups h h') (al : ∀ a, own a → ∃ o, h'.get? a = some o) : FrOk c env own F h₀ σ h' := by
  refine ⟨f.kind, f.glob, f.bi, f.gk, f.vk, ?_, fun i x e n => ?_, f.inj, f.loc, f.nd, al⟩
  · obtain ⟨m, n, r⟩ := f.ns
    obtain ⟨o, es, ep, ho, q⟩ := n
    exact ⟨m, ⟨o, es, ep, kl _ ho, q⟩, fun i x v e1 e2 e3 => by
      obtain ⟨w, e4, e5⟩ := r i x v e1 e2 e3
      exact ⟨w, e4, e5.tups t⟩⟩
  · obtain ⟨a, cv, e1, ⟨o, e2, e2'⟩, e3, e4, e5, e6⟩ := f.cell i x e n
    refine ⟨a, cv, e1, ⟨o, kc _ _ _ e n e1 _ e2, e2'⟩, e3, e4, e5, fun v hv => ?_⟩
    obtain ⟨w, q1, q2⟩ := e6 v hv
    exact ⟨w, q1, q2.tups t⟩
theorem FSt.stepX (x : FSt c env own as iv h₀ σb hb I F σ h) (y : StepX own h₀ σ h σ' h') (f : FrOk c env own F1 h₀ σ' h') : FSt c env own as iv h₀ σb hb I F1 σ' h' := by
  have kp : ∀ a ∈ as, ∀ o, h.get? a = some o → h'.get? a = some o := fun a m o e => y.keep a o (none_mut (x.bes a m).2.1) (x.no a m) (x.it.notD a m o e) e
  exact ⟨x.it.move kp y.tups, f, x.st.trans y, x.bes.of_grow y.grow x.it.there, x.no, x.cl, x.lc⟩
theorem FSt.moved (x : FSt c env own as iv h₀ σb hb I F σ h) (k : ∀ b o, b ∉ as → h.get? b = some o → h'.get? b = some o) (it' : ItRep h' iv as I') : FSt c env own as iv h₀ σb hb I' F σ h' := by
  have t := (x.st.w.slip (fun a m => (x.bes a m).2) x.it.notImm k).2
  have nh : ∀ a, (∃ o, hb.get? a = some o) → a ∉ as := fun a ⟨o, e⟩ m => by rw [(x.bes a m).1] at e; cases e
  refine ⟨it', ?_, StepX.slip x.st x.bes x.it.notImm k, x.bes, x.no, x.cl, x.lc⟩
  refine x.fr.move' (fun o e => k _ o (nh _ x.lc) e) (fun i y a e1 e2 e3 o e => k a o (nh a (x.cl i y a e1 e2 e3)) e) t (fun a m => ?_)
  obtain ⟨o, e⟩ := x.fr.ex a m
  exact ⟨o, k a o (fun m' => x.no a m' m) e⟩
theorem FSt.over (x : FSt c env own as iv h₀ σb hb I F σ h) (k : ∀ b o, b ∉ as → h.get? b = some o → h'.get? b = some o) : StepX own h₀ σb hb σ h' ∧ FrOk c env own F h₀ σ h' := by
  have t := (x.st.w.slip (fun a m => (x.bes a m).2) x.it.notImm k).2
  have nh : ∀ a, (∃ o, hb.get? a = some o) → a ∉ as := fun a ⟨o, e⟩ m => by rw [(x.bes a m).1] at e; cases e
  refine ⟨StepX.slip x.st x.bes x.it.notImm k, ?_⟩
  refine x.fr.move' (fun o e => k _ o (nh _ x.lc) e) (fun i y a e1 e2 e3 o e => k a o (nh a (x.cl i y a e1 e2 e3)) e) t (fun a m => ?_)
  obtain ⟨o, e⟩ := x.fr.ex a m
  exact ⟨o, k a o (fun m' => x.no a m' m) e⟩
theorem FSt.start (hw : W h₀ σ hb) (hf : FrOk c env own F h₀ σ hb) (it : ItRep h iv as I) (bes : Beside as h₀ σ hb) (ko : ∀ b o, hb.get? b = some o → h.get? b = some o) : FSt c env own as iv h₀ σ hb I F σ h := by
  have st := hw.extend ko
  refine ⟨it, hf.step st, Step.any st, bes, fun a m q => ?_, fun i y a e1 e2 e3 => ?_, ?_⟩
  · obtain ⟨o, e⟩ := hf.ex a q; rw [(bes a m).1] at e; cases e
  · obtain ⟨a', cv, g1, ⟨o, g2, _⟩, _⟩ := hf.cell i y e1 e2
    rw [e3] at g1; cases g1; exact ⟨o, g2⟩
  · obtain ⟨m, ⟨o, _, _, ho, _⟩, _⟩ := hf.ns; exact ⟨o, ho⟩
end

section
variable {prog : Program} {w : World} {h₀ : Heap} {mg mb : Str → Option Value} {Φ : Fns} {n : Nat} {fns : List Str}

noncomputable def ForInv (Φ : Fns) (t : Tgt) (b : List PS) (Q : Fl → Frm → Hp → Prop) (Inv : Nat → It → Frm → Hp → Prop) : Prop := ∀ n I F σ, Inv n I F σ →
        match itNext I σ with
        | none => False
        | some none => Q .next F σ
        | some (some (x, I')) => bindT t x (fun F1 => vSs Φ b (fun fl F σ => match fl with
          | .next => ∃ m, m < n ∧ Inv m I' F σ
          | .cont => ∃ m, m < n ∧ Inv m I' F σ
          | .brk => Q .next F σ
          | .ret v => Q (.ret v) F σ) F1 σ) F σ

theorem for_loop {A : Around} {s : Shared} {c : Cfg} {env : Env} {own : Addr → Prop} {as : List Addr} {iv : Value} {F : Frm} {σ : Hp} {sb : Shared} {I : It} {t : Expr} {tg : Tgt} {l : List Stmt} {b : List PS} {Q : Fl → Frm → Hp → Prop} {Inv : Nat → It → Frm → Hp → Prop}
    (hh : A.handled = none) (hg : CG c t tg)
    (hbd : ∀ {s : Shared} {σ : Hp} {F : Frm} {Q : Fl → Frm → Hp → Prop}, W h₀ σ s.heap → FrOk c env own F h₀ σ s.heap → Frs A h₀ σ s.heap → vSs Φ b Q F σ → wpAny (model prog w) A (execs l env) (PSt c env own h₀ σ s Q) E0 s)
    (hen : ∀ k a, I = .enm k a → ∃ elts x1 p, t = .Tuple elts x1 p) (x0 : FSt c env own as iv h₀ σ sb.heap I F σ s.heap) (hfs : Frs A h₀ σ sb.heap) (mb : Sm sb s) {n : Nat} (hi : Inv n I F σ) (hinv : ForInv Φ tg b Q Inv) {R : Result → Shared → Prop}
    (hR : ∀ f s', PSt c env own h₀ σ sb Q f s' → R (.ok f) s') : codeAny (model prog w) A (.forLoop t iv l [] env) R s := by
  have e0 : ∀ (E : Value → Shared → Prop) e s, E0 e s → E e s := fun _ _ _ f => f.elim
  refine codeAny_forLoop_any (fun n s' => ∃ I F σ', Sm sb s' ∧ Inv n I F σ' ∧ (∀ k a, I = .enm k a → ∃ elts x1 p, t = .Tuple elts x1 p) ∧ FSt c env own as iv h₀ σ sb.heap I F σ' s'.heap) (fun n s' hI => ?_) n ⟨I, F, σ, mb, hi, hen, x0⟩
  obtain ⟨I, F, σ', mI, hi, hen, x⟩ := hI
  have q := hinv n I F σ' hi
  split at q
  · exact q.elim
  · rename_i hn
    refine next_end hh x.st.w x.it hn fun s'' mE kk => wpAny_execs_nil ?_
    obtain ⟨st, fr⟩ := x.over kk
    exact hR _ _ ⟨.next, F, σ', trivial, ⟨st, mI.trans mE⟩, fr, q⟩
  · rename_i xx I' hn
    have rest : ∀ y s₂, Sm sb s₂ → Rep s₂.heap y xx → FSt c env own as iv h₀ σ sb.heap I' F σ' s₂.heap → (∀ k a, I' = .enm k a → ∃ elts x1 p, t = .Tuple elts x1 p) →
        wpAny (model prog w) A (assign t env y) (fun _ s₂ => wpAny (model prog w) A (execs l env) (fun f s₃ => match f with
            | .next | .cont => ∃ m, m < n ∧ ∃ I F σ', Sm sb s₃ ∧ Inv m I F σ' ∧ (∀ k a, I = .enm k a → ∃ elts x1 p, t = .Tuple elts x1 p) ∧ FSt c env own as iv h₀ σ sb.heap I F σ' s₃.heap
            | .brk => R (.ok .next) s₃
            | .ret v => R (.ok (.ret v)) s₃) (notedBy (model prog w) A env fun e s' => R (.error e) s') s₂) (notedBy (model prog w) A env fun e s' => R (.error e) s') s₂ := by
      intro y s₂ m2 ry x2 hen'
      refine assign_ok hg hh x2.st.w x2.fr ry q fun s₃ F1 qF m3 stx f1 => ?_
      have x3 := x2.stepX stx f1
      refine wpAny_mono (hbd x3.st.w x3.fr (hfs.step x3.st) qF) (fun f s₄ ⟨fl, F4, σ4, rf, ⟨st4, m4⟩, fr4, q4⟩ => ?_) (e0 _)
      have x4 := x3.stepX st4 fr4
      have mm := (m2.trans m3).trans m4
      cases f with
      | next => cases fl <;> first | exact rf.elim | (obtain ⟨m, hm, q5⟩ := q4; exact ⟨m, hm, I', F4, σ4, mm, q5, hen', x4⟩)
      | cont => cases fl <;> first | exact rf.elim | (obtain ⟨m, hm, q5⟩ := q4; exact ⟨m, hm, I', F4, σ4, mm, q5, hen', x4⟩)
      | brk => cases fl <;> first | exact rf.elim | exact hR _ _ ⟨.next, F4, σ4, trivial, ⟨x4.st, mm⟩, x4.fr, q4⟩
      | ret v => cases fl <;> first | exact rf.elim | exact hR _ _ ⟨.ret _, F4, σ4, rf, ⟨x4.st, mm⟩, x4.fr, q4⟩
    have bb : ∀ a ∈ as, σ' a = none ∧ h₀.get? a = none := fun a m => (x.bes a m).2
    cases I with
    | enm k0 a0 =>
      obtain ⟨elts, x1, p, rfl⟩ := hen _ _ rfl
      obtain ⟨e1, I1, old', rfl, rfl, hne, he, hi'⟩ := x.it
      refine next_enum x.st.w hne he hi' bb hn (elts := elts) (x1 := x1) (pos := p) fun y s₂ hy => ?_
      refine wpAny_mono hy (fun _ s₃ ⟨mm, ry, it', kk⟩ => rest y s₃ (mI.trans mm) ry (x.moved kk it') (fun _ _ _ => ⟨_, _, _, rfl⟩)) (e0 _)
    | lst a0 i0 =>
      have hk' : ∀ k a, It.lst a0 i0 = It.enm k a → False := by intro k a e; cases e
      refine next_item hh x.st.w x.it bb hn hk' fun y s₂ mm ry it' kk => ?_
      exact letGo_it it' (next_kind hn hk') (rest y s₂ (mI.trans mm) ry (x.moved kk it') (fun k a e => (next_kind hn hk' k a e).elim))
    | rng a0 n0 c0 =>
      have hk' : ∀ k a, It.rng a0 n0 c0 = It.enm k a → False := by intro k a e; cases e
      refine next_item hh x.st.w x.it bb hn hk' fun y s₂ mm ry it' kk => ?_
      exact letGo_it it' (next_kind hn hk') (rest y s₂ (mI.trans mm) ry (x.moved kk it') (fun k a e => (next_kind hn hk' k a e).elim))
    | vals vs0 =>
      have hk' : ∀ k a, It.vals vs0 = It.enm k a → False := by intro k a e; cases e
      refine next_item hh x.st.w x.it bb hn hk' fun y s₂ mm ry it' kk => ?_
      exact letGo_it it' (next_kind hn hk') (rest y s₂ (mI.trans mm) ry (x.moved kk it') (fun k a e => (next_kind hn hk' k a e).elim))
end

/-! M15 -/
section
variable {prog : Program} {w : World} {h₀ : Heap} {mg mb : Str → Option Value} {Φ : Fns} {n : Nat} {fns : List Str}

theorem rr_some {A : Around} {s : Shared} {c : Cfg} {env : Env} {own : Addr → Prop} {F : Frm} {σ : Hp} {sb : Shared} {Q : Fl → Frm → Hp → Prop} {x : Str} {xp : Pos} {i : Nat} (hx : c.names[i]? = some x) (nf : c.sc.lookup x ≠ some .free)
    (hh : A.handled = none) (msb : Sm sb s) (hwb : W h₀ σ sb.heap) (hf : FrOk c env own F h₀ σ sb.heap) {QQ : Value → Shared → Prop} (hQQ : ∀ v s', PSt c env own h₀ σ sb Q .next s' → QQ v s') :
    CompEnd h₀ σ sb.heap s (fun v σ => bindT (.name i) v (fun F' => Q .next F' σ) F σ) (fun acc C => compPost (model prog w) A E0 (some (assign (.Name x xp) env)) QQ acc C) := by
  intro D C s' σ' acc vs k m mm hq gD rv nC st nD nC' hDC sD sC
  have hD : Holds s'.heap D (.list acc) := ⟨vs, k, gD, rv⟩
  have wD := st.w.adopt (beside_one hwb nD).2.2 hD hq.1
  have st2 : Step h₀ σ sb.heap (upd σ' D (.list acc)) s'.heap := by
    refine ⟨wD, st.keep, st.dict, fun a => ?_, st.tups, st.alive⟩
    by_cases qa : a = D
    · subst qa; exact ⟨fun _ => .inr nD, fun _ => .inr nD⟩
    · have := st.grow a
      unfold Mut at this ⊢
      rw [upd_ne _ _ qa]; exact this
  have fr := hf.step st2
  have q := hq.2 D sD
  show wpAny _ A (assign (.Name x xp) env (.ref D)) _ _ s'
  refine assign_ok (CG.name hx nf) hh wD fr (.ref D) q fun s'' F1 q1 m2 stx f1 => ?_
  have sC2 : upd σ' D (.list acc) C = none := by rw [upd_ne _ _ (Ne.symm hDC)]; exact sC
  have noC : ¬ own C := fun h => by obtain ⟨o, e⟩ := hf.ex C h; rw [nC'] at e; cases e
  have nC2 : s''.heap.Ns C m := stx.ns (none_mut sC2) noC nC
  refine ⟨m, nC2, fun h'' sbt => hQQ _ _ ?_⟩
  have kk : ∀ b o, b ∉ [C] → s''.heap.get? b = some o → h''.get? b = some o := fun b o n e => sbt.extBut b o (by simpa using n) e
  have h0C : h₀.get? C = none := (beside_one hwb nC').2.2
  have ni : ∀ a ∈ [C], ∀ o, s''.heap.get? a = some o → ¬ Imm o := fun a m' o e => by simp at m'; subst m'; exact ns_not_imm nC2 o e
  have bC : Beside [C] h₀ (upd σ' D (.list acc)) sb.heap := fun a m' => by simp at m'; subst m'; exact ⟨nC', sC2, h0C⟩
  have all := (Step.any (own := own) st2).trans stx
  have t2 := (all.w.slip (fun a m' => (bC a m').2) ni kk).2
  have all' := StepX.slip all bC ni kk
  have nh : ∀ a, (∃ o, sb.heap.get? a = some o) → a ∉ [C] := fun a ⟨o, e⟩ m => by simp at m; subst m; rw [nC'] at e; cases e
  refine ⟨.next, F1, _, trivial, ⟨all', (msb.trans mm).trans (m2.trans ⟨Eq.refl _, Eq.refl _⟩)⟩, ?_, q1⟩
  refine f1.move' (fun o e => kk _ o (nh _ ?_) e) (fun j y a e1 e2 e3 o e => kk a o (nh a ?_) e) t2 (fun a m' => ?_)
  · obtain ⟨m, ⟨o, _, _, ho, _⟩, _⟩ := hf.ns; exact ⟨o, ho⟩
  · obtain ⟨a', cv, g1, ⟨o, g2, _⟩, _⟩ := hf.cell j y e1 e2
    rw [e3] at g1; cases g1; exact ⟨o, g2⟩
  · obtain ⟨o, e⟩ := f1.ex a m'
    exact ⟨o, kk a o (nh a (hf.ex a m')) e⟩

end
/-- a statement is what its walk says -/
noncomputable def CS (c : Cfg) (e : Stmt) (p : PS) : Prop := ∀ {prog : Program} {w : World} {h₀ : Heap} {mg mb : Str → Option Value} {Φ : Fns} {n : Nat} {A : Around} {s : Shared} {σ : Hp} {env : Env} {own : Addr → Prop} {F : Frm} {Q : Fl → Frm → Hp → Prop},
  Here prog w h₀ mg mb Φ n c A s σ env own F → OnTop A env → vS Φ p Q F σ → wpAny (model prog w) A (exec e env) (PSt c env own h₀ σ s Q) E0 s
noncomputable def CSs (c : Cfg) (e : List Stmt) (p : List PS) : Prop := ∀ {prog : Program} {w : World} {h₀ : Heap} {mg mb : Str → Option Value} {Φ : Fns} {n : Nat} {A : Around} {s : Shared} {σ : Hp} {env : Env} {own : Addr → Prop} {F : Frm} {Q : Fl → Frm → Hp → Prop},
  Here prog w h₀ mg mb Φ n c A s σ env own F → OnTop A env → vSs Φ p Q F σ → wpAny (model prog w) A (execs e env) (PSt c env own h₀ σ s Q) E0 s
section
variable {c : Cfg} {p q : Pos}
theorem CSs.nil : CSs c [] [] := fun X T v => wpAny_execs_nil (.next (.refl X.w) .rfl X.f v)
theorem CSs.cons {s : Stmt} {a : PS} {ss : List Stmt} {as : List PS} (h : CS c s a) (hs : CSs c ss as) : CSs c (s :: ss) (a :: as) := by
  intro prog w h₀ mg mb Φ n A s σ env own F Q X T v
  refine wpAny_execs_cons (wpAny_mono (h X T v) (fun f s₁ ⟨fl, F₁, σ₁, rf, ⟨st, m₁⟩, fr, q⟩ => ?_) fun _ _ f => f)
  have q := q.go
  cases f with
  | next => cases fl <;> first | exact rf.elim | exact wpAny_mono (hs ⟨X.G, X.NM, X.R, st.w, fr, X.fs.step st⟩ T q) (fun _ _ pv => pv.back st m₁) fun _ _ f => f
  | cont => cases fl <;> first | exact rf.elim | exact ⟨.cont, F₁, σ₁, rf, ⟨st, m₁⟩, fr, q⟩
  | brk => cases fl <;> first | exact rf.elim | exact ⟨.brk, F₁, σ₁, rf, ⟨st, m₁⟩, fr, q⟩
  | ret v => cases fl <;> first | exact rf.elim | exact ⟨.ret _, F₁, σ₁, rf, ⟨st, m₁⟩, fr, q⟩
theorem CS.expr {e : Expr} {a : PE} (he : CE c e a) (hs : ∀ env, swapsWith e none p.line env = pure false) : CS c (.Expr e p) (.expr a) := by
  intro prog w h₀ mg mb Φ n A s σ env own F Q X T v
  refine wpAny_Expr_any (wpAny_mono (he X v) (fun y s₁ => PV.on fun z σ₁ rz st m₁ q => .next (Step.any st) m₁ (X.f.step st) q) fun _ _ f => f) ?_ (hs env)
  unfold interactive; rw [X.f.kind]; rfl
theorem CS.assign {x : Str} {i : Nat} {e : Expr} {a : PE} (hx : c.names[i]? = some x) (nf : c.sc.lookup x ≠ some .free) (he : CE c e a) (hs : ∀ env, swapsWith e (some (.Name x q)) p.line env = pure false) : CS c (.Assign [.Name x q] e p) (.assign (.name i) a) := by
  intro prog w h₀ mg mb Φ n A s σ env own F Q X T v
  refine wpAny_Assign_Name (wpAny_mono (he X v) (fun y s₁ => PV.on fun z σ₁ rz st m₁ q => ?_) fun _ _ f => f) (hs env)
  exact (X.f.step st).store st.w hx nf rz fun s' m' st' hf' => .next ((Step.any st).trans st') (m₁.trans m') hf' q
theorem CS.assignC {x : Str} {i : Nat} {elt t it : Expr} {k : IK} {ifs : List Expr} {scope : Scope} {cp : Pos} {a b : PE} {tg : Tgt} {as : List PE} {fm : List (Option Nat)} (hx : c.names[i]? = some x) (nf : c.sc.lookup x ≠ some .free) (C : CompOk c elt t it k ifs scope a b tg as fm) :
    CS c (.Assign [.Name x q] (.ListComp elt [⟨t, it, ifs, 0⟩] scope cp) p) (.assign (.name i) (.comp fm a tg k b as)) := by
  intro prog w h₀ mg mb Φ n A s σ env own F Q X T v
  obtain ⟨bb, hb⟩ : ∃ bb, swapsWith (.ListComp elt [⟨t, it, ifs, 0⟩] scope cp) (some (.Name x q)) p.line env = pure bb := ⟨_, rfl⟩
  cases bb with
  | false =>
    refine wpAny_Assign_Name (wpAny_mono (CE.comp C X v) (fun y s₁ => PV.on fun z σ₁ rz st m₁ q => ?_) fun _ _ f => f) hb
    exact (X.f.step st).store st.w hx nf rz fun s' m' st' hf' => .next ((Step.any st).trans st') (m₁.trans m') hf' q
  | true =>
    rw [exec_Assign_Name_used _ _ _ _ hb]
    refine wpAny_bind (wpAny_standAt (wpAny_bind ?_))
    show wpAny _ A (do let _ ← comprehension (.ListComp elt [⟨t, it, ifs, 0⟩] scope cp) scope env _ (newList []) false (eval it env) (some (PySem.assign (.Name x q) env))) _ _ s
    have key : wpAny (model prog w) A (comprehension (.ListComp elt [⟨t, it, ifs, 0⟩] scope cp) scope env (firstIterPos [⟨t, it, ifs, 0⟩] cp) (newList []) false (eval it env) (some (PySem.assign (.Name x q) env))) (fun _ s' => PSt c env own h₀ σ s Q .next s') E0 s := by
      refine wpAny_comprehension_free (use := some (PySem.assign (.Name x q) env)) rfl (C.ci.1 env) (clos_ok C.ok X.f) C.kind (scOk_names C.ok) (wpAny_mono (C.ci.2 X v) (fun x s₁ h => ?_) fun _ _ f => f)
      refine wpAny_mono h (fun it s₂ ⟨σ₁, s₀, st, m₁, m₂, I, as, ne, hit, bes, ko, Inv, ⟨n0, hi⟩, hinv⟩ => ?_) fun _ _ f => f
      have hfm := C.fm
      subst hfm
      exact comp_tail (Inv := Inv) X.R.handled C.ok C.kind C.cg (fun hw hf fs v => C.ce ⟨X.G, X.NM, X.R, hw, hf, fs⟩ v) (fun hw hf fs v => sTs C.ct ⟨X.G, X.NM, X.R, hw, hf, fs⟩ v)
        (fun k' a' e => by
          have hk := ne k' a' e
          obtain ⟨is, rfl⟩ := C.en (by simpa using hk)
          cases C.cg; exact ⟨_, _, _, rfl⟩) st.w (X.f.step st) (X.fs.step st) ko hit bes hi hinv (rr_some (Q := Q) hx nf X.R.handled m₂ st.w (X.f.step st) (fun _ _ pv => pv.back (Step.any st) m₁))
    exact wpAny_bind (wpAny_mono key (fun _ s' hq => wpAny_pure (wpAny_pure hq)) fun _ _ e => e)
theorem CS.assignT {es : List Expr} {k : Nat} {is : List Nat} {e : Expr} {a : PE} (hg : CGs c es is) (he : CE c e a) (hs : ∀ env, swapsWithSole [.Tuple es k q] e p.line env = pure false) (hs2 : ∀ env, swappedStores [.Tuple es k q] e env = pure none) :
    CS c (.Assign [.Tuple es k q] e p) (.assign (.tup is) a) := by
  intro prog w h₀ mg mb Φ n A s σ env own F Q X T v
  refine PyProof.Rows.Assign_Tuple (wpAny_mono (he X v) (fun y s₁ => PV.on fun z σ₁ rz st m₁ q => ?_) fun _ _ f => f) (hs env) (hs2 env)
  exact assign_ok (CG.tup hg) X.R.handled st.w (X.f.step st) rz q fun s' F1 q1 m' st' hf' => .next ((Step.any st).trans st') (m₁.trans m') hf' q1
theorem CS.setitem {o i e : Expr} {a b d : PE} (ho : CE c o a) (hi : CE c i b) (he : CE c e d) (hs : ∀ env, swapsWith e (some (.Subscript o i q)) p.line env = pure false) : CS c (.Assign [.Subscript o i q] e p) (.setitem a b d) := by
  intro prog w h₀ mg mb Φ n A s σ env own F Q X T v
  refine wpAny_Assign_Subscript (wpAny_mono (he X v) (fun y s₁ => PV.on fun z σ₁ rz st m₁ q => wpAny_mono (ho (X.step st) q) (fun ov s₂ => PV.on fun oz σ₂ roz st₂ m₂ q₂ =>
    wpAny_mono (hi ((X.step st).step st₂) q₂) (fun iv s₃ => PV.on fun iz σ₃ riz st₃ m₃ q₃ => ?_) fun _ _ f => f) fun _ _ f => f) fun _ _ f => f) (hs env)
  refine wpAny_mono (q₃.go (roz.step st₃) riz ((rz.step st₂).step st₃) st₃.w) (fun _ s₄ ⟨σ₄, ⟨st₄, m₄⟩, q₄⟩ => ?_) fun _ _ f => f
  exact .next (Step.any (((st.trans st₂).trans st₃).trans st₄)) (((m₁.trans m₂).trans m₃).trans m₄) ((((X.f.step st).step st₂).step st₃).step st₄) q₄
theorem CS.aug {x : Str} {i : Nat} {op : Operator} {e : Expr} {a : PE} (hx : c.names[i]? = some x) (nf : c.sc.lookup x ≠ some .free) (hcd : (x == ("__classdict__" : Str)) = false) (hop : op = .Add ∨ op = .Mult) (he : CE c e a) : CS c (.AugAssign (.Name x q) op e p) (.aug i op a) := by
  intro prog w h₀ mg mb Φ n A s σ env own F Q X T v
  obtain ⟨x, hu, v⟩ := look_some v
  refine wpAny_AugAssign_Name (X.f.load hx hu hcd fun old r => wpAny_mono (he X v) (fun y s₁ => PV.on fun z σ₁ rz st m₁ q => ?_) fun _ _ f => f)
  unfold opAug at q
  split at q
  · obtain ⟨t, rfl⟩ := r.iint; obtain ⟨t', rfl⟩ := rz.iint
    rcases hop with rfl | rfl
    · refine iadd_int ?_
      exact (X.f.step st).store (s := { s₁ with toks := s₁.toks + 1 }) st.w hx nf (.int _ _) fun s' m' st' hf' => .next ((Step.any st).trans st') (m₁.trans (Sm.trans ⟨Eq.refl _, Eq.refl _⟩ m')) hf' q
    · refine imul_int ?_ q.1
      exact (X.f.step st).store (s := { s₁ with toks := s₁.toks + 1 }) st.w hx nf (.int _ _) fun s' m' st' hf' => .next ((Step.any st).trans st') (m₁.trans (Sm.trans ⟨Eq.refl _, Eq.refl _⟩ m')) hf' q.2
  · exact q.elim
theorem CS.ifs {t : Expr} {l r : List Stmt} {a : PE} {b d : List PS} (ht : CT c t a) (hl : CSs c l b) (hr : CSs c r d) : CS c (.If t l r p) (.ifs a b d) := by
  intro prog w h₀ mg mb Φ n A s σ env own F Q X T v
  refine wpAny_If (wpAny_mono (ht X v) (fun b s₁ => PB.on fun σ₁ st m₁ q => ?_) fun _ _ f => f)
  cases b with
  | true => exact wpAny_mono (hl (X.step st) T q) (fun _ _ pv => pv.back (Step.any st) m₁) fun _ _ f => f
  | false => exact wpAny_mono (hr (X.step st) T q) (fun _ _ pv => pv.back (Step.any st) m₁) fun _ _ f => f
theorem CS.whil {t : Expr} {l : List Stmt} {a : PE} {b : List PS} (ht : CT c t a) (hl : CSs c l b) : CS c (.While t l [] p) (.whil a b) := by
  intro prog w h₀ mg mb Φ n A s σ env own F Q X T v
  obtain ⟨Inv, ⟨n0, hi⟩, hinv⟩ := v
  have e0 : ∀ (E : Value → Shared → Prop) e s, E0 e s → E e s := fun _ _ _ f => f.elim
  refine wpAny_While (codeAny_whileLoop (fun n s' => ∃ F σ', Inv n F σ' ∧ FrOk c env own F h₀ σ' s'.heap ∧ StepX own h₀ σ s.heap σ' s'.heap ∧ Sm s s') (fun n s' hI => ?_) n0 ⟨F, σ, hi, X.f, .refl X.w, .rfl⟩)
  obtain ⟨F, σ', hi, hf', st', mI⟩ := hI
  refine wpAny_mono (ht ⟨X.G, X.NM, X.R, st'.w, hf', X.fs.step st'⟩ (hinv n F σ' hi)) (fun b s₂ => PB.on fun σ₂ st₂ m₂ q => ?_) (e0 _)
  have all := st'.trans (Step.any st₂)
  cases b with
  | false => exact wpAny_execs_nil (PSt.next all (mI.trans m₂) (hf'.step st₂) q)
  | true =>
    simp only [if_true] at q ⊢
    refine wpAny_mono (hl ⟨X.G, X.NM, X.R, st₂.w, hf'.step st₂, (X.fs.step st').step st₂⟩ T q) (fun f s₃ ⟨fl, F₃, σ₃, rf, ⟨st₃, m₃⟩, fr₃, q₃⟩ => ?_) (e0 _)
    have all3 := all.trans st₃
    have mm := (mI.trans m₂).trans m₃
    cases f with
    | next => cases fl <;> first | exact rf.elim | (obtain ⟨m, hm, q5⟩ := q₃; exact ⟨m, hm, F₃, σ₃, q5, fr₃, all3, mm⟩)
    | cont => cases fl <;> first | exact rf.elim | (obtain ⟨m, hm, q5⟩ := q₃; exact ⟨m, hm, F₃, σ₃, q5, fr₃, all3, mm⟩)
    | brk => cases fl <;> first | exact rf.elim | exact ⟨.next, F₃, σ₃, trivial, ⟨all3, mm⟩, fr₃, q₃⟩
    | ret v => cases fl <;> first | exact rf.elim | exact ⟨.ret _, F₃, σ₃, rf, ⟨all3, mm⟩, fr₃, q₃⟩
theorem CS.for {t it : Expr} {l : List Stmt} {tg : Tgt} {k : IK} {a : PE} {b : List PS} (hg : CG c t tg) (hci : CI c it k a) (hen : k = .enum → ∃ is, tg = .tup is) (hl : CSs c l b) : CS c (.For t it l [] p) (.for tg k a b) := by
  intro prog w h₀ mg mb Φ n A s σ env own F Q X T v
  refine wpAny_For (wpAny_mono (hci.2 X v) (fun x s₁ h => wpAny_mono h (fun it s₂ ⟨σ₁, s₀, st, m₁, m₂, I, as, ne, hit, bes, ko, Inv, ⟨n0, hi⟩, hinv⟩ => ?_) fun _ _ f => f) fun _ _ f => f) (hci.1 env)
  exact for_loop (Inv := Inv) X.R.handled hg (fun hw hf fs v => hl ⟨X.G, X.NM, X.R, hw, hf, fs⟩ T v)
    (fun k' a' e => by
      have hk := ne k' a' e
      obtain ⟨is, rfl⟩ := hen (by simpa using hk)
      cases hg; exact ⟨_, _, _, rfl⟩) (.start st.w (X.f.step st) hit bes ko) (X.fs.step st) m₂ hi hinv (fun f s' pv => pv.back (Step.any st) m₁)
theorem CS.ret {e : Expr} {a : PE} (he : CE c e a) : CS c (.Return (some e) p) (.ret a) := by
  intro prog w h₀ mg mb Φ n A s σ env own F Q X T v
  exact wpAny_Return_some (wpAny_mono (he X v) (fun y s₁ => PV.on fun z σ₁ rz st m₁ q => ⟨.ret z, F, σ₁, rz, ⟨Step.any st, m₁⟩, X.f.step st, q⟩) fun _ _ f => f)
theorem CS.brk : CS c (.Break p) .brk := by
  intro prog w h₀ mg mb Φ n A s σ env own F Q X T v
  exact wpAny_Break ⟨.brk, F, σ, trivial, ⟨.refl X.w, .rfl⟩, X.f, v⟩
theorem CS.cont : CS c (.Continue p) .cont := by
  intro prog w h₀ mg mb Φ n A s σ env own F Q X T v
  exact wpAny_Continue ⟨.cont, F, σ, trivial, ⟨.refl X.w, .rfl⟩, X.f, v⟩
end

/-! M16 -/
theorem bindL_eq {kindOf : Str → Option NameKind} {x : Str} (hk : kindOf x = some .local) : ∀ (ps : List Str) (vs : List Value) (m : Str → Option Value), ps.Nodup → bindL kindOf (ps.zip vs) m x = ((ps.zip vs).lookup x).or (m x)
  | [], _, m, _ => rfl
  | p :: ps, [], m, _ => rfl
  | p :: ps, v :: vs, m, nd => by
    simp only [List.nodup_cons] at nd
    show bindL kindOf (ps.zip vs) (if kindOf p = some .local then fun y => if y = p then some v else m y else m) x = _
    rw [bindL_eq hk ps vs _ nd.2, List.zip_cons_cons, List.lookup_cons]
    by_cases e : x = p
    · subst e
      have : (ps.zip vs).lookup x = none := by
        rw [List.lookup_eq_none_iff]
        intro q hq
        have := List.of_mem_zip hq
        simp; rintro rfl; exact nd.1 this.1
      rw [this]; simp [hk]
    · have : (x == p) = false := by simpa using e
      rw [this]
      by_cases hp : kindOf p = some .local
      · simp [hp, e]
      · simp [hp]
theorem bindC_eq {kindOf : Str → Option NameKind} {x : Str} (hk : kindOf x ≠ some .local) : ∀ (ps : List Str) (vs : List Value) (m : Str → Option Value), ps.Nodup → bindC kindOf (ps.zip vs) m x = ((ps.zip vs).lookup x).or (m x)
  | [], _, m, _ => rfl
  | p :: ps, [], m, _ => rfl
  | p :: ps, v :: vs, m, nd => by
    simp only [List.nodup_cons] at nd
    show bindC kindOf (ps.zip vs) (if kindOf p = some .local then m else fun y => if y = p then some v else m y) x = _
    rw [bindC_eq hk ps vs _ nd.2, List.zip_cons_cons, List.lookup_cons]
    by_cases e : x = p
    · subst e
      have : (ps.zip vs).lookup x = none := by
        rw [List.lookup_eq_none_iff]
        intro q hq
        have := List.of_mem_zip hq
        simp; rintro rfl; exact nd.1 this.1
      rw [this]; simp [hk]
    · have : (x == p) = false := by simpa using e
      rw [this]
      by_cases hp : kindOf p = some .local
      · simp [hp]
      · simp [hp, e]
theorem zip_rep {h : Heap} {x : Str} {u : V} : ∀ {ps : List Str} {vs : List Value} {xs : List V}, Reps h vs xs → (ps.zip xs).lookup x = some u → ∃ w, (ps.zip vs).lookup x = some w ∧ Rep h w u
  | [], _, _, _, e => by simp at e
  | p :: ps, _, _, .nil, e => by simp at e
  | p :: ps, _, _, .cons r rs, e => by
    simp only [List.zip_cons_cons, List.lookup_cons] at e ⊢
    split at e
    · cases e; exact ⟨_, rfl, r⟩
    · exact zip_rep rs e

noncomputable def initF (c : Cfg) (params : List Str) (args : List V) : Frm := c.names.map fun x => (params.zip args).lookup x
/-- the answer of a def -/
noncomputable def retV (Q : V → Hp → Prop) (fl : Fl) (F : Frm) (σ : Hp) : Prop := match fl with | .ret v => Q v σ | .next => Q .none σ | _ => False
noncomputable def bodyV (Φ : Fns) (c : Cfg) (params : List Str) (ps : List PS) (args : List V) (Q : V → Hp → Prop) (σ : Hp) : Prop :=
  args.length = params.length ∧ vSs Φ ps (retV Q) (initF c params args) σ

/-- what a def of the text must be -/
structure DefOk (h₀ : Heap) (fd : FuncData) (fns : List Str) (params : List Str) (body : List Stmt) (ps : List PS) : Prop where
  bdy : fd.body = .stmts body
  bind : ∀ s : Shared, (∀ b o, h₀.get? b = some o → s.heap.get? b = some o) → ∀ vals : List Value, vals.length = params.length → BindsTo s fd ⟨vals, []⟩ (params.zip vals)
  clo : fd.closure = []
  glob : fd.globals = mainGlobals
  bi : fd.builtins = builtinsNs
  co : fd.scope.isCoroutine = false
  gen : fd.scope.isGenerator = false
  kind : fd.scope.kind = .function
  nd : (fd.scope.names.map (·.1)).Nodup
  noFree : ∀ x ∈ fd.scope.names, x.2 ≠ .free
  pk : ∀ x ∈ params, fd.scope.names.lookup x = some .local ∨ fd.scope.names.lookup x = some .cell
  pnd : params.Nodup
  cs : CSs { sc := fd.scope.names, fns := fns } body ps

theorem cellsFrom_look {x : Str} : ∀ (names : List (Str × NameKind)) (n : Nat) (acc : List (Str × Addr)), names.lookup x = some .cell ∨ (acc.lookup x).isSome = true → ((cellsFrom n names acc).lookup x).isSome = true := fun names n acc h => cellsFrom_some names n acc h
section
variable {prog : Program} {w : World} {h₀ : Heap} {mg mb : Str → Option Value} {Φ : Fns} {n : Nat} {fns : List Str}

/-- the frame of a call -/
theorem call_frame {fd : FuncData} {params : List Str} {body : List Stmt} {ps : List PS} (D : DefOk h₀ fd fns params body ps) {fa : Addr} {s s₁ : Shared} {σ : Hp} (hw : W h₀ σ s.heap) {vargs : List Value} {args : List V} (ra : Reps s.heap vargs args) (hl : args.length = params.length)
    (x : InCallC s (callEnvC fd s.heap.objs.size fa).locals (bindL (callEnvC fd s.heap.objs.size fa).kindOf (params.zip vargs) fun _ => none) (callEnvC fd s.heap.objs.size fa).cells (bindC (callEnvC fd s.heap.objs.size fa).kindOf (params.zip vargs) fun _ => none) s₁) :
    FrOk { sc := fd.scope.names, fns := fns } (callEnvC fd s.heap.objs.size fa) (fun a => s.heap.get? a = none ∧ ∃ o, s₁.heap.get? a = some o) (initF { sc := fd.scope.names, fns := fns } params args) h₀ σ s₁.heap := by
  have ko : ∀ b o, s.heap.get? b = some o → s₁.heap.get? b = some o := x.toInCall.keep
  have t : Tups s.heap s₁.heap := fun a o e _ => ko a o e
  have kindOf : ∀ y, (callEnvC fd s.heap.objs.size fa).kindOf y = fd.scope.names.lookup y := fun _ => rfl
  have hL : s.heap.get? s.heap.objs.size = none := get_push_none _
  have vark : ∀ (i : Nat) y, (Cfg.mk fd.scope.names fns).names[i]? = some y → ∃ kk, fd.scope.names.lookup y = some kk ∧ (kk = .local ∨ kk = .cell) := fun i y e => by
    obtain ⟨kk, e1, e2, e3⟩ := names_mem e
    refine ⟨kk, lookup_of_nodup D.nd e2, ?_⟩
    have := D.noFree _ e2
    cases kk <;> simp_all [isVar]
  have initAt : ∀ (i : Nat) y (v : V), (Cfg.mk fd.scope.names fns).names[i]? = some y → (initF { sc := fd.scope.names, fns := fns } params args)[i]? = some (some v) → ∃ w, (params.zip vargs).lookup y = some w ∧ Rep s₁.heap w v := fun i y v e1 e2 => by
    unfold initF at e2
    rw [List.getElem?_map, e1] at e2
    simp at e2
    obtain ⟨w, q1, q2⟩ := zip_rep ra e2
    exact ⟨w, q1, q2.tups t⟩
  refine ⟨D.kind, D.glob, D.bi, fun y e => e, fun i y e => ?_, ⟨_, x.toInCall.ns, fun i y v e1 e2 e3 => ?_⟩, fun i y e1 e2 => ?_, fun y z a e1 e2 => ?_, ⟨⟨hL, ?_⟩, hw.fresh hL, (beside_one hw hL).2.2⟩, fun i j y e1 e2 => getElem_inj (nodup_names D.nd) e1 e2, fun a e => e.2⟩
  · obtain ⟨kk, l, q⟩ := vark i y e
    rcases q with rfl | rfl
    · exact .inl ⟨l, l⟩
    · exact .inr (.inl ⟨l, l⟩)
  · obtain ⟨w, q1, q2⟩ := initAt i y v e1 e3
    refine ⟨w, ?_, q2⟩
    rw [bindL_eq e2 _ _ _ D.pnd, q1]; rfl
  · obtain ⟨kk, l, q⟩ := vark i y e1
    rcases q with rfl | rfl
    · exact absurd l e2
    · have hs := cellsFrom_look (x := y) fd.scope.names (s.heap.objs.size + 1) [] (.inl l)
      obtain ⟨a, ha⟩ := Option.isSome_iff_exists.mp hs
      have ic := x.cell y a ha
      have above := x.above y a (mem_of_lookup ha)
      have na : s.heap.get? a = none := by
        cases q : s.heap.get? a with
        | none => rfl
        | some o =>
          have h1 := Heap.lt_size q
          have h2 : s.heap.objs.size < a := above
          exact absurd (Nat.lt_trans h1 h2) (Nat.lt_irrefl _)
      refine ⟨a, _, ha, ic, hw.fresh na, fun e => absurd (e ▸ above) (Nat.lt_irrefl _), fun _ => ⟨⟨na, ?_⟩, (beside_one hw na).2.2⟩, fun v hv => ?_⟩
      · obtain ⟨o, ho, _⟩ := ic; exact ⟨o, ho⟩
      · obtain ⟨w, q1, q2⟩ := initAt i y v e1 hv
        refine ⟨w, ?_, q2⟩
        rw [bindC_eq e2 _ _ _ D.pnd, q1]; rfl
  · exact name_of_addr x.apart (mem_of_lookup e1) (mem_of_lookup e2)
  · obtain ⟨o, _, _, ho, _⟩ := x.toInCall.ns; exact ⟨o, ho⟩

theorem frs_call {fd : FuncData} {params : List Str} {body : List Stmt} {ps : List PS} (D : DefOk h₀ fd fns params body ps) {A : Around} {fa : Addr} {σ : Hp} {h h' : Heap} {L : Addr} {m : Str → Option Value} (fs : Frs A h₀ σ h) (st : Step h₀ σ h σ h') (hσ : σ L = none) (h0 : h₀.get? L = none) (hn : h'.Ns L m) :
    Frs (A.deeper (callEnvC fd L fa)) h₀ σ h' := by
  obtain ⟨l, e, q⟩ := (fs.step st).go
  refine ⟨⟨callEnvC fd L fa :: l, by show A.frames.map _ = _; rw [e]; rfl, fun env me => ?_⟩⟩
  rcases List.mem_cons.mp me with rfl | me
  · obtain ⟨o, es, ep, ho, hd, _⟩ := hn
    exact ⟨by rw [show (callEnvC fd L fa).scope.kind = .function from D.kind]; decide, L, rfl, h0, hσ, o, ho, _, _, hd⟩
  · exact q env me
theorem frs_top {A : Around} {σ : Hp} {h : Heap} {env : Env} (fs : Frs A h₀ σ h) : OnTop (A.deeper env) env := by
  obtain ⟨l, e, q⟩ := fs.go
  exact ⟨l, by show A.frames.map _ = _; rw [e]; rfl⟩
theorem call_cells {A : Around} {s : Shared} {R : Result → Shared → Prop} {a : Addr} {o : Obj} {fd : FuncData} {body : List Stmt} {ar : Args} {binds : List (Str × Value)}
    (hroom : A.depth < recursionLimit) (ho : s.heap.get? a = some o) (hdata : o.data = .func fd) (hlim : s.heap.NoLimit) (hcd : s.heap.CodeRec fd.code fd.qualname)
    (hbody : fd.body = .stmts body) (hbind : BindsTo s fd ar binds) (hclo : fd.closure = [])
    (hkind : ∀ x ∈ binds, fd.scope.names.lookup x.1 = some .local ∨ (fd.scope.names.lookup x.1 = some .cell ∧ ((cellsFrom (s.heap.objs.size + 1) fd.scope.names []).lookup x.1).isSome = true))
    (h : ∀ s₁, InCallC s (callEnvC fd s.heap.objs.size a).locals (bindL (callEnvC fd s.heap.objs.size a).kindOf binds fun _ => none) (callEnvC fd s.heap.objs.size a).cells
        (bindC (callEnvC fd s.heap.objs.size a).kindOf binds fun _ => none) s₁ →
      wpAny (model prog w) (A.deeper (callEnvC fd s.heap.objs.size a)) (execs body (callEnvC fd s.heap.objs.size a)) (fun f s' => R (.ok (.ret (match f with | .ret v => v | _ => .none))) s') E0 s₁)
    (hco : fd.scope.isCoroutine = false) (hgen : fd.scope.isGenerator = false) (hk : fd.scope.kind = .function) :
    codeAny (model prog w) A (.call (.ref a) ar) R s := by
  refine codeAny_call_function hroom ho hdata hco hgen hbody hcd ?_
  rw [hclo]
  refine hbind _ _ _ _ (wpAny_newFunctionEnv_cells hk hkind fun env he s' x => ?_)
  subst he
  exact ⟨hlim.keeps x.toInCall.keep, codeAny_func (wpAny_mono (h s' x) (fun _ _ q => q) fun _ _ f => f.elim)⟩
theorem fd_ok (G : Gnd prog h₀ mg mb) (NM : NamesOk prog w h₀ mg n fns Φ) {fd : FuncData} {params : List Str} {body : List Stmt} {ps : List PS} (D : DefOk h₀ fd fns params body ps)
    (hcd : h₀.CodeRec fd.code fd.qualname) : FdOk prog w h₀ (n + 1) fd (bodyV Φ { sc := fd.scope.names, fns := fns } params ps) := by
  intro A s σ fa o ar vargs args Q ho hd hbi R fs hw ra ⟨hl, v⟩
  have hlv : vargs.length = params.length := by rw [ra.length, hl]
  refine wpAny_call (call_cells (by have := R.depth; show A.depth < 1000; omega) ho hd (G.nolimit.keeps hw.stays) (hcd.keeps hw.stays) D.bdy (hbi _ (D.bind s hw.stays vargs hlv)) D.clo (fun x hx => ?_) (fun s₁ ic => ?_) D.co D.gen D.kind)
  · have hm := (List.of_mem_zip hx).1
    rcases D.pk _ hm with q | q
    · exact .inl q
    · exact .inr ⟨q, cellsFrom_look _ _ _ (.inl q)⟩
  · have ko : ∀ b o, s.heap.get? b = some o → s₁.heap.get? b = some o := ic.toInCall.keep
    have fr := call_frame D (fa := fa) hw ra hl ic
    have st0 := hw.extend ko
    have m₁ : Sm s s₁ := by obtain ⟨h1, tk, e⟩ := ic.toInCall.same; rw [e]; exact ⟨rfl, rfl⟩
    have R' : Room (A.deeper (callEnvC fd s.heap.objs.size fa)) n := by
      obtain ⟨env, l, e, _⟩ := R.env
      refine ⟨R.handled, by have := R.depth; show A.depth + 1 + n ≤ 800; omega, by have := R.units; show A.units + 3 + 8 * n + 5 ≤ 9000; omega, ⟨callEnvC fd s.heap.objs.size fa, env :: l, ?_, D.gen, D.co, D.bi, D.glob⟩⟩
      show A.frames.map _ = _
      rw [e]; rfl
    refine wpAny_mono (D.cs ⟨G, NM, R', st0.w, fr, frs_call D fs st0 (hw.fresh (get_push_none _)) (beside_one hw (get_push_none _)).2.2 ic.toInCall.ns⟩ (frs_top fs) v) (fun f s' ⟨fl, F', σ', rf, ⟨st, m₂⟩, fr', q⟩ => ?_) fun _ _ f => f
    have all : Step h₀ σ s.heap σ' s'.heap := StepX.drop ((Step.any st0).trans st) fun a q => q.1
    cases f with
    | next =>
      cases fl with
      | next => exact ⟨.none, σ', .none, ⟨all, m₁.trans m₂⟩, q⟩
      | _ => exact rf.elim
    | brk =>
      cases fl with
      | brk => exact q.elim
      | _ => exact rf.elim
    | cont =>
      cases fl with
      | cont => exact q.elim
      | _ => exact rf.elim
    | ret v =>
      cases fl with
      | ret x => exact ⟨x, σ', rf, ⟨all, m₁.trans m₂⟩, q⟩
      | _ => exact rf.elim

theorem fn_ok (G : Gnd prog h₀ mg mb) (NM : NamesOk prog w h₀ mg n fns Φ) {fd : FuncData} {params : List Str} {body : List Stmt} {ps : List PS} (D : DefOk h₀ fd fns params body ps) {fa : Addr} {o : Obj} (ho : h₀.get? fa = some o) (hd : o.data = .func fd)
    (hcd : h₀.CodeRec fd.code fd.qualname) : FnOk prog w h₀ (n + 1) (.ref fa) (bodyV Φ { sc := fd.scope.names, fns := fns } params ps) := ⟨fa, o, fd, rfl, ho, hd, fd_ok G NM D hcd⟩
theorem FdOk.mono {fd : FuncData} {Φ₁ Φ₂ : List V → (V → Hp → Prop) → Hp → Prop} {n m : Nat} (h : FdOk prog w h₀ n fd Φ₁) (hm : n ≤ m) (i : ∀ args Q σ, Φ₂ args Q σ → Φ₁ args Q σ) : FdOk prog w h₀ m fd Φ₂ :=
  fun A s σ fa o ar vals args Q ho hd hb R fs hw ra v => h A s σ fa o ar vals args Q ho hd hb (R.le hm) fs hw ra (i _ _ _ v)
/-- a contract that says enough -/
theorem FnOk.mono {fv : Value} {Φ₁ Φ₂ : List V → (V → Hp → Prop) → Hp → Prop} {n m : Nat} (h : FnOk prog w h₀ n fv Φ₁) (hm : n ≤ m) (i : ∀ args Q σ, Φ₂ args Q σ → Φ₁ args Q σ) : FnOk prog w h₀ m fv Φ₂ := by
  obtain ⟨fa, o, fd, e, a, b, call⟩ := h
  exact ⟨fa, o, fd, e, a, b, call.mono hm i⟩
end

/-! M17 -/
section
variable {prog : Program} {w : World} {h₀ : Heap} {mg mb : Str → Option Value} {Φ : Fns} {n : Nat} {fns : List Str}

/-- the law's own call -/
theorem law_code (G : Gnd prog h₀ mg mb) (NM : NamesOk prog w h₀ mg n fns Φ) (hn : n ≤ 400) {fd : FuncData} {params : List Str} {body : List Stmt} {ps : List PS} (D : DefOk h₀ fd fns params body ps) {fa : Addr} {o : Obj} (ho : h₀.get? fa = some o) (hd : o.data = .func fd)
    (hcd : h₀.CodeRec fd.code fd.qualname) {s : Shared} {σ : Hp} {vargs : List Value} {args : List V} {Q : V → Hp → Prop} (hw : W h₀ σ s.heap) (ra : Reps s.heap vargs args) (v : bodyV Φ { sc := fd.scope.names, fns := fns } params ps args Q σ)
    {R : Result → Shared → Prop} (hR : ∀ x s', PV h₀ σ s Q x s' → R (.ok (.ret x)) s') : codeAny (model prog w) callerA (.call (.ref fa) ⟨vargs, []⟩) R s := by
  obtain ⟨hl, v⟩ := v
  have hlv : vargs.length = params.length := by rw [ra.length, hl]
  refine call_cells (by decide) (hw.stays _ _ ho) hd (G.nolimit.keeps hw.stays) (hcd.keeps hw.stays) D.bdy (D.bind s hw.stays vargs hlv) D.clo (fun x hx => ?_) (fun s₁ ic => ?_) D.co D.gen D.kind
  · have hm := (List.of_mem_zip hx).1
    rcases D.pk _ hm with q | q
    · exact .inl q
    · exact .inr ⟨q, cellsFrom_look _ _ _ (.inl q)⟩
  · have ko : ∀ b o, s.heap.get? b = some o → s₁.heap.get? b = some o := ic.toInCall.keep
    have fr := call_frame D (fa := fa) hw ra hl ic
    have st0 := hw.extend ko
    have m₁ : Sm s s₁ := by obtain ⟨h1, tk, e⟩ := ic.toInCall.same; rw [e]; exact ⟨rfl, rfl⟩
    have R' : Room (callerA.deeper (callEnvC fd s.heap.objs.size fa)) n := by
      refine ⟨rfl, ?_, ?_, ⟨callEnvC fd s.heap.objs.size fa, [], rfl, D.gen, D.co, D.bi, D.glob⟩⟩
      · show 1 + 300 + 1 + n ≤ 800; omega
      · show 4 + 3 + 8 * n + 5 ≤ 9000; omega
    refine wpAny_mono (D.cs ⟨G, NM, R', st0.w, fr, ⟨[callEnvC fd s.heap.objs.size fa], rfl, fun env me => by
      obtain rfl := List.mem_singleton.mp me
      obtain ⟨o, es, ep, ho, hd, _⟩ := ic.toInCall.ns
      exact ⟨by rw [show (callEnvC fd s.heap.objs.size fa).scope.kind = .function from D.kind]; decide, _, rfl, (beside_one hw (get_push_none _)).2.2, hw.fresh (get_push_none _), o, ho, _, _, hd⟩⟩⟩ ⟨[], rfl⟩ v) (fun f s' ⟨fl, F', σ', rf, ⟨st, m₂⟩, fr', q⟩ => ?_) fun _ _ f => f
    have all : Step h₀ σ s.heap σ' s'.heap := StepX.drop ((Step.any st0).trans st) fun a q => q.1
    cases f with
    | next =>
      cases fl with
      | next => exact hR _ _ ⟨.none, σ', .none, ⟨all, m₁.trans m₂⟩, q⟩
      | _ => exact rf.elim
    | brk =>
      cases fl with
      | brk => exact q.elim
      | _ => exact rf.elim
    | cont =>
      cases fl with
      | cont => exact q.elim
      | _ => exact rf.elim
    | ret v =>
      cases fl with
      | ret x => exact hR _ _ ⟨x, σ', rf, ⟨all, m₁.trans m₂⟩, q⟩
      | _ => exact rf.elim

/-- the script lies in the ground -/
noncomputable def scriptHp (l : Addr) (ns : List Int) : Hp := fun a => if a = l then some (.flist (ns.map .int)) else none
theorem script_w {l : Addr} {vs : List Value} {ns : List Int} (hl : h₀.IsList l vs.toArray) (hi : IntsAre vs ns) (hb : ns.length ≤ 63) : W h₀ (scriptHp l ns) h₀ := by
  refine ⟨fun _ _ e => e, fun a o e => ?_, fun a ⟨o, e, m⟩ => ?_, fun a o e => ?_⟩
  · unfold scriptHp at e; split at e
    · rename_i q; subst q; cases e
      refine ⟨vs, hl, ?_⟩
      clear hl hb
      induction hi with
      | nil => exact .nil
      | cons n t _ ih => exact .cons (.int _ _) ih
    · cases e
  · unfold scriptHp at e; split at e
    · cases e; cases m
    · cases e
  · unfold scriptHp at e; split at e
    · cases e; show (ns.map V.int).length ≤ BIG; simp; unfold BIG; omega
    · cases e

theorem ground_of {p : Program} {loose : List Str} {mean : ExcName → Option Value} {h : Heap} (T : Top p loose mean mg mb h) (hi : importsNone p = true) (ht : prog.given.tree = none) : Gnd prog h mg mb :=
  ⟨T.g, T.b, T.nolimit, T.seer hi, ht, T.builtins⟩
end

/-! Lt1 -/
section
open PySem PySem.W PyProof.Rows PySem.SeqAt PySem.MeetsSeq PySem.MeetsSeq2 PySem.MeetsSeq3 PySem.SeqRoads2
open PySem.AutoSeq1 (wpAny_loadPart')
noncomputable def LtAt (A : Around) (s : Shared) (y x : Value) (b : Bool) : Prop :=
  ∀ (prog : Program) (w : World) (E : Value → Shared → Prop) (Q : Value → Shared → Prop), Q (.bool b) s → wpAny (model prog w) A (richCompare .Lt y x) Q E s
inductive LexAt (A : Around) (s : Shared) : List Value → List Value → Bool → Prop
  | nil (ys : List Value) : LexAt A s [] ys (decide (0 < ys.length))
  | short (x : Value) (xs : List Value) : LexAt A s (x :: xs) [] false
  | eq {x y : Value} {xs ys : List Value} {r : Bool} : EqAt A s x y true → LexAt A s xs ys r → LexAt A s (x :: xs) (y :: ys) r
  | lt {x y : Value} {xs ys : List Value} {r : Bool} : EqAt A s x y false → LtAt A s x y r → LexAt A s (x :: xs) (y :: ys) r
theorem tuple_ltAt (l b : Addr) (items items2 : Array Value) (n n2 : Nat) (dd dd2 : Option Addr) (sl sl2 : Array (Option Value)) (r : Bool) :
    Meets (Builtin.«tuple.__lt__» ⟨[.ref l, .ref b], []⟩)
      (fun A R s => s.heap.get? l = some { cls := .type "tuple", dict := dd, data := .seq items n, slots := sl } ∧ s.heap.get? b = some { cls := .type "tuple", dict := dd2, data := .seq items2 n2, slots := sl2 } ∧
        LexAt A.in1 s items.toList items2.toList r ∧ R (.ok (.ret (.bool r))) s) :=
  .of_wp fun prog w A R s h => by
    obtain ⟨hp, g, d, tk, os⟩ := s; obtain ⟨hl, hb, hx, h⟩ := h
    have f2 := AutoSeq1.sub_tuple_tuple
    wp_walk using wpAny_loadPart' hl, wpAny_loadPart' hb, wpAny_forIn_list _ (fun rest b s' => b.1 = none ∧ s' = ⟨hp, g, d, tk, os⟩ ∧ ∃ xs ys, rest = xs.zip ys ∧ items.size + ys.length = items2.size + xs.length ∧ LexAt A.in1 ⟨hp, g, d, tk, os⟩ xs ys r) _
    case turn =>
      rintro ⟨y, x⟩ rest b s' ⟨hb', rfl, xs, ys, hz, hsz, lx⟩
      cases lx with
      | nil => simp at hz
      | short => simp at hz
      | eq he lx =>
        simp only [List.zip_cons_cons, List.cons.injEq, Prod.mk.injEq] at hz
        obtain ⟨⟨rfl, rfl⟩, rfl⟩ := hz
        refine wpAny_bind (he prog w _ _ ?_)
        wp_walk
        exact ⟨rfl, rfl, _, _, rfl, by simp at hsz; omega, lx⟩
      | lt he lt =>
        simp only [List.zip_cons_cons, List.cons.injEq, Prod.mk.injEq] at hz
        obtain ⟨⟨rfl, rfl⟩, rfl⟩ := hz
        refine wpAny_bind (he prog w _ _ ?_)
        have lt' : ∀ {E : Value → Shared → Prop} {Q : Value → Shared → Prop}, Q (.bool r) ⟨hp, g, d, tk, os⟩ → wpAny (model prog w) A.in1 (richCompare .Lt y x) Q E ⟨hp, g, d, tk, os⟩ := fun h => lt prog w _ _ h
        wp_walk using lt'
        exact ⟨_, rfl, h⟩
    case fin =>
      rintro ⟨b1, b2⟩ s' ⟨hb', rfl, xs, ys, hz, hsz, lx⟩
      simp only at hb'
      subst hb'
      have e : decide (items.size < items2.size) = r := by
        cases lx with
        | nil => simp at hsz ⊢; omega
        | short => simp at hsz ⊢; omega
        | eq => simp at hz
        | lt => simp at hz
      wp_walk
      refine ⟨_, rfl, ?_⟩
      show R (.ok (.ret (.bool (decide (items.size < items2.size))))) _
      rw [e]; exact h
    case h =>
      exact ⟨rfl, rfl, items.toList, items2.toList, rfl, by simp; omega, hx⟩
theorem LtAt.tuples {A : Around} {s : Shared} {l b : Addr} {items items2 : Array Value} {r : Bool} (hl : s.heap.IsTuple l items) (hb : s.heap.IsTuple b items2) (hu : A.units < cLine)
    (he : LexAt A.in1 s items.toList items2.toList r) : LtAt A s (.ref l) (.ref b) r := fun prog w E Q h => by
  obtain ⟨⟨cls, dd, data, sl⟩, ho, hc, n, hd⟩ := id hl
  obtain ⟨⟨cls2, dd2, data2, sl2⟩, ho2, hc2, n2, hd2⟩ := id hb
  simp only at hc hd hc2 hd2
  subst hc hd hc2 hd2
  exact richCompare_meets_room (op := .Lt) ⟨_, ho, rfl⟩ ⟨_, ho2, rfl⟩ F.slot_tuple_lt F.entry_tuple_lt (F.args_tuple_lt_2 _ _) (tuple_ltAt l b items items2 n n2 dd dd2 sl sl2 r)
    ⟨ho, ho2, he, show Value.bool r ≠ Value.notImplemented ∧ Q (.bool r) s from ⟨(fun x => nomatch x), h⟩⟩ hu
end

/-! Lt2 -/
section
open PySem PySem.W PyProof.Rows PySem.SeqAt
theorem LtAt.int {A : Around} {s : Shared} (i j : Int) (t u : Tok) : LtAt A s (.int i t) (.int j u) (decide (i < j)) := fun prog w E Q h => lt_int h
end

/-! X1 -/
section
variable {σ : Hp} {Q : V → Hp → Prop}
/-- tuples of ints -/
noncomputable def ltI : List Int → List Int → Bool
  | [], ys => decide (0 < ys.length)
  | _ :: _, [] => false
  | x :: xs, y :: ys => if x = y then ltI xs ys else decide (x < y)
theorem dats_intsV (σ : Hp) : ∀ xs : List Int, Dats σ (xs.map .int) (xs.map PyData.int)
  | [] => .nil
  | x :: xs => .cons (.int x) (dats_intsV σ xs)
theorem lexAt_ints {A : Around} {s : Shared} : ∀ (xs ys : List Int) {vs ws : List Value}, Reps s.heap vs (xs.map .int) → Reps s.heap ws (ys.map .int) → LexAt A s vs ws (ltI xs ys)
  | [], ys, vs, ws, h1, h2 => by
    have hl := h2.length
    rw [List.length_map] at hl
    rw [h1.inil]
    show LexAt A s [] ws (decide (0 < ys.length))
    rw [← hl]; exact .nil _
  | x :: xs, [], vs, ws, h1, h2 => by
    obtain ⟨v, us, rfl, _⟩ := Reps.icons h1
    rw [h2.inil]; exact .short _ _
  | x :: xs, y :: ys, vs, ws, h1, h2 => by
    obtain ⟨v, us, rfl, r1, h1'⟩ := Reps.icons h1
    obtain ⟨w, us', rfl, r2, h2'⟩ := Reps.icons h2
    obtain ⟨t, rfl⟩ := r1.iint
    obtain ⟨u, rfl⟩ := r2.iint
    simp only [ltI]
    by_cases e : x = y
    · rw [if_pos e]
      exact .eq (fun prog w E Q h => wpAny_eqBool_int (by rw [show (x == y) = true by simp [e]]; exact h)) (lexAt_ints xs ys h1' h2')
    · rw [if_neg e]
      exact .lt (fun prog w E Q h => wpAny_eqBool_int (by rw [show (x == y) = false by simp [e]]; exact h)) (.int _ _ _ _)
theorem lt_tups {xs ys : List Int} (q : Q (.bool (ltI xs ys)) σ) : opCmp .Lt (.tup (xs.map .int)) (.tup (ys.map .int)) Q σ := by
  refine CmpS.mk ?_
  intro prog w A s h₀ n va vb R ra rb hw
  obtain ⟨a, vs, rfl, ta, r1⟩ := ra.itup
  obtain ⟨b, ws, rfl, tb, r2⟩ := rb.itup
  have hu : A.units ≤ 9000 := by have := R.units; omega
  exact LtAt.tuples ta tb (by show A.units < 9900; omega) (lexAt_ints xs ys r1 r2) prog w _ _ (PV.same' hw (.bool _) q)
end

/-! X2 -/
theorem sub_ri_reversed : isSubtype (.type "range_iterator") (.type "reversed") = pure false := by rw [isSubtype_type]; kernel_rfl
section
variable {prog : Program} {w : World} {A : Around} {E : Value → Shared → Prop} {s : Shared}
noncomputable def rriObj (n : Int) : Obj := { cls := .type "range_iterator", data := .fields #[rawInt (0 + (n - 1) * 1), rawInt n, rawInt (-1)] }
theorem call_range_reversed {r : Addr} {b : Int} {t u v : Tok} {Q : Value → Shared → Prop} (hr : IsRange s.heap r 0 b 1 t u v) (h0 : 0 ≤ b) (h1 : b ≤ 1000000)
    (h : Q (.ref s.heap.objs.size) { s with heap := s.heap.push (rriObj b) }) : wpAny (model prog w) A (call (.builtin "range.__reversed__") [.ref r]) Q E s := by
  have hT : s.TypeIs (.ref r) "range" := ⟨_, hr, rfl⟩
  refine wpAny_call_entry F.slot_range_reversed hT F.entry_range_reversed ?_ (F.args_range_reversed_1 _)
  have hn : Builtin.Range.rangeSize 0 b 1 = b := by
    unfold Builtin.Range.rangeSize; simp; omega
  have hsm : (Builtin.Range.rangeFitsLong 0 && Builtin.Range.rangeFitsLong b && Builtin.Range.rangeFitsLong 1 && Builtin.Range.rangeFitsLong (-1) && Builtin.Range.rangeFitsLong (0 - 1) && Builtin.Range.rangeFitsLong b) = true := by
    unfold Builtin.Range.rangeFitsLong; simp; omega
  unfold Builtin.«range.__reversed__»
  refine wpAny_bind (wpAny_of_eq (a := Value.ref r) rfl ?_)
  unfold Builtin.Range.rangeFields
  wp_walk
  rw [hn, hsm]
  exact wpAny_bind (wpAny_newObj_type (wpAny_pure ⟨_, rfl, h⟩))
theorem code_reversed_range {r : Addr} {b : Int} {t u v : Tok} {Q₁ : Value → Shared → Prop} (hr : IsRange s.heap r 0 b 1 t u v) (h0 : 0 ≤ b) (h1 : b ≤ 1000000)
    (h : Q₁ (.ref s.heap.objs.size) { s with heap := s.heap.push (rriObj b) }) :
    codeAny (model prog w) A (.call (.builtin "reversed.__new__") ⟨[.type "reversed", .ref r], []⟩) (wants Q₁ E) s := by
  have hT : s.TypeIs (.ref r) "range" := ⟨_, hr, rfl⟩
  refine codeAny_of_tree ?_
  show wpAny _ A.in1 (do checkBuiltinCall "reversed.__new__" ⟨[.type "reversed", .ref r], []⟩; again (.builtin "reversed.__new__" ⟨[.type "reversed", .ref r], []⟩)) _ _ s
  refine wpAny_bind (wpAny_of_eq (F.newCall_reversed_1 _) (wpAny_pure ⟨plainId_quiet F.plain_reversed_new _, codeAny_builtin F.entry_reversed_new ?_⟩))
  rw [Around.under_plainId F.plain_reversed_new _]
  unfold Builtin.«reversed.__new__»
  refine wpAny_bind (wpAny_of_eq (newClass_reversed _) ?_)
  refine wpAny_bind (wpAny_of_eq (a := ()) (by first | rfl | kernel_rfl) ?_)
  refine wpAny_bind (wpAny_of_eq (a := ()) (by first | rfl | kernel_rfl) ?_)
  refine wpAny_bind (wpAny_specialOf hT F.slot_range_reversed.lookup ?_)
  refine wpAny_bind (wpAny_of_eq (F.slot_range_reversed.bind _) ?_)
  show wpAny _ _ (if (Value.builtin "range.__reversed__" == Value.none) = true then _ else _) _ _ _
  rw [if_neg (show ¬ ((Value.builtin "range.__reversed__" == Value.none) = true) from Bool.false_ne_true)]
  refine wpAny_bind (wpAny_rule ?_)
  refine wpAny_bind (m := runValue (.call (.builtin "range.__reversed__") ⟨[.ref r], []⟩)) (show wpAny _ _ (call (.builtin "range.__reversed__") [.ref r]) _ _ _ from call_range_reversed hr h0 h1 ?_)
  first
  | exact wpAny_pure h
  | exact wpAny_bind (wpAny_pure (wpAny_pure h))
theorem call_reversed_range {r : Addr} {b : Int} {t u v : Tok} {Q : Value → Shared → Prop} (hr : IsRange s.heap r 0 b 1 t u v) (h0 : 0 ≤ b) (h1 : b ≤ 1000000)
    (h : Q (.ref s.heap.objs.size) { s with heap := s.heap.push (rriObj b) }) : wpAny (model prog w) A (call (.type "reversed") [.ref r]) Q E s := by
  refine callType_other (U := "range_iterator") (Q₁ := fun obj s₁ => obj = .ref s.heap.objs.size ∧ s₁ = { s with heap := s.heap.push (rriObj b) }) (by decide +kernel) F.create_reversed ⟨_, _, F.mro_reversed⟩ F.made_reversed sub_ri_reversed (F.typeCall_reversed_1 _) (code_reversed_range hr h0 h1 ⟨rfl, rfl⟩) ?_
  rintro obj s₁ ⟨rfl, rfl⟩
  exact ⟨⟨_, Heap.get?_push_size _ rfl, rfl⟩, h⟩
end
theorem CI.rev {c : Cfg} {p q : Pos} {x : Str} {e : Expr} {a : PE} (hn : x = "reversed") (hk : c.sc.lookup x = some .globalImplicit) (h : CE c e a) (hst : ∀ env, starEach [e] env = [(false, eval e env)]) : CI c (.Call (.Name x p) [e] [] q) .rev a := by
  subst hn
  refine ⟨fun _ _ => rfl, fun {prog w h₀ mg mb Φ n A s σ env own F P} X v => ?_⟩
  have hces : CEs c [e] [a] := .cons h .nil hst
  refine Call_Name rfl (load_glob X.G X.w X.f hk (by decide) (.inr ⟨X.NM.fr _ (by decide +kernel), (X.G.boot _ (by decide)).trans (BI.boot .reversed)⟩) ?_)
  refine PyProof.Rows.callWith_type (star_plain hces) (evalArgs_ces hces ?_)
  rw [hst env]
  refine Calls.spliced_cons (wpAny_mono (h X v) (fun v s₁ => PV.on fun x σ₁ rx st m₁ q => Calls.spliced_nil ?_) fun _ _ f => f)
  cases x with
  | rng r0 b0 c0 =>
    obtain ⟨rfl, rfl, h0, h1, q⟩ := q
    obtain ⟨lr, t1, t2, t3, rfl, hr⟩ := rx.irng
    refine call_reversed_range hr h0 h1 ?_
    have it : ItRep (s₁.heap.push (rriObj b0)) (.ref s₁.heap.objs.size) [s₁.heap.objs.size] (.rng (b0 - 1) b0.toNat (-1)) := by
      refine ⟨_, rfl, rfl, ?_⟩
      have e : (rriObj b0) = { cls := .type "range_iterator", data := .fields #[rawInt (b0 - 1), rawInt (b0.toNat : Nat), rawInt (-1)] } := by
        unfold rriObj
        have e1 : 0 + (b0 - 1) * 1 = b0 - 1 := by omega
        have e2 : ((b0.toNat : Nat) : Int) = b0 := by omega
        rw [e1, e2]
      rw [e]; exact Heap.get?_push_size _ rfl
    refine pyIter_self X.R.handled it ⟨σ₁, s₁, st, m₁, ⟨Eq.refl _, Eq.refl _⟩, _, _, (by intro k a e; cases e), it, ?_, fun b o e => Heap.get?_push_of_some _ e, q⟩
    intro a m; simp at m; subst m; exact beside_one st.w (get_push_none _)
  | _ => exact q.elim

/-! X6 -/
section
variable {σ : Hp} {Q : V → Hp → Prop}
theorem is_none' (q : Q (.bool true) σ) : opCmp .Is .none .none Q σ := by
  refine CmpS.mk ?_
  intro prog w A s h₀ n va vb R ra rb hw
  obtain rfl := ra.inone; obtain rfl := rb.inone
  exact is_none_none (PV.same' hw (.bool _) q)
end
/-- an item to be changed -/
structure opGet (o i : V) (Q : V → Hp → Prop) (σ : Hp) : Prop where
  go : ∀ ⦃prog : Program⦄ ⦃w : World⦄ ⦃A : Around⦄ ⦃s : Shared⦄ ⦃h₀ : Heap⦄ ⦃vo vi : Value⦄, Rep s.heap vo o → Rep s.heap vi i → W h₀ σ s.heap → wpAny (model prog w) A (getItem vo vi) (PV h₀ σ s Q) E0 s
noncomputable def PS.augi (o i : PE) (op : Operator) (e : PE) : PS := fun Φ R F σ => vE Φ o (fun a σ => vE Φ i (fun b σ => opGet a b (fun x σ => vE Φ e (fun y σ => opAug op x y (fun z σ => opSet a b z (fun σ => R .next F σ) σ) σ) F σ) σ) F σ) F σ
theorem s_augi (Φ : Fns) (R : Fl → Frm → Hp → Prop) (F : Frm) (σ : Hp) (o i : PE) (op : Operator) (e : PE) : vS Φ (.augi o i op e) R F σ = vE Φ o (fun a σ => vE Φ i (fun b σ => opGet a b (fun x σ => vE Φ e (fun y σ => opAug op x y (fun z σ => opSet a b z (fun σ => R .next F σ) σ) σ) F σ) σ) F σ) F σ := rfl
section
variable {c : Cfg} {p q : Pos}
end

/-! X7 -/
section
open PySem PySem.W PyProof.Rows PySem.SeqAt PySem.MeetsSeq PySem.MeetsSeq2 PySem.MeetsSeq3 PySem.SeqRoads2
open PySem.AutoSeq1 (wpAny_loadPart')
/-! the greatest of a list -/
noncomputable def GtAt (A : Around) (s : Shared) (y x : Value) (b : Bool) : Prop :=
  ∀ (prog : Program) (w : World) (E : Value → Shared → Prop) (Q : Value → Shared → Prop), Q (.bool b) s → wpAny (model prog w) A (richCompare .Gt y x) Q E s
theorem GtAt.int {A : Around} {s : Shared} (i j : Int) (t u : Tok) : GtAt A s (.int i t) (.int j u) (decide (j < i)) := fun prog w E Q h => gt_int h
section
variable {prog : Program} {w : World} {A : Around} {R : Result → Shared → Prop}
noncomputable def bestObj (vs : List Value) (c : Nat) : Obj := { cls := .type "list", dict := none, data := .seq vs.toArray c, slots := #[] }
theorem max_loop (hh : A.in1.handled = none) {l I S : Addr} {vs : List Value} {base : Heap} (hIS : I ≠ S) (bI : base.get? I = none) (bS : base.get? S = none) (gt : Nat → Nat → Bool)
    (hl0 : base.IsList l vs.toArray)
    (cmp : ∀ (s' : Shared) (i j : Nat) (vi vj : Value), (∀ b o, base.get? b = some o → s'.heap.get? b = some o) → vs[i]? = some vi → vs[j]? = some vj → GtAt A.in1 s' vi vj (gt i j)) :
    ∀ (k j : Nat) (s : Shared) (vb : Value) (c : Nat), vs.length - (j + 1) = k → j + 1 ≤ vs.length → s.heap.IsListIter I l (j + 1) → (∀ b o, base.get? b = some o → s.heap.get? b = some o) → vs[argBest gt j]? = some vb →
    s.heap.get? S = some (bestObj [vb, vb] c) →
    (∀ v s', vs[argBest gt (vs.length - 1)]? = some v → Sm s s' → (∀ b o, base.get? b = some o → s'.heap.get? b = some o) → R (.ok (.ret v)) s') →
    codeAny (model prog w) A (.builtin "max.loop" ⟨[.ref I, .none, .ref S], []⟩) R s := by
  have hname : (toString "max" ++ toString ".loop" : String) = "max.loop" := by decide
  have keep : ∀ {h h' : Heap}, Heap.SameBut I h h' → (∀ b o, base.get? b = some o → h.get? b = some o) → ∀ b o, base.get? b = some o → h'.get? b = some o := fun sb k b o e =>
    sb.extBut b o (by rintro rfl; rw [bI] at e; cases e) (k b o e)
  intro k
  induction k with
  | zero =>
    intro j s vb c hk hj hst hb hPb hS hR
    have hin : j + 1 = vs.length := by omega
    refine codeAny_builtin F.entry_max_loop ?_
    rw [Around.under_plainId F.plain_max_loop _]
    show wpAny _ A.in1 (seqItems? (.ref S) >>= _) _ _ s
    refine wpAny_bind (wpAny_seqItems hS rfl ?_)
    show wpAny _ A.in1 (tryCatch (pyNext (.ref I)) _ >>= _) _ _ s
    have hl : s.heap.IsList l vs.toArray := by obtain ⟨o, e, r⟩ := hl0; exact ⟨o, hb _ _ e, r⟩
    refine wpAny_bind (wpAny_tryCatch (wpAny_pyNext_list_end hh hst hl (by simp; omega) fun h' sb => ?_))
    have hS' : h'.get? S = some (bestObj [vb, vb] c) := sb S _ hIS.symm hS
    show wpAny _ A.in1 (updateSeq S (fun _ => #[]) >>= _) _ _ _
    refine wpAny_bind ?_
    refine wpAny_updateSeq hS' rfl (wpAny_bind (wpAny_letGo (wpAny_pure ?_)))
    refine hR vb _ (by rw [← hin]; exact hPb) ⟨rfl, rfl⟩ fun b o e => ?_
    have n1 : b ≠ I := by rintro rfl; rw [bI] at e; cases e
    have n2 : b ≠ S := by rintro rfl; rw [bS] at e; cases e
    exact (Heap.get?_update_other _ _ (Ne.symm n2)).trans (sb b o n1 (hb b o e))
  | succ k ih =>
    intro j s vb c hk hj hst hb hPb hS hR
    have hlt : j + 1 < vs.length := by omega
    refine codeAny_builtin F.entry_max_loop ?_
    rw [Around.under_plainId F.plain_max_loop _]
    show wpAny _ A.in1 (seqItems? (.ref S) >>= _) _ _ s
    refine wpAny_bind (wpAny_seqItems hS rfl ?_)
    show wpAny _ A.in1 (tryCatch (pyNext (.ref I)) _ >>= _) _ _ s
    have hl : s.heap.IsList l vs.toArray := by obtain ⟨o, e, r⟩ := hl0; exact ⟨o, hb _ _ e, r⟩
    have hv : vs[j + 1]? = some vs[j + 1] := List.getElem?_eq_getElem hlt
    refine wpAny_bind (wpAny_tryCatch (wpAny_pyNext_list_item hst hl (show vs.toArray[j + 1]? = some vs[j + 1] by simp [hlt]) fun h' hst' sb => ?_))
    have hS' : h'.get? S = some (bestObj [vb, vb] c) := sb.extBut S _ hIS.symm hS
    have hb' : ∀ b o, base.get? b = some o → h'.get? b = some o := keep sb hb
    show wpAny _ A.in1 (tryCatch (holding [vs[j + 1], vs[j + 1]] (richCompare .Gt vs[j + 1] vb >>= _)) _ >>= _) _ _ _
    refine wpAny_bind (wpAny_tryCatch (wpAny_holding (wpAny_bind (cmp _ (j + 1) (argBest gt j) _ _ hb' hv hPb prog w _ _ ?_))))
    refine wpAny_bind (wpAny_holding (wpAny_truthy_bool ?_))
    refine wpAny_bind (wpAny_letGo (wpAny_pure ?_))
    cases hg : gt (j + 1) (argBest gt j) with
    | true =>
      simp only [if_true]
      refine wpAny_bind ?_
      refine wpAny_updateSeq hS' rfl (wpAny_bind (wpAny_letGo ?_))
      rw [hname]
      refine wpAny_pure ⟨plainId_quiet F.plain_max_loop _, ih (j + 1) _ vs[j + 1] _ (by omega) hlt ?_ ?_ (by simp only [argBest, hg, if_true]; exact hv) (Heap.get?_update_self _ hS' rfl) fun v' s'' hP' hm hk'' => hR v' s'' hP' hm hk''⟩
      · obtain ⟨o, e, r⟩ := hst'
        exact ⟨o, (Heap.get?_update_other _ _ hIS.symm).trans e, r⟩
      · intro b o e
        have n2 : b ≠ S := by rintro rfl; rw [bS] at e; cases e
        exact (Heap.get?_update_other _ _ (Ne.symm n2)).trans (hb' b o e)
    | false =>
      simp only [Bool.false_eq_true, if_false]
      refine wpAny_bind (wpAny_letGo ?_)
      rw [hname]
      exact wpAny_pure ⟨plainId_quiet F.plain_max_loop _, ih (j + 1) _ vb c (by omega) hlt hst' hb' (by simp only [argBest, hg, Bool.false_eq_true, if_false]; exact hPb) hS' fun v' s'' hP' hm hk'' => hR v' s'' hP' hm hk''⟩
theorem max_first (hh : A.in1.handled = none) {l I S : Addr} {vs : List Value} {base : Heap} (hIS : I ≠ S) (bI : base.get? I = none) (bS : base.get? S = none) (gt : Nat → Nat → Bool) (h0 : 0 < vs.length)
    (hl0 : base.IsList l vs.toArray)
    (cmp : ∀ (s' : Shared) (i j : Nat) (vi vj : Value), (∀ b o, base.get? b = some o → s'.heap.get? b = some o) → vs[i]? = some vi → vs[j]? = some vj → GtAt A.in1 s' vi vj (gt i j))
    {s : Shared} {c : Nat} (hst : s.heap.IsListIter I l 0) (hb : ∀ b o, base.get? b = some o → s.heap.get? b = some o) (hS : s.heap.get? S = some (bestObj [] c))
    (hR : ∀ v s', vs[argBest gt (vs.length - 1)]? = some v → Sm s s' → (∀ b o, base.get? b = some o → s'.heap.get? b = some o) → R (.ok (.ret v)) s') :
    codeAny (model prog w) A (.builtin "max.loop" ⟨[.ref I, .none, .ref S], []⟩) R s := by
  have hname : (toString "max" ++ toString ".loop" : String) = "max.loop" := by decide
  refine codeAny_builtin F.entry_max_loop ?_
  rw [Around.under_plainId F.plain_max_loop _]
  show wpAny _ A.in1 (seqItems? (.ref S) >>= _) _ _ s
  refine wpAny_bind (wpAny_seqItems hS rfl ?_)
  show wpAny _ A.in1 (tryCatch (pyNext (.ref I)) _ >>= _) _ _ s
  have hl : s.heap.IsList l vs.toArray := by obtain ⟨o, e, r⟩ := hl0; exact ⟨o, hb _ _ e, r⟩
  have hv : vs[0]? = some vs[0] := List.getElem?_eq_getElem h0
  refine wpAny_bind (wpAny_tryCatch (wpAny_pyNext_list_item hst hl (show vs.toArray[0]? = some vs[0] by simp [h0]) fun h' hst' sb => ?_))
  have hS' : h'.get? S = some (bestObj [] c) := sb.extBut S _ hIS.symm hS
  have hb' : ∀ b o, base.get? b = some o → h'.get? b = some o := fun b o e => sb.extBut b o (by rintro rfl; rw [bI] at e; cases e) (hb b o e)
  show wpAny _ A.in1 (updateSeq S (fun _ => #[vs[0], vs[0]]) >>= _) _ _ _
  refine wpAny_bind ?_
  refine wpAny_updateSeq hS' rfl ?_
  rw [hname]
  refine wpAny_pure ⟨plainId_quiet F.plain_max_loop _, max_loop hh hIS bI bS gt hl0 cmp _ 0 _ vs[0] _ rfl (by omega) ?_ ?_ hv (Heap.get?_update_self _ hS' rfl) fun v' s'' hP' hm hk'' => hR v' s'' hP' hm hk''⟩
  · obtain ⟨o, e, r⟩ := hst'
    exact ⟨o, (Heap.get?_update_other _ _ hIS.symm).trans e, r⟩
  · intro b o e
    have n2 : b ≠ S := by rintro rfl; rw [bS] at e; cases e
    exact (Heap.get?_update_other _ _ (Ne.symm n2)).trans (hb' b o e)
end
theorem call_max {σ : Hp} {Q : V → Hp → Prop} {a : Addr} {xs : List V} (gt : Nat → Nat → Bool) (e : listAt σ a = some xs) (h0 : 0 < xs.length) {x : V} (hx : xs[argBest gt (xs.length - 1)]? = some x)
    (cmp : ∀ (h₀ h : Heap) (vs : List Value), W h₀ σ h → Reps h vs xs → ∀ (A : Around) (s' : Shared) (i j : Nat) (vi vj : Value), A.units ≤ 9100 → (∀ b o, h.get? b = some o → s'.heap.get? b = some o) → vs[i]? = some vi → vs[j]? = some vj → GtAt A s' vi vj (gt i j))
    (q : Q x σ) : opCall .max [.ref a] Q σ := by
  refine CallS.mk ?_
  intro prog w A s h₀ mg mb n vargs G R ra hw
  obtain ⟨v, rfl, r⟩ := one_rep ra; obtain rfl := r.iref
  obtain ⟨vs, hl, r⟩ := hw.list e
  have hlen := r.length
  have hname : (toString "max" ++ toString ".loop" : String) = "max.loop" := by decide
  refine call_function_tree F.kind_max F.plain_max F.entry_max (F.args_max1 _) ?_
  show wpAny _ A.in1 (Builtin.Builtins.bindParams "max" ["key", "default"] 0 ⟨[], []⟩ >>= _) _ _ s
  refine wpAny_bind (wpAny_of_eq (show Builtin.Builtins.bindParams "max" ["key", "default"] 0 ⟨[], []⟩ = pure [none, none] from rfl) ?_)
  refine wpAny_bind (wpAny_pure ?_)
  refine wpAny_bind (wpAny_pyIter_list hl ?_)
  refine wpAny_bind (wpAny_newObj_type ?_)
  rw [hname]
  have hu : A.units ≤ 9000 := by have := R.units; omega
  refine wpAny_pure ⟨plainId_quiet F.plain_max_loop _, ?_⟩
  have bI : s.heap.get? s.heap.objs.size = none := get_push_none _
  generalize hH1 : s.heap.push { cls := .type "list_iterator", data := .fields #[.ref a, .int 0 0] } = H1
  have sz1 : H1.objs.size = s.heap.objs.size + 1 := by rw [← hH1]; exact size_push' _ _
  have bS : s.heap.get? H1.objs.size = none := by
    rw [sz1]
    cases q : s.heap.get? (s.heap.objs.size + 1) with
    | none => rfl
    | some o => exact absurd (Heap.lt_size q) (Nat.not_lt_of_le (Nat.le_succ _))
  have k1 : ∀ b o, s.heap.get? b = some o → H1.get? b = some o := fun b o e => by rw [← hH1]; exact Heap.get?_push_of_some _ e
  have g1 : H1.get? s.heap.objs.size = some { cls := .type "list_iterator", data := .fields #[.ref a, .int 0 0] } := by rw [← hH1]; exact Heap.get?_push_size _ rfl
  refine max_first (base := s.heap) (l := a) (vs := vs) (A := A) (c := 0) R.handled (by rw [sz1]; exact Nat.ne_of_lt (Nat.lt_succ_self _)) bI bS gt (by omega) hl (fun s' i j vi vj k e1 e2 => cmp h₀ s.heap vs hw r _ s' i j vi vj (by show A.units + 1 ≤ 9100; omega) k e1 e2)
    ?_ ?_ ?_ fun v s' hv hm hk => ?_
  · exact ⟨_, Heap.get?_push_of_some _ g1, rfl, rfl⟩
  · exact fun b o e => Heap.get?_push_of_some _ (k1 b o e)
  · exact Heap.get?_push_size _ rfl
  rw [hlen] at hv
  obtain ⟨x', e', rx⟩ := r.getRev hv
  rw [hx] at e'; cases e'
  have st := hw.extend hk
  exact ⟨x, σ, rx.step st, ⟨st, hm.1, hm.2⟩, q⟩
/-- ints -/
theorem argBest_le (gt : Nat → Nat → Bool) : ∀ k, argBest gt k ≤ k
  | 0 => Nat.le_refl _
  | k + 1 => by unfold argBest; have := argBest_le gt k; split <;> omega
theorem argBest_ok {gt : Nat → Nat → Bool} (tr : ∀ a b c, gt a b = false → gt b c = false → gt a c = false) (irr : ∀ a, gt a a = false) (asy : ∀ a b, gt a b = true → gt b a = false) : ∀ k i, i ≤ k → gt i (argBest gt k) = false
  | 0, i, h => by have : i = 0 := by omega
                  subst this; exact irr 0
  | k + 1, i, h => by
    unfold argBest
    cases hg : gt (k + 1) (argBest gt k) with
    | true =>
      rw [if_pos rfl]
      rcases Nat.lt_or_ge i (k + 1) with q | q
      · exact tr _ _ _ (argBest_ok tr irr asy k i (by omega)) (asy _ _ hg)
      · have : i = k + 1 := by omega
        subst this; exact irr _
    | false =>
      rw [if_neg Bool.false_ne_true]
      rcases Nat.lt_or_ge i (k + 1) with q | q
      · exact argBest_ok tr irr asy k i (by omega)
      · have : i = k + 1 := by omega
        subst this; exact hg
end

/-! Srt -/
/-- a tree of questions, each answered by lt -/
noncomputable def Run (lt : Nat → Nat → Bool) (N : Nat) {α : Type} : KasT α → (α → Prop) → Prop
  | .ret a, Q => Q a
  | .ask i j k, Q => i < N ∧ j < N ∧ Run lt N (k (lt i j)) Q
section
variable {lt : Nat → Nat → Bool} {N : Nat}
theorem Run.bind {α β : Type} {f : α → KasT β} {Q : β → Prop} : ∀ (t : KasT α), Run lt N t (fun a => Run lt N (f a) Q) → Run lt N (t.bind f) Q
  | .ret _, h => h
  | .ask i j k, h => ⟨h.1, h.2.1, Run.bind (k _) h.2.2⟩
theorem Run.wp {α : Type} {cmp : Nat → Nat → (Bool → Shared → Prop) → Shared → Prop} {Q : α → Shared → Prop} {s : Shared} (hc : ∀ i j C, i < N → j < N → C (lt i j) s → cmp i j C s) : ∀ (t : KasT α), Run lt N t (fun a => Q a s) → t.kasWp cmp Q s
  | .ret _, h => h
  | .ask i j k, h => hc i j _ h.1 h.2.1 (Run.wp hc (k _) h.2.2)
/-- the order with the places of before -/
noncomputable def R (lt : Nat → Nat → Bool) (a b : Nat) : Prop := lt b a = false ∧ (lt a b = false → a < b)
structure Weak (lt : Nat → Nat → Bool) : Prop where
  asym : ∀ a b, lt a b = true → lt b a = false
  neg : ∀ a b c, lt a c = true → lt a b = true ∨ lt b c = true
theorem Weak.irr (h : Weak lt) (a : Nat) : lt a a = false := by
  cases q : lt a a with
  | false => rfl
  | true => have := h.asym _ _ q; rw [q] at this; cases this
theorem Weak.le (h : Weak lt) {a b c : Nat} (x : lt b a = false) (y : lt c b = false) : lt c a = false := by
  cases q : lt c a with
  | false => rfl
  | true => rcases h.neg c b a q with e | e
            · rw [y] at e; cases e
            · rw [x] at e; cases e
theorem Weak.rtrans (h : Weak lt) {a b c : Nat} (x : R lt a b) (y : R lt b c) : R lt a c := by
  refine ⟨h.le x.1 y.1, fun q => ?_⟩
  have e1 : lt a b = false := h.le (a := b) (b := c) (c := a) y.1 q
  have e2 : lt b c = false := h.le (a := c) (b := a) (c := b) q x.1
  exact Nat.lt_trans (x.2 e1) (y.2 e2)
noncomputable def G (p : Array Nat) (i : Nat) : Nat := p.getD i 0
theorem G_some {p : Array Nat} {i : Nat} (h : i < p.size) : p[i]? = some (G p i) := by
  unfold G; simp [h]
theorem G_rev {p : Array Nat} {i j : Nat} (hj : j ≤ p.size) {k : Nat} (hk : k < p.size) : G (kas_rev p i j) k = if i ≤ k ∧ k < j then G p (i + j - 1 - k) else G p k := by
  have e := getElem?_mirror_all (i := i) hj k
  have s : (kas_rev p i j).size = p.size := mirror_size ..
  have e2 : (kas_rev p i j)[k]? = some (G (kas_rev p i j) k) := G_some (by omega)
  unfold kas_rev at e2 ⊢
  rw [e2] at e
  split at e
  · rename_i h; rw [if_pos h]; rw [G_some (by omega)] at e; exact Option.some.inj e
  · rename_i h; rw [if_neg h]; rw [G_some hk] at e; exact Option.some.inj e
theorem G_bub {p : Array Nat} {src d : Nat} (hs : src < p.size) (hd : d ≤ src) {k : Nat} (hk : k < p.size) : G (bubble p src d) k = if k = src - d then G p src else if src - d < k ∧ k ≤ src then G p (k - 1) else G p k := by
  have e := getElem?_bubble hs d hd k
  have s : (bubble p src d).size = p.size := bubble_size ..
  rw [G_some (p := bubble p src d) (by omega)] at e
  split at e
  · rename_i h; rw [if_pos h]; rw [G_some hs] at e; exact Option.some.inj e
  · rename_i h; rw [if_neg h]
    split at e
    · rename_i h2; rw [if_pos h2]; rw [G_some (by omega)] at e; exact Option.some.inj e
    · rename_i h2; rw [if_neg h2]; rw [G_some hk] at e; exact Option.some.inj e
/-- the first n places hold the first n, the others themselves -/
structure Pre (N : Nat) (p : Array Nat) (n : Nat) : Prop where
  size : p.size = N
  perm : p.toList.Perm (List.range N)
  low : ∀ i, i < n → G p i < n
  high : ∀ i, n ≤ i → i < N → G p i = i
  le : n ≤ N
theorem Pre.ltN {p : Array Nat} {n i : Nat} (h : Pre N p n) (hi : i < N) : G p i < N := by
  rcases Nat.lt_or_ge i n with q | q
  · exact Nat.lt_of_lt_of_le (h.low i q) h.le
  · rw [h.high i q hi]; exact hi
theorem Pre.succ {p : Array Nat} {n : Nat} (h : Pre N p n) (hn : n < N) : Pre N p (n + 1) := by
  refine ⟨h.size, h.perm, fun i hi => ?_, fun i hi hN => h.high i (by omega) hN, hn⟩
  rcases Nat.lt_or_ge i n with q | q
  · exact Nat.lt_succ_of_lt (h.low i q)
  · have : i = n := by omega
    subst this; rw [h.high i (Nat.le_refl _) hn]; omega
theorem Pre.rev {p : Array Nat} {n i : Nat} (h : Pre N p n) : Pre N (kas_rev p i n) n := by
  have hz := h.size
  have hle := h.le
  have s : (kas_rev p i n).size = p.size := mirror_size ..
  refine ⟨by omega, (Array.perm_iff_toList_perm.mp (mirror_perm ..)).trans h.perm, fun k hk => ?_, fun k hk hN => ?_, h.le⟩
  · rw [G_rev (by omega) (by omega)]; split
    · exact h.low _ (by omega)
    · exact h.low _ hk
  · rw [G_rev (by omega) (by omega), if_neg (by omega)]; exact h.high k hk hN
noncomputable def Up (lt : Nat → Nat → Bool) (p : Array Nat) (n : Nat) : Prop := ∀ i j, i < j → j < n → R lt (G p i) (G p j)
/-- falling; the last q + 1 alike and still as they stood, all others above them -/
noncomputable def Dn (lt : Nat → Nat → Bool) (p : Array Nat) (n q : Nat) : Prop := ∀ i j, i < j → j < n → if n ≤ i + (q + 1) then lt (G p i) (G p j) = false ∧ R lt (G p i) (G p j) else R lt (G p j) (G p i) ∧ (n ≤ j + (q + 1) → lt (G p j) (G p i) = true)
noncomputable def Dw (lt : Nat → Nat → Bool) (p : Array Nat) (n : Nat) : Prop := ∀ i j, i < j → j < n → R lt (G p j) (G p i)
theorem Dn.w {p : Array Nat} {n : Nat} (d : Dn lt p n 0) : Dw lt p n := fun i j hij hj => by
  have := d i j hij hj; rw [if_neg (by omega)] at this; exact this.1
theorem up_rev {p : Array Nat} {n : Nat} (h : n ≤ p.size) (d : Dw lt p n) : Up lt (kas_rev p 0 n) n := by
  intro i j hij hj
  rw [G_rev h (by omega), G_rev h (by omega), if_pos (by omega), if_pos (by omega)]
  exact d (0 + n - 1 - j) (0 + n - 1 - i) (by omega) (by omega)
theorem dw_rev {p : Array Nat} {n : Nat} (h : n ≤ p.size) (u : Up lt p n) (e : ∀ i j, i < j → j < n → lt (G p i) (G p j) = false) : Dw lt (kas_rev p 0 n) n := by
  intro i j hij hj
  rw [G_rev h (by omega), G_rev h (by omega), if_pos (by omega), if_pos (by omega)]
  exact u (0 + n - 1 - j) (0 + n - 1 - i) (by omega) (by omega)
theorem asc_ok (W : Weak lt) {p : Array Nat} : ∀ (f n : Nat) {Q : Nat → Prop}, 1 ≤ n → n + f = N → Pre N p n → Up lt p n → (∀ m, n ≤ m → m ≤ N → Pre N p m → Up lt p m → (m = N ∨ lt (G p m) (G p (m - 1)) = true) → Q m) → Run lt N (kas_asc p f n) Q
  | 0, n, Q, h1, hf, hp, hu, q => q n (Nat.le_refl _) (by omega) hp hu (.inl (by omega))
  | f + 1, n, Q, h1, hf, hp, hu, q => by
    refine ⟨hp.ltN (by omega), hp.ltN (by omega), ?_⟩
    show Run lt N (if lt (G p n) (G p (n - 1)) = true then _ else _) Q
    split
    · rename_i c; exact q n (Nat.le_refl _) (by omega) hp hu (.inr c)
    · rename_i c
      have c : lt (G p n) (G p (n - 1)) = false := by simpa using c
      have hp' := hp.succ (by omega)
      refine asc_ok W f (n + 1) (by omega) (by omega) hp' (fun i j hij hj => ?_) fun m a b d e g => q m (by omega) b d e g
      have last : R lt (G p (n - 1)) (G p n) := ⟨c, fun _ => by rw [hp.high n (Nat.le_refl _) (by omega)]; exact hp.low _ (by omega)⟩
      rcases Nat.lt_or_ge j n with hjn | hjn
      · exact hu i j hij hjn
      · have : j = n := by omega
        subst this
        rcases Nat.lt_or_ge i (j - 1) with hi | hi
        · exact W.rtrans (hu i (j - 1) hi (by omega)) last
        · have : i = j - 1 := by omega
          subst this; exact last
theorem dn_rev {p : Array Nat} {n q : Nat} (h : n ≤ p.size) (hq : q + 1 ≤ n) (d : Dn lt p n q) : Dw lt (kas_rev p (n - (q + 1)) n) n := by
  intro i j hij hj
  rw [G_rev h (by omega), G_rev h (by omega)]
  by_cases hi : n - (q + 1) ≤ i
  · rw [if_pos ⟨by omega, by omega⟩, if_pos ⟨by omega, by omega⟩]
    have := d (n - (q + 1) + n - 1 - j) (n - (q + 1) + n - 1 - i) (by omega) (by omega)
    rw [if_pos (by omega)] at this
    exact this.2
  · rw [if_neg (by omega : ¬ (n - (q + 1) ≤ i ∧ i < n))]
    split
    · have := d i (n - (q + 1) + n - 1 - j) (by omega) (by omega)
      rw [if_neg (by omega)] at this; exact this.1
    · have := d i j hij hj
      rw [if_neg (by omega)] at this; exact this.1
theorem R.of_lt (W : Weak lt) {a b : Nat} (h : lt a b = true) : R lt a b := ⟨W.asym _ _ h, fun e => by rw [h] at e; cases e⟩
theorem Weak.lt_le (W : Weak lt) {a b c : Nat} (x : lt a b = true) (y : lt c b = false) : lt a c = true := by
  rcases W.neg a c b x with e | e
  · exact e
  · rw [y] at e; cases e
theorem dn_more (W : Weak lt) {p : Array Nat} {n : Nat} (h1 : 1 ≤ n) (d : Dw lt p n) (c : lt (G p n) (G p (n - 1)) = true) : Dn lt p (n + 1) 0 := by
  intro i j hij hj
  rw [if_neg (by omega)]
  rcases Nat.lt_or_ge j n with hjn | hjn
  · exact ⟨d i j hij hjn, fun h => by omega⟩
  · have : j = n := by omega
    subst this
    have s : lt (G p j) (G p i) = true := by
      rcases Nat.lt_or_ge i (j - 1) with hi | hi
      · exact W.lt_le c (d i (j - 1) hi (by omega)).1
      · have : i = j - 1 := by omega
        subst this; exact c
    exact ⟨R.of_lt W s, fun _ => s⟩
theorem desc_ok (W : Weak lt) : ∀ (f : Nat) (p : Array Nat) (n q : Nat) {Q : Array Nat × Nat × Nat → Prop}, q + 1 ≤ n → n + f = N → Pre N p n → Dn lt p n q →
    (∀ p' n' q', q' + 1 ≤ n' → n' ≤ N → Pre N p' n' → Dn lt p' n' q' → Q (p', n', q')) → Run lt N (kas_desc f p n q) Q
  | 0, p, n, q, Q, h1, hf, hp, hd, k => k p n q h1 (by omega) hp hd
  | f + 1, p, n, q, Q, h1, hf, hp, hd, k => by
    have hz := hp.size
    refine ⟨hp.ltN (by omega), hp.ltN (by omega), ?_⟩
    show Run lt N (if lt (G p n) (G p (n - 1)) = true then _ else _) Q
    split
    · rename_i c
      split
      · have hp1 := hp.rev (i := n - (q + 1))
        have hd1 := dn_rev (by omega) h1 hd
        have e1 : G (kas_rev p (n - (q + 1)) n) n = G p n := by rw [G_rev (by omega) (by omega), if_neg (by omega)]
        have e2 : G (kas_rev p (n - (q + 1)) n) (n - 1) = G p (n - (q + 1)) := by
          rw [G_rev (by omega) (by omega), if_pos (by omega)]; congr 1; omega
        have c1 : lt (G p n) (G p (n - (q + 1))) = true := by
          rcases Nat.lt_or_ge (n - (q + 1)) (n - 1) with hh | hh
          · have := hd (n - (q + 1)) (n - 1) hh (by omega)
            rw [if_pos (by omega)] at this
            rcases W.neg _ (G p (n - (q + 1))) _ c with e | e
            · exact e
            · rw [this.1] at e; cases e
          · have : n - (q + 1) = n - 1 := by omega
            rw [this]; exact c
        exact desc_ok W f _ (n + 1) 0 (by omega) (by omega) (hp1.succ (by omega)) (dn_more W (by omega) hd1 (by rw [e1, e2]; exact c1)) k
      · have : q = 0 := by omega
        subst this
        exact desc_ok W f _ (n + 1) 0 (by omega) (by omega) (hp.succ (by omega)) (dn_more W (by omega) hd.w c) k
    · rename_i c
      have c : lt (G p n) (G p (n - 1)) = false := by simpa using c
      refine ⟨hp.ltN (by omega), hp.ltN (by omega), ?_⟩
      show Run lt N (if lt (G p (n - 1)) (G p n) = true then _ else _) Q
      split
      · exact k p n q h1 (by omega) hp hd
      · rename_i c2
        have c2 : lt (G p (n - 1)) (G p n) = false := by simpa using c2
        refine desc_ok W f _ (n + 1) (q + 1) (by omega) (by omega) (hp.succ (by omega)) (fun i j hij hj => ?_) k
        have new : ∀ i, i < n → lt (G p (n - 1)) (G p i) = false → lt (G p i) (G p (n - 1)) = false → lt (G p i) (G p n) = false ∧ R lt (G p i) (G p n) := fun i hi a b =>
          ⟨W.le (a := G p n) (b := G p (n - 1)) (c := G p i) c2 b, W.le (a := G p i) (b := G p (n - 1)) (c := G p n) a c, fun _ => by rw [hp.high n (Nat.le_refl _) (by omega)]; exact hp.low i hi⟩
        rcases Nat.lt_or_ge j n with hjn | hjn
        · have := hd i j hij hjn
          by_cases hi : n ≤ i + (q + 1)
          · rw [if_pos hi] at this; rw [if_pos (by omega)]; exact this
          · rw [if_neg hi] at this; rw [if_neg (by omega)]; exact ⟨this.1, fun h => this.2 (by omega)⟩
        · have : j = n := by omega
          subst this
          by_cases hi : j ≤ i + (q + 1)
          · rw [if_pos (by omega)]
            rcases Nat.lt_or_ge i (j - 1) with h | h
            · have := hd i (j - 1) h (by omega)
              rw [if_pos hi] at this
              exact new i hij this.2.1 this.1
            · have : i = j - 1 := by omega
              subst this
              exact new _ hij (W.irr _) (W.irr _)
          · rw [if_neg (by omega)]
            have := hd i (j - 1) (by omega) (by omega)
            rw [if_neg hi] at this
            have s : lt (G p j) (G p i) = true := by
              rcases W.neg _ (G p j) _ (this.2 (by omega)) with e | e
              · rw [c2] at e; cases e
              · exact e
            exact ⟨R.of_lt W s, fun _ => s⟩
theorem tail3_ok (W : Weak lt) {p : Array Nat} {n : Nat} {Q : Nat × Array Nat → Prop} (h1 : 1 ≤ n) (hp : Pre N p n) (d : Dw lt p n) (q : ∀ m p', 1 ≤ m → m ≤ N → Pre N p' m → Up lt p' m → Q (m, p')) : Run lt N (kas_tail3 n N p) Q := by
  have hz := hp.size
  have hl := hp.le
  exact Run.bind _ (asc_ok W (N - n) n h1 (by omega) hp.rev (up_rev (by omega) d) fun m a b c e _ => q m _ (by omega) b c e)
theorem descPart_ok (W : Weak lt) {p : Array Nat} {n : Nat} {Q : Nat × Array Nat → Prop} (h1 : 1 ≤ n) (hn : n < N) (hp : Pre N p n) (d : Dw lt p n) (c : lt (G p n) (G p (n - 1)) = true) (q : ∀ m p', 1 ≤ m → m ≤ N → Pre N p' m → Up lt p' m → Q (m, p')) : Run lt N (kas_descPart n N p) Q := by
  refine Run.bind _ (desc_ok W (N - (n + 1)) p (n + 1) 0 (by omega) (by omega) (hp.succ hn) (dn_more W h1 d c) fun p' n' q' a b e g => ?_)
  have hz := e.size
  dsimp only
  split
  · exact tail3_ok W (by omega) e.rev (dn_rev (by omega) a g) q
  · have : q' = 0 := by omega
    subst this
    exact tail3_ok W (by omega) e g.w q
theorem count_ok (W : Weak lt) {p : Array Nat} {Q : Nat × Array Nat → Prop} (h1 : 1 ≤ N) (hp : Pre N p 1) (q : ∀ m p', 1 ≤ m → m ≤ N → Pre N p' m → Up lt p' m → Q (m, p')) : Run lt N (kas_count N p) Q := by
  refine Run.bind _ (asc_ok W (N - 1) 1 (Nat.le_refl _) (by omega) hp (fun i j hij hj => by omega) fun m a b c e g => ?_)
  have hz := hp.size
  split
  · exact q m p a b c e
  · rename_i hm
    have hm : m ≠ N := by simpa using hm
    rcases g with g | g
    · exact absurd g hm
    split
    · refine ⟨c.ltN (by omega), c.ltN (by omega), ?_⟩
      show Run lt N (if lt (G p 0) (G p (m - 1)) = true then _ else _) Q
      split
      · exact q m p a b c e
      · rename_i c0
        have c0 : lt (G p 0) (G p (m - 1)) = false := by simpa using c0
        have le0 : ∀ i, i < m → lt (G p i) (G p 0) = false := fun i hi => by
          rcases Nat.eq_zero_or_pos i with h | h
          · subst h; exact W.irr _
          · exact (e 0 i h hi).1
        have le1 : ∀ i, i < m → lt (G p (m - 1)) (G p i) = false := fun i hi => by
          rcases Nat.lt_or_ge i (m - 1) with h | h
          · exact (e i (m - 1) h (by omega)).1
          · have : i = m - 1 := by omega
            subst this; exact W.irr _
        have all : ∀ i j, i < j → j < m → lt (G p i) (G p j) = false := fun i j hij hj => by
          have x : lt (G p 0) (G p j) = false := W.le (a := G p j) (b := G p (m - 1)) (c := G p 0) (le1 j hj) c0
          exact W.le (a := G p j) (b := G p 0) (c := G p i) x (le0 i (by omega))
        refine descPart_ok W (by omega) (by omega) c.rev (dw_rev (by omega) e all) ?_ q
        rw [G_rev (by omega) (by omega), if_neg (by omega), G_rev (by omega) (by omega), if_pos (by omega)]
        have e2 : 0 + m - 1 - (m - 1) = 0 := by omega
        rw [e2]
        exact W.lt_le g c0
    · have : m = 1 := by omega
      subst this
      exact descPart_ok W (by omega) (by omega) c (fun i j hij hj => by omega) g q
theorem place_ok (W : Weak lt) {p : Array Nat} {k : Nat} (hp : Pre N p k) (hk : k < N) (u : Up lt p k) : ∀ (f l r : Nat) {Q : Nat → Prop}, l ≤ r → r ≤ k → r ≤ l + f → (∀ i, i < l → lt (G p k) (G p i) = false) → (∀ i, r ≤ i → i < k → lt (G p k) (G p i) = true) →
    (∀ m, m ≤ k → (∀ i, i < m → lt (G p k) (G p i) = false) → (∀ i, m ≤ i → i < k → lt (G p k) (G p i) = true) → Q m) → Run lt N (kas_place p k f l r) Q
  | 0, l, r, Q, h1, h2, h3, a, b, q => q l (by omega) a fun i hi => b i (by omega)
  | f + 1, l, r, Q, h1, h2, h3, a, b, q => by
    show Run lt N (if l ≥ r then _ else _) Q
    split
    · exact q l (by omega) a fun i hi => b i (by omega)
    · refine ⟨hp.ltN (by omega), hp.ltN (by omega), ?_⟩
      show Run lt N (if lt (G p k) (G p ((l + r) / 2)) = true then _ else _) Q
      split
      · rename_i c
        refine place_ok W hp hk u f l ((l + r) / 2) (by omega) (by omega) (by omega) a (fun i hi hik => ?_) q
        rcases Nat.lt_or_ge ((l + r) / 2) i with h | h
        · exact W.lt_le c (u ((l + r) / 2) i h hik).1
        · have : i = (l + r) / 2 := by omega
          subst this; exact c
      · rename_i c
        have c : lt (G p k) (G p ((l + r) / 2)) = false := by simpa using c
        refine place_ok W hp hk u f ((l + r) / 2 + 1) r (by omega) (by omega) (by omega) (fun i hi => ?_) b q
        rcases Nat.lt_or_ge i ((l + r) / 2) with h | h
        · exact W.le (a := G p i) (b := G p ((l + r) / 2)) (c := G p k) (u i _ h (by omega)).1 c
        · have : i = (l + r) / 2 := by omega
          subst this; exact c
theorem bin_ok (W : Weak lt) : ∀ (f : Nat) (p : Array Nat) (k : Nat) {Q : Array Nat → Prop}, k + f = N → Pre N p k → Up lt p k → (∀ p', Pre N p' N → Up lt p' N → Q p') → Run lt N (kas_bin f p k) Q
  | 0, p, k, Q, hf, hp, u, q => by
    have : k = N := by omega
    subst this; exact q p hp u
  | f + 1, p, k, Q, hf, hp, u, q => by
    have hz := hp.size
    have hk : k < N := by omega
    refine Run.bind _ (place_ok W hp hk u k 0 k (Nat.zero_le _) (Nat.le_refl _) (by omega) (fun i hi => by omega) (fun i hi hik => by omega) fun m hm a b => ?_)
    have gb : ∀ x, x < N → G (bubble p k (k - m)) x = if x = m then G p k else if m < x ∧ x ≤ k then G p (x - 1) else G p x := fun x hx => by
      rw [G_bub (by omega) (by omega) (by omega)]
      have : k - (k - m) = m := by omega
      rw [this]
    have gk : G p k = k := hp.high k (Nat.le_refl _) hk
    refine bin_ok W f _ (k + 1) (by omega) ⟨by rw [bubble_size]; exact hz, (Array.perm_iff_toList_perm.mp (bubble_perm ..)).trans hp.perm, fun i hi => ?_, fun i hi hN => ?_, by omega⟩ (fun i j hij hj => ?_) q
    · rw [gb i (by omega)]; split
      · omega
      · split
        · exact Nat.lt_succ_of_lt (hp.low _ (by omega))
        · exact Nat.lt_succ_of_lt (hp.low _ (by omega))
    · rw [gb i hN, if_neg (by omega), if_neg (by omega)]; exact hp.high i (by omega) hN
    · rw [gb i (by omega), gb j (by omega)]
      by_cases hjm : j = m
      · rw [if_neg (by omega : ¬ i = m), if_neg (by omega : ¬ (m < i ∧ i ≤ k)), if_pos hjm]
        exact ⟨a i (by omega), fun _ => by rw [gk]; exact hp.low i (by omega)⟩
      · rw [if_neg hjm]
        by_cases him : i = m
        · rw [if_pos him, if_pos (by omega)]
          exact R.of_lt W (b (j - 1) (by omega) (by omega))
        · rw [if_neg him]
          by_cases h1 : m < i
          · rw [if_pos (by omega), if_pos (by omega)]; exact u _ _ (by omega) (by omega)
          · rw [if_neg (by omega)]
            by_cases h2 : m < j
            · rw [if_pos (by omega)]; exact u _ _ (by omega) (by omega)
            · rw [if_neg (by omega)]; exact u _ _ hij (by omega)
theorem sort_ok (W : Weak lt) (h1 : 1 ≤ N) {Q : Array Nat → Prop} (q : ∀ p, Pre N p N → Up lt p N → Q p) : Run lt N (kas_sort N) Q := by
  have g0 : ∀ i, i < N → G (List.toArray (List.range N)) i = i := fun i hi => by unfold G; simp [Array.getD, hi]
  refine Run.bind _ (count_ok W h1 ⟨by simp, by simp, fun i hi => by rw [g0 i (by omega)]; exact hi, fun i _ hi => g0 i hi, h1⟩ fun m p' a b c d => ?_)
  dsimp only
  split
  · have : max m 1 = m := by omega
    rw [this]
    exact bin_ok W _ _ _ (by omega) c d q
  · have : m = N := by omega
    subst this; exact q p' c d
end

/-! X4 -/
section
variable {prog : Program} {w : World} {A : Around} {E : Value → Shared → Prop} {s : Shared}
noncomputable def outOf (vs : List Value) (p : Array Nat) : Array Value := List.toArray (p.toList.map fun i => vs.getD i Value.none)
theorem list_sort_any {a : Addr} {vs : List Value} {n : Nat} {P : PySem.Fin → Shared → Prop} {κ : SortKind} {lt : Nat → Nat → Bool} (Wk : Weak lt) (ho : s.heap.get? a = some (seqObj "list" vs.toArray n)) (h2 : 2 ≤ vs.length) (h64 : vs.length < 64)
    (kind : ∀ (h' : Heap) (Q : SortKind → Shared → Prop), (∀ b o, b ≠ a → s.heap.get? b = some o → h'.get? b = some o) → Q κ { s with heap := h' } → wpAny (model prog w) A (keyKind' vs.toArray) Q (fun _ _ => False) { s with heap := h' })
    (ask : ∀ (h' : Heap) (i j : Nat) (C : Bool → Shared → Prop), (∀ b o, b ≠ a → s.heap.get? b = some o → h'.get? b = some o) → i < vs.length → j < vs.length → C (lt i j) { s with heap := h' } → kas_ask prog w A κ vs i j C { s with heap := h' })
    (h : ∀ p, Pre vs.length p vs.length → Up lt p vs.length → P (.done (.ret .none)) { s with heap := sortedHeap s.heap a vs (outOf vs p) }) :
    wpAny (model prog w) A (Builtin.«list.sort» ⟨[.ref a], []⟩) P E s := by
  rw [list_sort_plain]
  have ha : a < s.heap.objs.size := Heap.lt_size ho
  refine wpAny_bind (listItems_at ho rfl ?_)
  refine wpAny_bind (listUpdate_at ho rfl ?_)
  obtain ⟨e1, ho1⟩ : ∃ e1, (s.heap.update a (Obj.mapSeq fun _ => #[])).get? a = some (seqObj "list" #[] e1) := ⟨_, get?_update_seq ho (fun _ => #[])⟩
  refine wpAny_bind (seqEpoch_at ho1 rfl ?_)
  refine wpAny_bind (wpAny_newTuple ?_)
  refine wpAny_bind (wpAny_newList ?_)
  refine wpAny_holding ?_
  have ho6 : (((s.heap.update a (Obj.mapSeq fun _ => #[])).push (seqObj "tuple" vs.toArray 0)).push (seqObj "list" #[] 0)).get? a = some (seqObj "list" #[] e1) := by
    rw [Heap.get?_push_ne _ _ _ (by rw [size_push', Heap.size_update]; exact Nat.ne_of_lt (Nat.lt_succ_of_lt ha)), Heap.get?_push_ne _ _ _ (by rw [Heap.size_update]; exact Nat.ne_of_lt ha)]
    exact ho1
  have keep : ∀ b o, b ≠ a → s.heap.get? b = some o → (((s.heap.update a (Obj.mapSeq fun _ => #[])).push (seqObj "tuple" vs.toArray 0)).push (seqObj "list" #[] 0)).get? b = some o := fun b o nb q => by
    have hlt : b < s.heap.objs.size := Heap.lt_size q
    rw [Heap.get?_push_ne _ _ _ (by rw [size_push', Heap.size_update]; exact Nat.ne_of_lt (Nat.lt_succ_of_lt hlt)), Heap.get?_push_ne _ _ _ (by rw [Heap.size_update]; exact Nat.ne_of_lt hlt), Heap.get?_update_ne _ _ _ _ nb]
    exact q
  show wpAny (model prog w) A _ P E { s with heap := ((s.heap.update a (Obj.mapSeq fun _ => #[])).push (seqObj "tuple" vs.toArray 0)).push (seqObj "list" #[] 0) }
  dsimp only
  have hn2 : ¬ vs.toArray.size < 2 := by rw [List.size_toArray]; omega
  rw [if_neg hn2, if_neg hn2]
  refine wpAny_bind (wpAny_mono (kind _ (fun k s' => k = κ ∧ s' = { s with heap := ((s.heap.update a (Obj.mapSeq fun _ => #[])).push (seqObj "tuple" vs.toArray 0)).push (seqObj "list" #[] 0) }) keep ⟨rfl, rfl⟩) ?_ fun _ _ x => x.elim)
  rintro k s' ⟨rfl, rfl⟩
  refine wpAny_bind (wpAny_mono (kat_run (Q := fun st' s' => s' = { s with heap := ((s.heap.update a (Obj.mapSeq fun _ => #[])).push (seqObj "tuple" vs.toArray 0)).push (seqObj "list" #[] 0) } ∧ ∃ p : Array Nat, Pre vs.length p vs.length ∧ Up lt p vs.length ∧ (arrOf st').map (·.2) = outOf vs p ∧ failedOf st' = none)
    (G := fun p s' => s' = { s with heap := ((s.heap.update a (Obj.mapSeq fun _ => #[])).push (seqObj "tuple" vs.toArray 0)).push (seqObj "list" #[] 0) } ∧ Pre vs.length p vs.length ∧ Up lt p vs.length)
    rfl h2 h64 (fun p' st' s' a1 a2 a3 a4 => ⟨a4.1, p', a4.2.1, a4.2.2, kat_snds rfl a2, a3⟩) (Run.wp (fun i j C hi hj hc => ask _ i j C keep hi hj hc) _ (sort_ok Wk (by omega) fun p x y => ⟨rfl, x, y⟩))) ?_ fun _ _ e => e)
  rintro ⟨⟨⟩, st'⟩ s' ⟨rfl, p, hp, hu, hout, hf⟩
  dsimp only
  have hz : (outOf vs p).size = vs.length := by unfold outOf; rw [List.size_toArray, List.length_map, Array.length_toList, hp.size]
  refine wpAny_bind (seqEpoch_at ho6 rfl ?_)
  refine wpAny_bind (listUpdate_at ho6 rfl ?_ (hsz2 := by rw [hout, hz, sizeLine_eq]; omega))
  rw [hf]
  simp only [bne_self_eq_false, Bool.false_eq_true, if_false]
  refine wpAny_pure ?_
  have := h p hp hu
  rw [← hout] at this
  exact this
theorem sorted_any {l : Addr} {vs : List Value} {Q : Value → Shared → Prop} {κ : SortKind} {lt : Nat → Nat → Bool} (Wk : Weak lt) (hl : s.heap.IsList l vs.toArray) (h2 : 2 ≤ vs.length) (h64 : vs.length < 64)
    (kind : ∀ (h' : Heap) (Q : SortKind → Shared → Prop), (∀ b o, s.heap.get? b = some o → h'.get? b = some o) → Q κ { s with heap := h' } → wpAny (model prog w) A.in1.in1 (keyKind' vs.toArray) Q (fun _ _ => False) { s with heap := h' })
    (ask : ∀ (h' : Heap) (i j : Nat) (C : Bool → Shared → Prop), (∀ b o, s.heap.get? b = some o → h'.get? b = some o) → i < vs.length → j < vs.length → C (lt i j) { s with heap := h' } → kas_ask prog w A.in1.in1 κ vs i j C { s with heap := h' })
    (h : ∀ p, Pre vs.length p vs.length → Up lt p vs.length → Q (.ref (s.heap.objs.size + 1)) { s with heap := sortedAll s.heap vs (outOf vs p) }) :
    wpAny (model prog w) A (call (.builtin "sorted") [.ref l]) Q E s := by
  refine Calls.call_function_entry kind_sorted plain_sorted entry_sorted (args_sorted1 _) ?_
  unfold Builtin.«sorted»
  refine wpAny_bind (m := checkCount "sorted" 1 1 _) (wpAny_pure ?_)
  refine wpAny_bind (collect_list hl ?_)
  refine wpAny_bind (wpAny_newList ?_)
  have hsz : ((s.heap.push (seqObj "list" #[] 0)).update s.heap.objs.size (Obj.mapSeq (· ++ vs.toArray))).objs.size = s.heap.objs.size + 1 := by
    rw [Heap.size_update, size_push']
  have hoL : (((s.heap.push (seqObj "list" #[] 0)).update s.heap.objs.size (Obj.mapSeq (· ++ vs.toArray))).push (seqObj "list" vs.toArray 0)).get? (s.heap.objs.size + 1) = some (seqObj "list" vs.toArray 0) := by
    rw [← hsz]; exact Heap.get?_push_size _ rfl
  have keep : ∀ b o, s.heap.get? b = some o → (((s.heap.push (seqObj "list" #[] 0)).update s.heap.objs.size (Obj.mapSeq (· ++ vs.toArray))).push (seqObj "list" vs.toArray 0)).get? b = some o := fun b o q => by
    have hlt : b < s.heap.objs.size := Heap.lt_size q
    rw [Heap.get?_push_ne _ _ _ (by rw [hsz]; exact Nat.ne_of_lt (Nat.lt_succ_of_lt hlt)), Heap.get?_update_ne _ _ _ _ (Nat.ne_of_lt hlt), Heap.get?_push_ne _ _ _ (Nat.ne_of_lt hlt)]
    exact q
  have ne : ∀ b o, s.heap.get? b = some o → b ≠ s.heap.objs.size + 1 := fun b o q => Nat.ne_of_lt (Nat.lt_succ_of_lt (Heap.lt_size q))
  show wpAny _ _ _ _ _ { s with heap := ((s.heap.push (seqObj "list" #[] 0)).update s.heap.objs.size (Obj.mapSeq (· ++ vs.toArray))).push (seqObj "list" vs.toArray 0) }
  rw [hsz]
  refine wpAny_bind (wpAny_holding (wpAny_call_entry slot_list_sort ⟨_, hoL, rfl⟩ entry_list_sort (list_sort_any Wk hoL h2 h64 (fun h' Q k q => kind h' Q (fun b o e => k b o (ne b o e) (keep b o e)) q)
    (fun h' i j C k hi hj hc => ask h' i j C (fun b o e => k b o (ne b o e) (keep b o e)) hi hj hc) fun p a1 a2 => ⟨_, rfl, ?_⟩) (args_list_sort _)))
  exact wpAny_pure ⟨_, rfl, h p a1 a2⟩
end

/-! X5 -/
section
variable {prog : Program} {w : World} {A : Around} {E : Value → Shared → Prop} {s : Shared}
/-- how the machine sorts these values -/
noncomputable def Sorts (h : Heap) (vs : List Value) (lt : Nat → Nat → Bool) : Prop :=
  ∃ κ, ∀ (prog : Program) (w : World) (A : Around) (s : Shared), (∀ b o, h.get? b = some o → Imm o → s.heap.get? b = some o) →
    (∀ Q : SortKind → Shared → Prop, Q κ s → wpAny (model prog w) A (keyKind' vs.toArray) Q (fun _ _ => False) s) ∧
    ∀ (i j : Nat) (C : Bool → Shared → Prop), i < vs.length → j < vs.length → C (lt i j) s → kas_ask prog w A κ vs i j C s
theorem sortedAll_get (h : Heap) (vs : List Value) (out : List Value) : ∃ nn, (sortedAll h vs out.toArray).get? (h.objs.size + 1) = some (LObj out nn) := by
  have hsz : ((h.push (seqObj "list" #[] 0)).update h.objs.size (Obj.mapSeq (· ++ vs.toArray))).objs.size = h.objs.size + 1 := by
    rw [Heap.size_update, size_push']
  have hoL : (((h.push (seqObj "list" #[] 0)).update h.objs.size (Obj.mapSeq (· ++ vs.toArray))).push (seqObj "list" vs.toArray 0)).get? (h.objs.size + 1) = some (seqObj "list" vs.toArray 0) := by
    rw [← hsz]; exact Heap.get?_push_size _ rfl
  have lt := Heap.lt_size hoL
  unfold sortedAll sortedHeap
  obtain ⟨e1, ho6⟩ : ∃ e1, (((((((h.push (seqObj "list" #[] 0)).update h.objs.size (Obj.mapSeq (· ++ vs.toArray))).push (seqObj "list" vs.toArray 0)).update (h.objs.size + 1) (Obj.mapSeq fun _ => #[])).push (seqObj "tuple" vs.toArray 0)).push (seqObj "list" #[] 0)).get? (h.objs.size + 1)) = some (seqObj "list" #[] e1) := by
    rw [Heap.get?_push_ne _ _ _ (by rw [size_push', Heap.size_update]; exact Nat.ne_of_lt (Nat.lt_succ_of_lt lt)), Heap.get?_push_ne _ _ _ (by rw [Heap.size_update]; exact Nat.ne_of_lt lt)]
    exact ⟨_, get?_update_seq hoL (fun _ => #[])⟩
  exact ⟨_, get?_update_seq ho6 (fun _ => out.toArray)⟩
theorem sortedAll_keep (h : Heap) (vs : List Value) (out : Array Value) (b : Addr) (o : Obj) (e : h.get? b = some o) : (sortedAll h vs out).get? b = some o := by
  have hlt : b < h.objs.size := Heap.lt_size e
  have hsz : ((h.push (seqObj "list" #[] 0)).update h.objs.size (Obj.mapSeq (· ++ vs.toArray))).objs.size = h.objs.size + 1 := by
    rw [Heap.size_update, size_push']
  unfold sortedAll sortedHeap
  have n1 : b ≠ h.objs.size + 1 := Nat.ne_of_lt (Nat.lt_succ_of_lt hlt)
  have n2 : b < h.objs.size + 1 + 1 := Nat.lt_succ_of_lt (Nat.lt_succ_of_lt hlt)
  rw [Heap.get?_update_ne _ _ _ _ n1, Heap.get?_push_ne _ _ _ (by rw [size_push', Heap.size_update, size_push', hsz]; exact Nat.ne_of_lt (Nat.lt_succ_of_lt n2)), Heap.get?_push_ne _ _ _ (by rw [Heap.size_update, size_push', hsz]; exact Nat.ne_of_lt n2), Heap.get?_update_ne _ _ _ _ n1,
    Heap.get?_push_ne _ _ _ (by rw [hsz]; exact n1), Heap.get?_update_ne _ _ _ _ (Nat.ne_of_lt hlt), Heap.get?_push_ne _ _ _ (Nat.ne_of_lt hlt)]
  exact e
theorem call_sorted {σ : Hp} {Q : V → Hp → Prop} {a : Addr} {xs : List V} {lt : Nat → Nat → Bool} (Wk : Weak lt) (e : listAt σ a = some xs) (h2 : 2 ≤ xs.length) (h64 : xs.length < 64)
    (hs : ∀ (h₀ : Heap) (h : Heap) (vs : List Value), W h₀ σ h → Reps h vs xs → Sorts h vs lt)
    (q : ∀ p : Array Nat, Pre xs.length p xs.length → Up lt p xs.length → newL (p.toList.map fun i => xs.getD i .none) Q σ) : opCall .sorted [.ref a] Q σ := by
  refine CallS.mk ?_
  intro prog w A s h₀ mg mb n vargs G R ra hw
  obtain ⟨v, rfl, r⟩ := one_rep ra; obtain rfl := r.iref
  obtain ⟨vs, hl, r⟩ := hw.list e
  have hlen := r.length
  obtain ⟨κ, hk⟩ := hs h₀ s.heap vs hw r
  refine sorted_any (κ := κ) (lt := lt) Wk hl (by omega) (by omega) (fun h' Q k q => (hk prog w _ _ fun b o e _ => k b o e).1 Q q) (fun h' i j C k hi hj hc => (hk prog w _ _ fun b o e _ => k b o e).2 i j C hi hj hc) fun p hp hu => ?_
  rw [hlen] at hp hu
  have rr : Reps s.heap (p.toList.map fun i => vs.getD i Value.none) (p.toList.map fun i => xs.getD i .none) := by
    have : ∀ l : List Nat, (∀ i ∈ l, i < xs.length) → Reps s.heap (l.map fun i => vs.getD i Value.none) (l.map fun i => xs.getD i .none) := by
      intro l
      induction l with
      | nil => intro _; exact .nil
      | cons i l ih =>
        intro h
        refine .cons ?_ (ih fun j m => h j (.tail _ m))
        have hi := h i (.head _)
        obtain ⟨v, e1, rv⟩ := r.get (List.getElem?_eq_getElem hi)
        dsimp only
        rw [List.getD_eq_getElem?_getD, List.getD_eq_getElem?_getD, e1, List.getElem?_eq_getElem hi]; exact rv
    refine this _ fun i m => ?_
    have := hp.perm.mem_iff.mp m
    simpa using this
  have qq := q p hp hu
  obtain ⟨nn, gg⟩ := sortedAll_get s.heap vs (p.toList.map fun i => vs.getD i Value.none)
  refine PV.new (n := nn) hw (fun b o e => sortedAll_keep _ _ _ b o e) ?_ gg rr qq
  cases q : s.heap.get? (s.heap.objs.size + 1) with
  | none => rfl
  | some o => exact absurd (Heap.lt_size q) (Nat.not_lt_of_le (Nat.le_succ _))
/-- ints -/
theorem sorts_ints {h : Heap} {vs : List Value} {ns : List Int} (h2 : 2 ≤ ns.length) (r : Reps h vs (ns.map .int)) : Sorts h vs (fun i j => decide (ns.getD i 0 < ns.getD j 0)) := by
  have hi := reps_ints r
  have hlen := hi.length
  refine ⟨oneType', fun prog w A s _ => ⟨fun Q q => ?_, fun i j C hvi hvj hc => ?_⟩⟩
  · match vs, hi, hlen with
    | [], _, hlen => simp at hlen; omega
    | [v], _, hlen => simp at hlen; omega
    | v₁ :: v₂ :: vs, hi, _ => rw [keyKind_ints hi]; exact wpAny_pure q
  · have at' : ∀ k, k < vs.length → ∃ t, vs.getD k Value.none = .int (ns.getD k 0) t := fun k hk => by
      have hk' : k < ns.length := by omega
      obtain ⟨v, e1, rv⟩ := r.get (i := k) (x := .int (ns.getD k 0)) (by simp [hk'])
      obtain ⟨t, rfl⟩ := rv.iint
      exact ⟨t, by rw [List.getD_eq_getElem?_getD, e1]; rfl⟩
    obtain ⟨t, e1⟩ := at' i hvi
    obtain ⟨u, e2⟩ := at' j hvj
    unfold kas_ask
    rw [e1, e2, keyLt'_oneType]
    exact oneLt_int hc
/-- tuples of ints -/
theorem katLex_ints {fin : Bool} {Q : Bool → Shared → Prop} : ∀ (vs ws : List Value) (xs ys : List Int) (i : Nat), IntsAre vs xs → IntsAre ws ys → fin = decide (vs.length < ws.length) → Q (ltI xs ys) s → KatLex prog w A true fin Q (vs.zip ws) i s
  | [], ws, xs, ys, i, h1, h2, hf, q => by
    cases h1
    cases h2 with
    | nil => simp [ltI] at q; simp at hf; subst hf; exact q
    | cons _ _ _ => simp [ltI] at q; simp at hf; subst hf; exact q
  | v :: vs, [], xs, ys, i, h1, h2, hf, q => by
    cases h1
    cases h2
    simp [ltI] at q; simp at hf; subst hf; exact q
  | v :: vs, w' :: ws, xs, ys, i, h1, h2, hf, q => by
    cases h1 with
    | cons x t h1 =>
    cases h2 with
    | cons y u h2 =>
    rw [List.zip_cons_cons]
    refine kat_cons (wpAny_eqBool_int ?_)
    simp only [ltI] at q
    by_cases e : x = y
    · rw [if_pos e] at q
      rw [show (x == y) = true by simp [e]]
      exact kat_yes (katLex_ints vs ws _ _ (i + 1) h1 h2 (by simpa using hf) q)
    · rw [if_neg e] at q
      rw [show (x == y) = false by simp [e]]
      refine kat_no ?_
      cases hb : (true && i == 0) with
      | true => exact oneLt_int q
      | false => exact kat_one _ _ (lt_int q)
theorem katTups_of {h h' : Heap} (k : ∀ b o, h.get? b = some o → Imm o → h'.get? b = some o) : ∀ {vs : List Value} {xs : List (List Int)}, Reps h vs (xs.map fun x => .tup (x.map .int)) → (∀ x ∈ xs, x ≠ []) → ∃ fs, KatTups h' vs fs ∧ fs.length = vs.length ∧ ∀ f ∈ fs, ∃ n t, f = .int n t
  | [], [], _, _ => ⟨[], .nil, rfl, fun f m => by cases m⟩
  | v :: vs, x :: xs, .cons r rs, hn => by
    obtain ⟨fs, t1, t2, t3⟩ := katTups_of k rs fun y m => hn y (.tail _ m)
    obtain ⟨av, us, rfl, y, rr⟩ := r.itup
    cases x with
    | nil => exact absurd rfl (hn [] (.head _))
    | cons x0 x' =>
    obtain ⟨u0, us, rfl, r0, rr⟩ := Reps.icons rr
    obtain ⟨t, rfl⟩ := r0.iint
    obtain ⟨o, e, c, n, d⟩ := y
    exact ⟨.int x0 t :: fs, .cons (k _ _ e (.inl ⟨c, _, _, d⟩)) c d (by simp) t1, by simp [t2], fun f m => by
      rcases List.mem_cons.mp m with rfl | m
      · exact ⟨_, _, rfl⟩
      · exact t3 f m⟩
theorem sorts_tups {h : Heap} {vs : List Value} {xs : List (List Int)} (h2 : 2 ≤ xs.length) (r : Reps h vs (xs.map fun x => .tup (x.map .int))) (hn : ∀ x ∈ xs, x ≠ []) : Sorts h vs (fun i j => ltI (xs.getD i []) (xs.getD j [])) := by
  have hlen := r.length
  simp only [List.length_map] at hlen
  refine ⟨tuples' (Value.type "int" != Value.type "tuple"), fun prog w A s k => ⟨fun Q q => ?_, fun i j C hvi hvj hc => ?_⟩⟩
  · obtain ⟨fs, t1, t2, t3⟩ := katTups_of k r hn
    refine kat_kind (T := .type "int") t1 (by omega) (fun f m => ?_) (by decide) q
    obtain ⟨n, t, rfl⟩ := t3 f m
    exact .now
  · have at' : ∀ k', k' < vs.length → ∃ a o us n, vs.getD k' Value.none = .ref a ∧ s.heap.get? a = some o ∧ o.data = .seq us n ∧ IntsAre us.toList (xs.getD k' []) := fun k' hk => by
      have hk' : k' < xs.length := by omega
      obtain ⟨v, e1, rv⟩ := r.get (i := k') (x := .tup ((xs.getD k' []).map .int)) (by simp [hk'])
      obtain ⟨av, us, rfl, y, rr⟩ := rv.itup
      · obtain ⟨o, e, c, n, d⟩ := y
        exact ⟨_, o, _, n, by rw [List.getD_eq_getElem?_getD, e1]; rfl, k _ _ e (.inl ⟨c, _, _, d⟩), d, reps_ints rr⟩
    obtain ⟨a1, o1, u1, n1, e1, g1, d1, i1⟩ := at' i hvi
    obtain ⟨a2, o2, u2, n2, e2, g2, d2, i2⟩ := at' j hvj
    unfold kas_ask
    rw [e1, e2]
    have hb : (Value.type "int" != Value.type "tuple") = true := by decide
    rw [hb]
    exact kat_lt g1 d1 g2 d2 (katLex_ints _ _ _ _ 0 i1 i2 (by simp) hc)
end

/-! K1 -/
/-! functions as values -/
noncomputable def PE.gfn (i : Nat) : PE := .of fun Φ Q F σ => ∀ fd, Φ 1001 [.int i, .func fd] (fun _ _ => True) σ → Q (.func fd) σ
noncomputable def PE.vcall (j : Nat) (es : List PE) : PE := .of fun Φ Q F σ => look F j (fun f => ∃ fd, f = .func fd ∧ vEs Φ es (fun vs σ => Φ 1000 (f :: vs) Q σ) F σ)
noncomputable def PE.ucalld (i : Nat) (a b : PE) : PE := .of fun Φ Q F σ => vEs Φ [a, b] (fun vs σ => ∃ x y, vs = [x, y] ∧ Φ i [x, y, .none] Q σ) F σ
noncomputable def PE.ucallk (i : Nat) (a b k : PE) : PE := .of fun Φ Q F σ => vEs Φ [a, b] (fun vs σ => ∃ x y, vs = [x, y] ∧ vE Φ k (fun u σ => Φ i [x, y, u] Q σ) F σ) F σ
section
variable (Φ : Fns) (Q : V → Hp → Prop) (P : Bool → Hp → Prop) (F : Frm) (σ : Hp)
theorem e_gfn (i : Nat) : vE Φ (.gfn i) Q F σ = ∀ fd, Φ 1001 [.int i, .func fd] (fun _ _ => True) σ → Q (.func fd) σ := rfl
theorem e_vcall (j : Nat) (es : List PE) : vE Φ (.vcall j es) Q F σ = look F j (fun f => ∃ fd, f = .func fd ∧ vEs Φ es (fun vs σ => Φ 1000 (f :: vs) Q σ) F σ) := rfl
theorem e_ucalld (i : Nat) (a b : PE) : vE Φ (.ucalld i a b) Q F σ = vEs Φ [a, b] (fun vs σ => ∃ x y, vs = [x, y] ∧ Φ i [x, y, .none] Q σ) F σ := rfl
theorem e_ucallk (i : Nat) (a b k : PE) : vE Φ (.ucallk i a b k) Q F σ = vEs Φ [a, b] (fun vs σ => ∃ x y, vs = [x, y] ∧ vE Φ k (fun u σ => Φ i [x, y, u] Q σ) F σ) F σ := rfl
end
section
variable {c : Cfg} {p q : Pos}
theorem CE.gfn {x : Str} {i : Nat} (hn : c.fns[i]? = some x) (hd : (x == ("__debug__" : Str)) = false) (hk : c.sc.lookup x = some .globalImplicit) : CE c (.Name x p) (.gfn i) := by
  intro prog w h₀ mg mb Φ n A s σ env own F Q X v
  obtain ⟨fv, e1, fa, o, fd, rfl, e2, e3, call⟩ := X.NM.fn i _ hn
  refine load_glob X.G X.w X.f hk hd (.inl e1) ?_
  exact PV.same' X.w (.func (X.w.stays _ _ e2) e3) (v fd (X.NM.gv i x fa o fd hn e1 e2 e3 σ))
theorem CE.vcall {x : Str} {j : Nat} {es : List Expr} {as : List PE} (e : c.names[j]? = some x) (hd : (x == ("__debug__" : Str)) = false) (hcd : (x == ("__classdict__" : Str)) = false) (hs : CEs c es as) : CE c (.Call (.Name x p) es [] q) (.vcall j as) := by
  intro prog w h₀ mg mb Φ n A s σ env own F Q X v
  obtain ⟨u, hu, fd, rfl, v⟩ := look_some v
  refine Call_Name rfl (wpAny_Name (X.f.load e hu hcd fun fv r => ?_) hd)
  obtain ⟨fa, o, rfl, e1, e2⟩ := r.ifunc
  refine callWith_function_kw (o := o) (fd := fd) (evalArgs_ces hs (wpAny_mono (sEs hs X v) (fun vs s₁ => PVs.on fun xs σ₁ rs st m₁ q => ?_) fun _ _ f => f))
  have e1' := st.tups _ _ e1 (.inr (.inr (.inl ⟨_, e2⟩)))
  exact ⟨⟨e1', e2⟩, wpAny_mono (X.NM.cv fd A s₁ σ₁ fa o ⟨vs, []⟩ vs xs Q e1' e2 (fun _ h => h) X.R.weak (X.fs.step st) st.w rs q) (fun _ _ pv => pv.back st m₁) fun _ _ f => f⟩
theorem CE.ucalld {x : Str} {i : Nat} {e1 e2 : Expr} {a b : PE} (hx : x = "nsmallest") (hn : c.fns[i]? = some x) (hk : c.sc.lookup x = some .globalImplicit) (hs : CEs c [e1, e2] [a, b]) : CE c (.Call (.Name x p) [e1, e2] [] q) (.ucalld i a b) := by
  intro prog w h₀ mg mb Φ n A s σ env own F Q X v
  subst hx
  obtain ⟨fv, g1, fa, o, fd, rfl, g2, g3, call⟩ := X.NM.fn i _ hn
  refine Call_Name rfl (load_glob X.G X.w X.f hk (by decide) (.inl g1) ?_)
  refine callWith_function_kw (o := o) (fd := fd) (evalArgs_ces hs (wpAny_mono (sEs (Q := fun vs σ => ∃ x y, vs = [x, y] ∧ Φ i [x, y, .none] Q σ) hs X v) (fun vs s₁ => PVs.on fun xs σ₁ rs st m₁ ⟨x, y, ex, q⟩ => ?_) fun _ _ f => f))
  subst ex
  obtain ⟨vx, vy, rfl, r1, r2⟩ := two_rep rs
  refine ⟨⟨st.w.stays _ _ g2, g3⟩, ?_⟩
  exact wpAny_mono (call A s₁ σ₁ fa o ⟨[vx, vy], []⟩ [vx, vy, .none] [x, y, .none] Q (st.w.stays _ _ g2) g3 (fun binds hb => (X.NM.kv fa o fd g1 g2 g3 s₁ st.w.stays binds vx vy .none).2 hb) X.R.weak (X.fs.step st) st.w (.cons r1 (.cons r2 (.cons .none .nil))) q) (fun _ _ pv => pv.back st m₁) fun _ _ f => f
theorem Call_NameK {M : Model} {A : Around} {E : Value → Shared → Prop} {s : Shared} {env : Env} {x : Str} {p pos : Pos} {args : List Expr} {kws : List Keyword} {Q : Value → Shared → Prop}
    (h : wpAny M A (eval (.Name x p) env) (fun f s₁ => wpAny M A (callWith pos f [] (backTo pos (starEach args env)) (backToKw pos (keywordEach kws env))) Q E s₁) E s) :
    wpAny M A (eval (.Call (.Name x p) args kws pos) env) Q E s := wpAny_bind h
theorem CE.ucallk {x : Str} {i : Nat} {e1 e2 e3 : Expr} {kp : Pos} {a b k : PE} (hx : x = "nsmallest") (hn : c.fns[i]? = some x) (hk : c.sc.lookup x = some .globalImplicit) (hs : CEs c [e1, e2] [a, b]) (hk3 : CE c e3 k) : CE c (.Call (.Name x p) [e1, e2] [⟨some "key", e3, kp⟩] q) (.ucallk i a b k) := by
  intro prog w h₀ mg mb Φ n A s σ env own F Q X v
  subst hx
  obtain ⟨fv, g1, fa, o, fd, rfl, g2, g3, call⟩ := X.NM.fn i _ hn
  refine Call_NameK (load_glob X.G X.w X.f hk (by decide) (.inl g1) ?_)
  refine callWith_function_kw (o := o) (fd := fd) ?_
  cases hs with
  | cons h1 h2 hst =>
  have hs' : CEs c [e1, e2] [a, b] := .cons h1 h2 hst
  have key := sEs (pos := q) (Q := fun vs σ => ∃ x y, vs = [x, y] ∧ vE Φ k (fun u σ => Φ i [x, y, u] Q σ) F σ) hs' X v
  rw [hst env] at key ⊢
  refine evalArgs_kwB rfl (wpAny_mono key (fun vs s₁ => PVs.on fun xs σ₁ rs st m₁ ⟨x, y, ex, q⟩ => ?_) fun _ _ f => f)
  subst ex
  obtain ⟨vx, vy, rfl, r1, r2⟩ := two_rep rs
  refine kws_cons (wpAny_mono (hk3 (X.step st) q) (fun u s₂ => PV.on fun z σ₂ rz st₂ m₂ q₂ => kws_nil ?_) fun _ _ f => f)
  have st12 := st.trans st₂
  refine ⟨⟨st12.w.stays _ _ g2, g3⟩, ?_⟩
  exact wpAny_mono (call A s₂ σ₂ fa o ⟨[vx, vy], [("key", u)]⟩ [vx, vy, u] [x, y, z] Q (st12.w.stays _ _ g2) g3 (fun binds hb => (X.NM.kv fa o fd g1 g2 g3 s₂ st12.w.stays binds vx vy u).1 hb) X.R.weak (X.fs.step st12) st12.w (.cons (r1.step st₂) (.cons (r2.step st₂) (.cons rz .nil))) q₂) (fun _ _ pv => pv.back st12 (m₁.trans m₂)) fun _ _ f => f
end

/-! K2 -/
/-! iterators under the abstract heap -/
section
variable {prog : Program} {w : World} {A : Around} {s : Shared}
theorem next_list_end {E : Value → Shared → Prop} {it l : Addr} {i : Nat} {items : Array Value} {Q : Option Value → Shared → Prop} (hh : A.handled = none)
    (hit : s.heap.IsListIter it l i) (hl : s.heap.IsList l items) (hx : items[i]? = none)
    (hQ : ∀ h' o, Heap.ExtBut it s.heap h' → h'.get? it = some o → o.cls = .type "list_iterator" → o.data = .fields #[.none, .int i 0] → Q none { s with heap := h' }) : wpAny (model prog w) A (pyNext (.ref it)) Q E s := by
  obtain ⟨o, ho, hc, hd⟩ := id hit
  obtain ⟨ol, hol, _, nl, hdl⟩ := hl
  unfold pyNext
  refine wpAny_bind (wpAny_attempt (wpAny_callSpecial?_slot (name := Str.ofString "__next__") hit.typeIs slot_listiter_next
    (wpAny_call_entry slot_listiter_next hit.typeIs entry_listiter_next ?_ (args_listiter_next _))))
  show wpAny _ _ (field (.ref it) 0 >>= _) _ _ s
  refine wpAny_bind (wpAny_field ho hd (x := .ref l) rfl ?_)
  show wpAny _ _ (if (Value.ref l == Value.none) = true then _ else _) _ _ s
  rw [if_neg (show ¬ ((Value.ref l == Value.none) = true) from Bool.false_ne_true)]
  show wpAny _ _ (field (.ref it) 1 >>= _) _ _ s
  refine wpAny_bind (wpAny_field ho hd (x := .int i 0) rfl ?_)
  show wpAny _ _ (seqItems? (.ref l) >>= _) _ _ s
  refine wpAny_bind (wpAny_seqItems hol hdl ?_)
  simp only [Int.toNat_natCast, hx]
  refine wpAny_bind (wpAny_rule (wpAny_bind (wpAny_setField ho hd (by simp) ?_)))
  show wpAny _ _ (newExc (.type "StopIteration") [] >>= _) _ _ _
  refine wpAny_bind ?_
  simp only [newExc, newTuple]
  refine wpAny_bind (wpAny_newObj_type ?_ (by size_fits))
  refine wpAny_bind (m := firstArgMember _ _) (wpAny_of_eq (a := Value.none) (by first | rfl | (simp only [firstArgMember]; rfl)) ?_)
  refine wpAny_newObj_type ?_ (by size_fits)
  simp only [raiseNew]
  refine wpAny_bind (wpAny_handled ?_)
  rw [show A.in1.handled = none from hh]
  refine wpAny_bind (wpAny_pure (wpAny_throw ?_))
  refine wpAny_bind (wpAny_isInstance (T := "StopIteration") (b := true) ⟨_, Heap.get?_push_size _ rfl, rfl⟩ isSubtype_stop ?_)
  have hd' := Obj.data_mapFields hd (·.setIfInBounds 0 Value.none)
  refine wpAny_pure (hQ _ _ (((Heap.SameBut.update ..).extBut.push _).push _) (Heap.get?_push_of_some _ (Heap.get?_push_of_some _ (Heap.get?_update_self _ ho (Obj.isFreed_of_fields hd')))) ((Obj.cls_mapFields ..).trans hc) (by rw [hd']; rfl))
theorem next_list_dead {E : Value → Shared → Prop} {it : Addr} {i : Nat} {o : Obj} {Q : Option Value → Shared → Prop} (hh : A.handled = none)
    (ho : s.heap.get? it = some o) (hc : o.cls = .type "list_iterator") (hd : o.data = .fields #[.none, .int i 0])
    (hQ : ∀ h', (∀ b o, s.heap.get? b = some o → h'.get? b = some o) → Q none { s with heap := h' }) : wpAny (model prog w) A (pyNext (.ref it)) Q E s := by
  have hT : s.TypeIs (.ref it) "list_iterator" := ⟨o, ho, hc⟩
  unfold pyNext
  refine wpAny_bind (wpAny_attempt (wpAny_callSpecial?_slot (name := Str.ofString "__next__") hT slot_listiter_next
    (wpAny_call_entry slot_listiter_next hT entry_listiter_next ?_ (args_listiter_next _))))
  show wpAny _ _ (field (.ref it) 0 >>= _) _ _ s
  refine wpAny_bind (wpAny_field ho hd (x := .none) rfl ?_)
  show wpAny _ _ (if (Value.none == Value.none) = true then _ else _) _ _ s
  rw [if_pos (show (Value.none == Value.none) = true from rfl)]
  refine wpAny_bind (wpAny_rule (wpAny_bind ?_))
  show wpAny _ _ (newExc (.type "StopIteration") [] >>= _) _ _ _
  refine wpAny_bind ?_
  simp only [newExc, newTuple]
  refine wpAny_bind (wpAny_newObj_type ?_ (by size_fits))
  refine wpAny_bind (m := firstArgMember _ _) (wpAny_of_eq (a := Value.none) (by first | rfl | (simp only [firstArgMember]; rfl)) ?_)
  refine wpAny_newObj_type ?_ (by size_fits)
  simp only [raiseNew]
  refine wpAny_bind (wpAny_handled ?_)
  rw [show A.in1.handled = none from hh]
  refine wpAny_bind (wpAny_pure (wpAny_throw ?_))
  refine wpAny_bind (wpAny_isInstance (T := "StopIteration") (b := true) ⟨_, Heap.get?_push_size _ rfl, rfl⟩ isSubtype_stop ?_)
  exact wpAny_pure (hQ _ fun b o e => Heap.get?_push_of_some _ (Heap.get?_push_of_some _ e))
end
/-- what the next of an iterator is -/
noncomputable def itStep (σ : Hp) (a : Addr) : Option (Option V × Hp) :=
  match σ a with
  | some (.iter (some l) i) => (match listAt σ l with
    | some xs => (match xs[i]? with | some x => some (some x, upd σ a (.iter (some l) (i + 1))) | none => some (none, upd σ a (.iter none i)))
    | none => none)
  | some (.iter none i) => some (none, σ)
  | _ => none
section
variable {prog : Program} {w : World} {A : Around} {s : Shared} {h₀ : Heap} {σ σ' : Hp}
theorem itStep_some {a : Addr} {x : V} (hw : W h₀ σ s.heap) (h : itStep σ a = some (some x, σ')) {E : Value → Shared → Prop} {Q : Option Value → Shared → Prop}
    (q : ∀ v s', Rep s'.heap v x → Step h₀ σ s.heap σ' s'.heap → Sm s s' → Q (some v) s') : wpAny (model prog w) A (pyNext (.ref a)) Q E s := by
  unfold itStep at h
  split at h
  · rename_i l i ea
    split at h
    · rename_i xs el
      split at h
      · rename_i y ey
        cases h
        have hi : s.heap.IsListIter a l i := hw.holds _ _ ea
        obtain ⟨vs, hl, r⟩ := hw.list el
        obtain ⟨v, ev, rv⟩ := r.get ey
        refine wpAny_pyNext_list_item hi hl (by simpa using ev) fun h' hi' sb => ?_
        have st : Step h₀ σ s.heap (upd σ a (.iter (some l) (i + 1))) h' := hw.change ⟨_, ea, rfl⟩ sb.extBut (fun _ => hi') trivial
        exact q v _ (rv.step st) st ⟨rfl, rfl⟩
      · cases h
    · cases h
  · cases h
  · cases h
theorem itStep_none {a : Addr} (hh : A.handled = none) (hw : W h₀ σ s.heap) (h : itStep σ a = some (none, σ')) {E : Value → Shared → Prop} {Q : Option Value → Shared → Prop}
    (q : ∀ s', Step h₀ σ s.heap σ' s'.heap → Sm s s' → Q none s') : wpAny (model prog w) A (pyNext (.ref a)) Q E s := by
  unfold itStep at h
  split at h
  · rename_i l i ea
    split at h
    · rename_i xs el
      split at h
      · cases h
      · rename_i ey
        cases h
        have hi : s.heap.IsListIter a l i := hw.holds _ _ ea
        obtain ⟨vs, hl, r⟩ := hw.list el
        have ev : vs[i]? = none := by rw [List.getElem?_eq_none_iff] at ey ⊢; rw [r.length]; exact ey
        refine next_list_end hh hi hl (by simpa using ev) fun h' o eb go c d => ?_
        exact q _ (hw.change ⟨_, ea, rfl⟩ eb (fun _ => ⟨o, go, c, d⟩) trivial) ⟨rfl, rfl⟩
    · cases h
  · rename_i i ea
    cases h
    obtain ⟨o, ho, hc, hd⟩ := hw.holds _ _ ea
    exact next_list_dead hh ho hc hd fun h' k => q _ (hw.extend k) ⟨rfl, rfl⟩
  · cases h
theorem iter_self {a : Addr} {l : Option Addr} {i : Nat} (hw : W h₀ σ s.heap) (e : σ a = some (.iter l i)) {E : Value → Shared → Prop} {Q : Value → Shared → Prop} (q : Q (.ref a) s) : wpAny (model prog w) A (pyIter (.ref a)) Q E s := by
  have : ∃ o, s.heap.get? a = some o ∧ o.cls = .type "list_iterator" := by
    have := hw.holds _ _ e
    cases l with
    | none => obtain ⟨o, h1, h2, _⟩ := this; exact ⟨o, h1, h2⟩
    | some l => obtain ⟨o, h1, h2, _⟩ := this; exact ⟨o, h1, h2⟩
  have hT : s.TypeIs (.ref a) "list_iterator" := this
  refine wpAny_pyIter_slot hT slot_listiter_iter (wpAny_call_entry slot_listiter_iter hT entry_listiter_iter ?_ (args_listiter_iter _))
  show wpAny _ _ (ret (.ref a)) _ _ s
  exact wpAny_pure ⟨_, rfl, "list_iterator", _, hT, slot_listiter_next.lookup, q⟩
theorem letGo_iter {a : Addr} {l : Option Addr} {i : Nat} {t : Expr} {y : Value} (hw : W h₀ σ s.heap) (e : σ a = some (.iter l i)) {E : Value → Shared → Prop} {Q : Unit → Shared → Prop} (q : Q () s) : wpAny (model prog w) A (letOwnedTupleGo t (.ref a) y) Q E s := by
  have := hw.holds _ _ e
  cases l with
  | none => obtain ⟨o, h1, h2, h3⟩ := this; exact letGo_at h1 h2 h3 (by decide) q
  | some l => obtain ⟨o, h1, h2, h3⟩ := this; exact letGo_at h1 h2 h3 (by decide) q
end
section
variable {σ : Hp} {Q : V → Hp → Prop}
theorem call_iter_list {a : Addr} {xs : List V} (e : listAt σ a = some xs) (q : ∀ b, σ b = none → Q (.ref b) (upd σ b (.iter (some a) 0))) : opCall .iter [.ref a] Q σ := by
  refine CallS.mk ?_
  intro prog w A s h₀ mg mb n vargs G R ra hw
  obtain ⟨v, rfl, r⟩ := one_rep ra; obtain rfl := r.iref
  obtain ⟨vs, hl, r⟩ := hw.list e
  refine Calls.call_function_entry (by decide +kernel) (by decide +kernel) kdk_entry_iter (kdk_args_iter _) ?_
  unfold Builtin.«iter»
  refine wpAny_bind (m := someArgs "iter" 1 2 _) (wpAny_of_eq (a := [Value.ref a]) (by first | rfl | kernel_rfl!) ?_)
  show wpAny _ _ (pyIter (.ref a) >>= _) _ _ _
  refine wpAny_bind (wpAny_pyIter_list hl ?_)
  have st : Step h₀ σ s.heap (upd σ s.heap.objs.size (.iter (some a) 0)) _ := hw.alloc (h' := s.heap.push { cls := .type "list_iterator", data := .fields #[.ref a, .int 0 0] }) (fun b o e => Heap.get?_push_of_some _ e) (get_push_none _) ⟨_, Heap.get?_push_size _ rfl, rfl, rfl⟩ trivial
  exact wpAny_pure ⟨_, rfl, _, _, .ref _, ⟨st, rfl, rfl⟩, q _ (hw.fresh (get_push_none _))⟩
theorem call_iter_iter {a : Addr} {l : Option Addr} {i : Nat} (e : σ a = some (.iter l i)) (q : Q (.ref a) σ) : opCall .iter [.ref a] Q σ := by
  refine CallS.mk ?_
  intro prog w A s h₀ mg mb n vargs G R ra hw
  obtain ⟨v, rfl, r⟩ := one_rep ra; obtain rfl := r.iref
  refine Calls.call_function_entry (by decide +kernel) (by decide +kernel) kdk_entry_iter (kdk_args_iter _) ?_
  unfold Builtin.«iter»
  refine wpAny_bind (m := someArgs "iter" 1 2 _) (wpAny_of_eq (a := [Value.ref a]) (by first | rfl | kernel_rfl!) ?_)
  show wpAny _ _ (pyIter (.ref a) >>= _) _ _ _
  refine wpAny_bind (iter_self hw e ?_)
  exact wpAny_pure ⟨_, rfl, PV.same' hw (.ref _) q⟩
end
/-- a loop over an iterator that is there -/
inductive ForX (Φ : Fns) (b : List PS) (i : Nat) (Q : Fl → Frm → Hp → Prop) (a : Addr) (F : Frm) (σ : Hp) : Prop
  | mk (Inv : Nat → Frm → Hp → Prop) (h1 : (∃ n, Inv n F σ)) (h2 : ∀ n F σ, Inv n F σ →
        match itStep σ a with
        | none => False
        | some (none, σ') => Q .next F σ'
        | some (some x, σ') => vSs Φ b (fun fl F σ => match fl with
          | .next => ∃ m, m < n ∧ Inv m F σ
          | .cont => ∃ m, m < n ∧ Inv m F σ
          | .brk => Q .next F σ
          | .ret v => Q (.ret v) F σ) (F.set i (some x)) σ') : ForX Φ b i Q a F σ
noncomputable def PS.forx (i : Nat) (it : PE) (b : List PS) : PS := fun Φ R F σ => vE Φ it (fun x σ => ∃ a l k, x = .ref a ∧ σ a = some (.iter l k) ∧ ForX Φ b i R a F σ) F σ
theorem s_forx (Φ : Fns) (R : Fl → Frm → Hp → Prop) (F : Frm) (σ : Hp) (i : Nat) (it : PE) (b : List PS) : vS Φ (.forx i it b) R F σ = vE Φ it (fun x σ => ∃ a l k, x = .ref a ∧ σ a = some (.iter l k) ∧ ForX Φ b i R a F σ) F σ := rfl
theorem itStep_iter {σ σ' : Hp} {a : Addr} {x : Option V} (h : itStep σ a = some (x, σ')) : ∃ l k, σ' a = some (.iter l k) := by
  unfold itStep at h
  split at h
  · split at h
    · split at h
      · cases h; exact ⟨_, _, upd_same _ _ _⟩
      · cases h; exact ⟨_, _, upd_same _ _ _⟩
    · cases h
  · rename_i e; cases h; exact ⟨_, _, e⟩
  · cases h
theorem CS.forx {c : Cfg} {p q : Pos} {x : Str} {i : Nat} {it : Expr} {l : List Stmt} {a : PE} {b : List PS} (hx : c.names[i]? = some x) (nf : c.sc.lookup x ≠ some .free) (hit : CE c it a) (hs : ∀ env x, foldedSetIterable it env x = pure x) (hl : CSs c l b) : CS c (.For (.Name x q) it l [] p) (.forx i a b) := by
  intro prog w h₀ mg mb Φ n A s σ env own F Q X T v
  refine wpAny_For (wpAny_mono (hit X v) (fun y s₁ => PV.on fun z σ₁ rz st m₁ ⟨ad, l0, k0, ez, eσ, Inv, ⟨n0, hi⟩, hinv⟩ => ?_) fun _ _ f => f) (hs env)
  subst ez
  obtain rfl := rz.iref
  refine iter_self st.w eσ ?_
  have e0 : ∀ (E : Value → Shared → Prop) e s, E0 e s → E e s := fun _ _ _ f => f.elim
  refine codeAny_forLoop_any (fun n s' => ∃ F σ', Sm s s' ∧ Inv n F σ' ∧ FrOk c env own F h₀ σ' s'.heap ∧ StepX own h₀ σ s.heap σ' s'.heap) (fun n s' hI => ?_) n0 ⟨F, σ₁, m₁, hi, X.f.step st, Step.any st⟩
  obtain ⟨F, σ', mI, hi, fr, stI⟩ := hI
  have q := hinv n F σ' hi
  split at q
  · exact q.elim
  · rename_i σ2 hn
    refine itStep_none X.R.handled stI.w hn fun s'' st2 m2 => wpAny_execs_nil ?_
    exact ⟨.next, F, σ2, trivial, ⟨stI.trans (Step.any st2), mI.trans m2⟩, fr.step st2, q⟩
  · rename_i xx σ2 hn
    obtain ⟨l1, k1, e1⟩ := itStep_iter hn
    refine itStep_some stI.w hn fun y s₂ ry st2 m2 => letGo_iter st2.w e1 (wpAny_assign_Name ((fr.step st2).store st2.w hx nf ry fun s₃ m3 stx f1 => ?_))
    have all := (stI.trans (Step.any st2)).trans stx
    refine wpAny_mono (hl ⟨X.G, X.NM, X.R, stx.w, f1, X.fs.step all⟩ T q) (fun f s₄ ⟨fl, F4, σ4, rf, ⟨st4, m4⟩, fr4, q4⟩ => ?_) (e0 _)
    have all4 := all.trans st4
    have mm := ((mI.trans m2).trans m3).trans m4
    cases f with
    | next => cases fl <;> first | exact rf.elim | (obtain ⟨m, hm, q5⟩ := q4; exact ⟨m, hm, F4, σ4, mm, q5, fr4, all4⟩)
    | cont => cases fl <;> first | exact rf.elim | (obtain ⟨m, hm, q5⟩ := q4; exact ⟨m, hm, F4, σ4, mm, q5, fr4, all4⟩)
    | brk => cases fl <;> first | exact rf.elim | exact ⟨.next, F4, σ4, trivial, ⟨all4, mm⟩, fr4, q4⟩
    | ret v => cases fl <;> first | exact rf.elim | exact ⟨.ret _, F4, σ4, rf, ⟨all4, mm⟩, fr4, q4⟩

/-! K3 -/
theorem nolen : typeLookup (.type "list_iterator") (Str.ofString "__len__") = pure none := by rw [typeLookup_type, builtinLookup_eq_fast]; kernel_rfl
section
variable {prog : Program} {w : World} {A : Around} {s : Shared}
theorem typeName_listiter {E : Value → Shared → Prop} {it : Addr} {Q : String → Shared → Prop} (hT : s.TypeIs (.ref it) "list_iterator") (h : Q "list_iterator" s) : wpAny (model prog w) A (PySem.typeNameOf (.ref it)) Q E s := by
  unfold PySem.typeNameOf shownTypeOf
  refine wpAny_bind (wpAny_bind (wpAny_typeOf hT ?_))
  simp only [show (Value.type "list_iterator" == Value.type "builtin_function_or_method") = false by decide, Bool.false_eq_true, if_false]
  refine wpAny_pure ?_
  have e : typeName (.type "list_iterator") = pure "list_iterator" := by unfold typeName; rw [find?_eq_fast]; kernel_rfl
  rw [e]; exact wpAny_pure h
theorem len_raises {E : Value → Shared → Prop} {it : Addr} {Q : Value → Shared → Prop} (hh : A.handled = none) (hT : s.TypeIs (.ref it) "list_iterator")
    (h : ∀ h' tk e, Heap.NewExc s.heap h' e "TypeError" → E (.ref e) { s with heap := h', toks := tk }) : wpAny (model prog w) A (call (.builtin "len") [.ref it]) Q E s := by
  refine Calls.call_function_entry kind_len plain_len entry_len (args_len1 _) ?_
  show wpAny _ _ (callSpecial? (.ref it) (Str.ofString "__len__") >>= _) _ _ _
  refine wpAny_bind (wpAny_callSpecial?_none hT nolen ?_)
  refine wpAny_bind (wpAny_rule ?_)
  refine wpAny_bind (typeName_listiter hT ?_)
  exact wpAny_raiseErrorMade plainExc_TypeError hh h (by decide +kernel)
end
/-! the heap without the frames -/
noncomputable def hide (L : Addr) (h : Heap) : Heap := h.update L fun o => { o with data := .freed }
theorem hide_self (L : Addr) (h : Heap) : (hide L h).get? L = none := by
  obtain ⟨objs, l⟩ := h
  unfold hide Heap.update Heap.get?
  simp only [Array.getElem?_modify, if_true]
  cases objs[L]? <;> rfl
theorem hide_other {L b : Addr} (h : Heap) (n : b ≠ L) : (hide L h).get? b = h.get? b := Heap.get?_update_other _ _ (Ne.symm n)
noncomputable def hideAll : List Addr → Heap → Heap
  | [], h => h
  | L :: Ls, h => hide L (hideAll Ls h)
theorem hideAll_in {b : Addr} (Ls : List Addr) {h : Heap} (m : b ∈ Ls) : (hideAll Ls h).get? b = none := by
  induction Ls with
  | nil => cases m
  | cons L Ls ih =>
    by_cases e : b = L
    · rw [e]; exact hide_self _ _
    · show (hide L (hideAll Ls h)).get? b = none
      rw [hide_other _ e]
      rcases List.mem_cons.mp m with q | q
      · exact absurd q e
      · exact ih q
theorem hideAll_out {b : Addr} : ∀ {Ls : List Addr} {h : Heap}, b ∉ Ls → (hideAll Ls h).get? b = h.get? b
  | [], h, _ => rfl
  | L :: Ls, h, m => by
    show (hide L (hideAll Ls h)).get? b = _
    rw [hide_other _ (fun e => m (by rw [e]; exact .head _))]; exact hideAll_out fun q => m (.tail _ q)
theorem hideAll_some {b : Addr} {o : Obj} {Ls : List Addr} {h : Heap} (e : (hideAll Ls h).get? b = some o) : h.get? b = some o ∧ b ∉ Ls := by
  by_cases m : b ∈ Ls
  · rw [hideAll_in _ m] at e; cases e
  · rw [hideAll_out m] at e; exact ⟨e, m⟩
/-- all stands but the slots of the frames -/
theorem quiet_step {h₀ : Heap} {σ : Hp} {h h' : Heap} {Ls : List Addr} (hw : W h₀ σ h) (hL : ∀ L ∈ Ls, h₀.get? L = none ∧ σ L = none ∧ ∃ o, h.get? L = some o ∧ IsD o) (k : (hideAll Ls h).StaysIn h')
    (d : ∀ b o, h.get? b = some o → IsD o → ∃ sl, h'.get? b = some { o with slots := sl }) : Step h₀ σ h σ h' := by
  have out : ∀ b o, b ∉ Ls → h.get? b = some o → h'.get? b = some o := fun b o n e => k b o (by rw [hideAll_out n]; exact e)
  have nD : ∀ b o, h.get? b = some o → ¬ IsD o → b ∉ Ls := fun b o e n m => by
    obtain ⟨_, _, o', e', d'⟩ := hL b m
    rw [e] at e'; cases e'; exact n d'
  have tups : Tups h h' := fun a o e i => out a o (nD a o e fun ⟨es, n, q⟩ => by
    rcases i with ⟨_, _, _, i⟩ | ⟨_, _, i⟩ | ⟨_, i⟩ | i <;> rw [q] at i <;> cases i) e
  refine ⟨⟨fun b o e => out b o (fun m => by rw [(hL b m).1] at e; cases e) (hw.stays b o e), fun a o e => ?_, hw.above, hw.small⟩, fun a o _ _ n e => out a o (nD a o e n) e, fun a o _ _ q e => d a o e q, .refl _ _, tups, fun a o e => ?_⟩
  · have na : a ∉ Ls := fun m => by rw [(hL a m).2.1] at e; cases e
    have x := hw.holds a o e
    cases o with
    | list xs => obtain ⟨vs, n, e2, rr⟩ := x; exact ⟨vs, n, out _ _ na e2, rr.tups tups⟩
    | flist xs => obtain ⟨vs, ⟨o2, e2, r⟩, rr⟩ := x; exact ⟨vs, ⟨o2, out _ _ na e2, r⟩, rr.tups tups⟩
    | iter l i => cases l <;> (obtain ⟨o2, e2, r⟩ := x; exact ⟨o2, out _ _ na e2, r⟩)
  · by_cases q : IsD o
    · obtain ⟨sl, e'⟩ := d a o e q
      exact ⟨_, e', fun _ => q⟩
    · exact ⟨o, out a o (nD a o e q) e, id⟩
noncomputable def frameOfs (l : List Env) : List Addr := l.filterMap (·.frame)
theorem funFrames {h base : Heap} : ∀ {l : List Env}, (∀ env ∈ l, env.scope.kind ≠ .module ∧ ∃ L, env.frame = some L ∧ base.get? L = none ∧ ∃ o, h.get? L = some o ∧ IsD o) → h.FunFrames base l
  | [], _ => trivial
  | env :: l, q => by
    obtain ⟨k, L, e1, e2, o, e3, es, n, e4⟩ := q env (.head _)
    exact ⟨k, ⟨L, o, e1, e2, e3, fun vs d => by rw [e4] at d; cases d⟩, funFrames fun e m => q e (.tail _ m)⟩
theorem TypeError_boot : bootBuiltins ("TypeError" : Str) = some (.type "TypeError") := by decide +kernel
theorem AttributeError_boot : bootBuiltins ("AttributeError" : Str) = some (.type "AttributeError") := by decide +kernel
noncomputable def PS.tryLen (i j : Nat) (orelse : List PS) : PS := fun Φ R F σ => look F j (fun v => (∃ a xs, v = .ref a ∧ listAt σ a = some xs ∧ vSs Φ orelse R (F.set i (some (.int xs.length))) σ) ∨ (∃ a l k, v = .ref a ∧ σ a = some (.iter l k) ∧ R .next F σ))
theorem s_tryLen (Φ : Fns) (R : Fl → Frm → Hp → Prop) (F : Frm) (σ : Hp) (i j : Nat) (orelse : List PS) : vS Φ (.tryLen i j orelse) R F σ = look F j (fun v => (∃ a xs, v = .ref a ∧ listAt σ a = some xs ∧ vSs Φ orelse R (F.set i (some (.int xs.length))) σ) ∨ (∃ a l k, v = .ref a ∧ σ a = some (.iter l k) ∧ R .next F σ)) := rfl
theorem CS.tryLen {c : Cfg} {x y : Str} {i j : Nat} {p1 p2 p3 p4 p5 p6 p7 p8 p9 p10 p11 : Pos} {k : Nat} {orelse : List Stmt} {ps : List PS} (hx : c.names[i]? = some x) (nf : c.sc.lookup x ≠ some .free) (hy : c.names[j]? = some y) (hyd : (y == ("__debug__" : Str)) = false) (hcd : (y == ("__classdict__" : Str)) = false)
    (kl : c.sc.lookup ("len" : Str) = some .globalImplicit) (kt : c.sc.lookup ("TypeError" : Str) = some .globalImplicit) (ka : c.sc.lookup ("AttributeError" : Str) = some .globalImplicit) (ho : CSs c orelse ps)
    (hsw : ∀ env, swapsWith (.Call (.Name "len" p3) [.Name y p4] [] p5) (some (.Name x p2)) p1.line env = pure false) :
    CS c (.Try [.Assign [.Name x p2] (.Call (.Name "len" p3) [.Name y p4] [] p5) p1] [.ExceptHandler (some (.Tuple [.Name "TypeError" p6, .Name "AttributeError" p7] k p8)) none [.Pass p9] p10] orelse [] p11) (.tryLen i j ps) := by
  intro prog w h₀ mg mb Φ n A s σ env own F Q X T v
  obtain ⟨u, hu, v⟩ := look_some v
  have hces : CEs c [.Name y p4] [.var j] := .cons (CE.var hy hyd hcd) .nil (fun _ => rfl)
  rcases v with ⟨a, xs, rfl, el, v⟩ | ⟨a, l, k0, rfl, ei, v⟩
  · refine wpAny_Try_except (wpAny_execs_cons (wpAny_Assign_Name (wpAny_mono (CE.call (f := .len) rfl kl hces X (Q := fun v σ' => vSs Φ ps Q (F.set i (some v)) σ') ?_) (fun r s₂ => PV.on fun z σ₂ rz st2 m2 q2 => ?_) fun _ _ f => f.elim) (hsw env)))
    · show look F j (fun v => opCall .len [v] _ σ)
      unfold look; rw [hu]; exact call_len el v
    refine ((X.f.step st2).store st2.w hx nf rz fun s₃ m3 st3 f3 => ?_)
    refine wpAny_execs_nil (wpAny_mono (ho ⟨X.G, X.NM, X.R, st3.w, f3, X.fs.step ((Step.any st2).trans st3)⟩ T q2) (fun _ _ pv => pv.back ((Step.any st2).trans st3) (m2.trans m3)) fun _ _ f => f)
  · obtain ⟨lf, hfr⟩ := T
    obtain ⟨l', hfr', hall⟩ := X.fs.go
    rw [hfr] at hfr'
    cases hfr'
    have hiter : s.TypeIs (.ref a) "list_iterator" := by
      have := X.w.holds _ _ ei
      cases l with
      | none => obtain ⟨o, h1, h2, _⟩ := this; exact ⟨o, h1, h2⟩
      | some l => obtain ⟨o, h1, h2, _⟩ := this; exact ⟨o, h1, h2⟩
    refine wpAny_Try_except (wpAny_execs_cons (wpAny_Assign_Name (Call_Name rfl (load_glob X.G X.w X.f kl (by decide) (.inr ⟨X.NM.fr _ (by decide +kernel), (X.G.boot _ (by decide)).trans (BI.boot .len)⟩) ?_)) (hsw env)))
    refine callee_bi (f := .len) hces (Calls.spliced_cons (wpAny_Name (X.f.load hy hu hcd fun va ra => Calls.spliced_nil ?_) hyd))
    obtain rfl := ra.iref
    refine len_raises X.R.handled hiter fun h1 tk e ne => ?_
    obtain ⟨ob, t0, he, hcl, hd⟩ := ne.there
    have inLs : ∀ en ∈ env :: lf, ∀ L, en.frame = some L → L ∈ frameOfs (env :: lf) := fun en me L eL => List.mem_filterMap.mpr ⟨en, me, eL⟩
    have hL : ∀ L ∈ frameOfs (env :: lf), h₀.get? L = none ∧ σ L = none ∧ ∃ o, s.heap.get? L = some o ∧ IsD o := fun L mL => by
      obtain ⟨en, me, eL⟩ := List.mem_filterMap.mp mL
      obtain ⟨_, L', e1, e2, e3, e4⟩ := hall en me
      rw [eL] at e1; cases e1; exact ⟨e2, e3, e4⟩
    have hkb : (hideAll (frameOfs (env :: lf)) s.heap).StaysIn h1 := fun b o q => ne.keeps b o (hideAll_some q).1
    have hen : (hideAll (frameOfs (env :: lf)) s.heap).get? e = none := by
      cases q : (hideAll (frameOfs (env :: lf)) s.heap).get? e with
      | none => rfl
      | some o => have := (hideAll_some q).1; rw [ne.new] at this; cases this
    have hl : h1.FunFrames (hideAll (frameOfs (env :: lf)) s.heap) (env :: lf) := funFrames fun en me => by
      obtain ⟨k, L, e1, e2, e3, o, e4, e5⟩ := hall en me
      exact ⟨k, L, e1, hideAll_in _ (inLs en me L e1), o, ne.keeps _ _ e4, e5⟩
    obtain ⟨_, L, hf, _⟩ := hall env (.head _)
    generalize hbase : hideAll (frameOfs (env :: lf)) s.heap = base at *
    show wpAny _ A (noteFrame (.ref e) env) _ _ _
    unfold noteFrame
    simp only [hf]
    refine wpAny_bind (wpAny_field he hd (x := .none) rfl ?_)
    rw [if_neg (by decide)]
    refine wpAny_entryW hfr hl hf he hkb hen hd (by simp) (a0 := t0) rfl fun h2 ⟨k1, k2, k3, k4⟩ => ?_
    refine wpAny_setFlight_noneW k1 k2 k3 fun h3 j1 j2 j3 j4 => ?_
    have notF : ∀ o, IsD o → ∀ vs, o.data ≠ .fields vs := fun o ⟨_, _, q⟩ vs q2 => by rw [q] at q2; cases q2
    have d3 : ∀ b o, s.heap.get? b = some o → IsD o → ∃ sl, h3.get? b = some { o with slots := sl } := fun b o q dd => by
      obtain ⟨sl, q2⟩ := k4 b o (ne.keeps b o q) (notF o dd)
      exact ⟨sl, j4 b _ q2 (notF o dd)⟩
    have st3 : Step h₀ σ s.heap σ h3 := quiet_step X.w hL (by rw [hbase]; exact j1) d3
    have oe3 := j3
    obtain ⟨oe, vs, T0, oT, ts, g1, ⟨g2, g2'⟩, g3, g4, g5, g6, g7, g8, g9⟩ := oe3
    have fr3 := X.f.step st3
    have glob : ∀ {s' : Shared} {σ' : Hp} {x' : Str} {pp : Pos} {T' : String} {A' : Around} {Q' : Value → Shared → Prop} {E' : Value → Shared → Prop}, W h₀ σ' s'.heap → FrOk c env own F h₀ σ' s'.heap → c.sc.lookup x' = some .globalImplicit → (x' == ("__debug__" : Str)) = false → x' ∈ freeNames → x' ≠ "__name__" → bootBuiltins x' = some (.type T') → Q' (.type T') s' → wpAny (model prog w) A' (eval (.Name x' pp) env) Q' E' s' :=
      fun hw hf hk hdb hm hnn hb hq => load_glob X.G hw hf hk hdb (.inr ⟨X.NM.fr _ hm, (X.G.boot _ hnn).trans hb⟩) hq
    refine wpAny_handleBy_tup2 (X := "TypeError") (T1 := "TypeError") (T2 := "AttributeError") (b1 := true) (b2 := false) (by rw [isSubtype_type]; kernel_rfl) (by rw [isSubtype_type]; kernel_rfl) (by rw [isSubtype_type]; kernel_rfl) (by rw [isSubtype_type]; kernel_rfl) (by rw [isSubtype_type]; kernel_rfl) (by rw [isSubtype_type]; kernel_rfl) ?_
    refine wpAny_Tuple_spliced (Calls.spliced_cons (glob (s' := { s with heap := h3, toks := tk }) st3.w fr3 kt (by decide) (by decide +kernel) (by decide) TypeError_boot (Calls.spliced_cons (glob (s' := { s with heap := h3, toks := tk }) st3.w fr3 ka (by decide) (by decide +kernel) (by decide) AttributeError_boot (Calls.spliced_nil ?_)))))
    refine ⟨by decide, _, rfl, ⟨_, Heap.get?_push_size _ rfl, rfl, _, rfl⟩, ⟨_, Heap.get?_push_of_some _ g1, by rw [g2, hcl]⟩, ?_⟩
    rw [if_pos (show (true || false) = true from rfl)]
    generalize hh4 : h3.push { cls := .type "tuple", data := .seq [Value.type "TypeError", .type "AttributeError"].toArray } = h4
    have p4 : ∀ b o, h3.get? b = some o → h4.get? b = some o := fun b o q => by rw [← hh4]; exact Heap.get?_push_of_some _ q
    refine wpAny_setFlight_noneW (base := base) (l := env :: lf) (e := e) (cls := ob.cls) (a0 := t0) (fl := .none) (fun b o q => p4 b o (j1 b o q)) (j2.of_keeps fun b o q _ => ⟨o, p4 b o q, rfl⟩) ⟨oe, vs, T0, oT, ts, p4 _ _ g1, ⟨g2, g2'⟩, g3, g4, g5, g6, p4 _ _ g7, g8, g9⟩ fun h5 i1 i2 i3 i4 => ?_
    have st5 : Step h₀ σ s.heap σ h5 := quiet_step X.w hL (by rw [hbase]; exact i1) fun b o q dd => by
      obtain ⟨sl, q2⟩ := d3 b o q dd
      exact ⟨sl, i4 b _ (p4 b _ q2) (notF o dd)⟩
    have all := st5
    exact wpAny_execs_cons (wpAny_Pass (wpAny_execs_nil ⟨.next, F, σ, trivial, ⟨Step.any all, ⟨rfl, rfl⟩⟩, X.f.step all, v⟩))

/-! K4 -/
theorem mro_object : mroOf (.type "object") = pure [.type "object"] := by kernel_rfl
theorem lookup_object_new : typeLookup (.type "object") "__new__" = pure (some (.builtin "object.__new__")) := by rw [typeLookup_type, builtinLookup_eq_fast]; kernel_rfl
theorem called_object : TypeCalled "object" "object.__new__" "object.__init__" :=
  ⟨by decide +kernel, by decide +kernel, ⟨_, _, mro_object⟩, madeBy_type mro_object lookup_object_new (by decide +kernel), by decide +kernel, by rw [isSubtype_type]; kernel_rfl, PySem.F.slot_object_init⟩
theorem typeCall_object_0 : checkTypeCall "object" ⟨[], []⟩ = pure () := by kernel_rfl
theorem newCall_object_1 : checkBuiltinCall "object.__new__" ⟨[.type "object"], []⟩ = pure () := by kernel_rfl
noncomputable def objO : Obj := { cls := .type "object", dict := none, data := .plain }
theorem meets_object_new : Meets (Builtin.«object.__new__» ⟨[.type "object"], []⟩) (fun _ R s => R (.ok (.ret (.ref s.heap.objs.size))) { s with heap := s.heap.push objO }) :=
  .of_wp fun prog w A R s h => by
    obtain ⟨hp, g, d, tk, os⟩ := s
    have hsub : isSubtype (.type "object") (.type "object") = pure true := by rw [isSubtype_type]; kernel_rfl
    have hmade := called_object.made
    have hst : Bind.staticBase (.type "object") = pure (.type "object") := by first | rfl | kernel_rfl
    have hmh : Bind.madeHere "object.__new__" (.type "object") = pure () := by
      unfold Bind.madeHere
      rw [hst]
      simp only [pure_bind, hmade]
      rfl
    wp_walk using wpAny_of_eq hmh
    exact ⟨_, rfl, h⟩
theorem object_init_nil {v : Value} : Meets (Builtin.«object.__init__» ⟨[v], []⟩) (fun _ R s => R (.ok (.ret .none)) s) := Meets.of_wp fun prog w A R s hs => wpAny_pure ⟨_, rfl, hs⟩
section
variable {σ : Hp} {Q : V → Hp → Prop}
theorem call_object (q : ∀ a, σ a = none → Q (.obj a) σ) : opCall .object [] Q σ := by
  refine CallS.mk ?_
  intro prog w A s h₀ mg mb n vargs G R ra hw
  obtain rfl := ra.inil
  refine callType_meets called_object typeCall_object_0 newCall_object_1 PySem.F.objNew.entry PySem.F.entry_object_init meets_object_new (Q₁ := fun obj s₁ => obj = .ref s.heap.objs.size ∧ s₁ = { s with heap := s.heap.push objO }) ⟨rfl, rfl⟩ ?_
  rintro obj s₁ ⟨rfl, rfl⟩
  have st : Step h₀ σ s.heap σ (s.heap.push objO) := hw.extend fun b o e => Heap.get?_push_of_some _ e
  exact ⟨⟨_, Heap.get?_push_size _ rfl, rfl⟩, by unfold argsOk; kernel_rfl, _, object_init_nil, rfl, _, σ, .obj (Heap.get?_push_size _ rfl) rfl, ⟨st, rfl, rfl⟩, q _ (hw.fresh (get_push_none _))⟩
theorem is_int_obj {i : Int} {a : Addr} (q : Q (.bool false) σ) : opCmp .Is (.int i) (.obj a) Q σ := by
  refine CmpS.mk ?_
  intro prog w A s h₀ n va vb R ra rb hw
  obtain ⟨t, rfl⟩ := ra.iint; obtain ⟨o, rfl, _⟩ := rb.iobj
  exact wpAny_pure (PV.same' hw (.bool false) q)
theorem is_func_none {fd : FuncData} (q : Q (.bool false) σ) : opCmp .Is (.func fd) .none Q σ := by
  refine CmpS.mk ?_
  intro prog w A s h₀ n va vb R ra rb hw
  obtain rfl := rb.inone
  obtain ⟨fa, o, rfl, _⟩ := ra.ifunc
  exact is_ref_none (PV.same' hw (.bool _) q)
end

/-! Z1 -/
/-! zip of a range and of a list's iterator -/
section
variable {prog : Program} {w : World} {A : Around} {E : Value → Shared → Prop} {s : Shared}
theorem nextOf_range_item {it : Addr} {x left step : Int} {Q : Value → Shared → Prop} (hit : IsRangeIter s.heap it x left step) (hleft : 0 < left)
    (hQ : ∀ h', IsRangeIter h' it (x + step) (left - 1) step → Heap.SameBut it s.heap h' → Q (.int x s.toks) { s with heap := h', toks := s.toks + 1 }) :
    wpAny (model prog w) A (Builtin.SmallTypes.nextOf (.ref it)) Q E s := by
  have hT : s.TypeIs (.ref it) "range_iterator" := ⟨_, hit, rfl⟩
  unfold Builtin.SmallTypes.nextOf
  refine wpAny_bind (wpAny_callSpecial?_slot (name := Str.ofString "__next__") hT PySem.F.slot_range_iterator_next
    (call_meets PySem.F.slot_range_iterator_next hT PySem.F.entry_range_iterator_next (PySem.F.args_range_iterator_next_1 _) (AutoRange.range_iterator___next___range_iterator_1 it x left step (by omega)) ⟨hit, ?_⟩))
  exact wpAny_pure (hQ _ (Heap.get?_update_self _ (Heap.get?_update_self _ hit rfl) rfl) ((Heap.SameBut.update ..).trans (Heap.SameBut.update ..)))
theorem nextOf_range_end {it : Addr} {x left step : Int} {Q : Value → Shared → Prop} (hh : A.handled = none) (hit : IsRangeIter s.heap it x left step) (hleft : left ≤ 0)
    (hE : ∀ h' e, (∀ b o, s.heap.get? b = some o → h'.get? b = some o) → (∃ o, h'.get? e = some o ∧ o.cls = .type "StopIteration") → E (.ref e) { s with heap := h' }) : wpAny (model prog w) A (Builtin.SmallTypes.nextOf (.ref it)) Q E s := by
  have hT : s.TypeIs (.ref it) "range_iterator" := ⟨_, hit, rfl⟩
  unfold Builtin.SmallTypes.nextOf
  refine wpAny_bind (wpAny_callSpecial?_slot (name := Str.ofString "__next__") hT PySem.F.slot_range_iterator_next
    (wpAny_call_entry PySem.F.slot_range_iterator_next hT PySem.F.entry_range_iterator_next ?_ (PySem.F.args_range_iterator_next_1 _)))
  show wpAny _ _ (field (.ref it) 0 >>= _) _ _ s
  refine wpAny_bind (wpAny_field hit rfl (x := rawInt x) rfl ?_)
  show wpAny _ _ (field (.ref it) 1 >>= _) _ _ s
  refine wpAny_bind (wpAny_field hit rfl (x := rawInt left) rfl ?_)
  show wpAny _ _ (field (.ref it) 2 >>= _) _ _ s
  refine wpAny_bind (wpAny_field hit rfl (x := rawInt step) rfl ?_)
  show wpAny _ _ (if left ≤ 0 then _ else _) _ _ s
  rw [if_pos hleft]
  refine wpAny_bind (wpAny_rule (wpAny_bind ?_))
  show wpAny _ _ (newExc (.type "StopIteration") [] >>= _) _ _ _
  refine wpAny_bind ?_
  simp only [newExc, newTuple]
  refine wpAny_bind (wpAny_newObj_type ?_ (by size_fits))
  refine wpAny_bind (m := firstArgMember _ _) (wpAny_of_eq (a := Value.none) (by first | rfl | (simp only [firstArgMember]; rfl)) ?_)
  refine wpAny_newObj_type ?_ (by size_fits)
  simp only [raiseNew]
  refine wpAny_bind (wpAny_handled ?_)
  first | rw [show A.in1.handled = none from hh] | rw [hh]
  refine wpAny_bind (wpAny_pure (wpAny_throw ?_))
  exact hE _ _ (fun b o e => Heap.get?_push_of_some _ (Heap.get?_push_of_some _ e)) ⟨_, Heap.get?_push_size _ rfl, rfl⟩
theorem nextOf_list_end' {it l : Addr} {i : Nat} {items : Array Value} {Q : Value → Shared → Prop} (hh : A.handled = none)
    (hit : s.heap.IsListIter it l i) (hl : s.heap.IsList l items) (hx : items[i]? = none)
    (hE : ∀ h' e oi, Heap.ExtBut it s.heap h' → h'.get? it = some oi → oi.cls = .type "list_iterator" → oi.data = .fields #[.none, .int i 0] → (∃ o, h'.get? e = some o ∧ o.cls = .type "StopIteration") → E (.ref e) { s with heap := h' }) :
    wpAny (model prog w) A (Builtin.SmallTypes.nextOf (.ref it)) Q E s := by
  obtain ⟨o, ho, hc, hd⟩ := id hit
  obtain ⟨ol, hol, _, nl, hdl⟩ := hl
  unfold Builtin.SmallTypes.nextOf
  refine wpAny_bind (wpAny_callSpecial?_slot (name := Str.ofString "__next__") hit.typeIs slot_listiter_next
    (wpAny_call_entry slot_listiter_next hit.typeIs entry_listiter_next ?_ (args_listiter_next _)))
  show wpAny _ _ (field (.ref it) 0 >>= _) _ _ s
  refine wpAny_bind (wpAny_field ho hd (x := .ref l) rfl ?_)
  show wpAny _ _ (if (Value.ref l == Value.none) = true then _ else _) _ _ s
  rw [if_neg (show ¬ ((Value.ref l == Value.none) = true) from Bool.false_ne_true)]
  show wpAny _ _ (field (.ref it) 1 >>= _) _ _ s
  refine wpAny_bind (wpAny_field ho hd (x := .int i 0) rfl ?_)
  show wpAny _ _ (seqItems? (.ref l) >>= _) _ _ s
  refine wpAny_bind (wpAny_seqItems hol hdl ?_)
  simp only [Int.toNat_natCast, hx]
  refine wpAny_bind (wpAny_rule (wpAny_bind (wpAny_setField ho hd (by simp) ?_)))
  show wpAny _ _ (newExc (.type "StopIteration") [] >>= _) _ _ _
  refine wpAny_bind ?_
  simp only [newExc, newTuple]
  refine wpAny_bind (wpAny_newObj_type ?_ (by size_fits))
  refine wpAny_bind (m := firstArgMember _ _) (wpAny_of_eq (a := Value.none) (by first | rfl | (simp only [firstArgMember]; rfl)) ?_)
  refine wpAny_newObj_type ?_ (by size_fits)
  simp only [raiseNew]
  refine wpAny_bind (wpAny_handled ?_)
  first | rw [show A.in1.handled = none from hh] | rw [hh]
  refine wpAny_bind (wpAny_pure (wpAny_throw ?_))
  have hd' := Obj.data_mapFields hd (·.setIfInBounds 0 Value.none)
  exact hE _ _ _ (((Heap.SameBut.update ..).extBut.push _).push _) (Heap.get?_push_of_some _ (Heap.get?_push_of_some _ (Heap.get?_update_self _ ho (Obj.isFreed_of_fields hd')))) ((Obj.cls_mapFields ..).trans hc) (by rw [hd']; rfl) ⟨_, Heap.get?_push_size _ rfl, rfl⟩
/-- a zip amid its run -/
structure ZipAt (h : Heap) (z TI TO i1 i2 : Addr) : Prop where
  z : IsZip h z TI TO .none
  ti : IsPair h TI (.ref i1) (.ref i2)
  to : ∃ a b, IsPair h TO a b
structure ZApart (z TI TO i1 i2 : Addr) : Prop where
  TIz : TI ≠ z
  TOz : TO ≠ z
  i1z : i1 ≠ z
  i2z : i2 ≠ z
  TITO : TI ≠ TO
  TIi1 : TI ≠ i1
  TIi2 : TI ≠ i2
  TOi1 : TO ≠ i1
  TOi2 : TO ≠ i2
  i12 : i1 ≠ i2
theorem zip_item {z TI TO i1 i2 l : Addr} {x left : Int} {k : Nat} {ys : Array Value} {y : Value} {Q : Option Value → Shared → Prop} (D : ZApart z TI TO i1 i2) (Z : ZipAt s.heap z TI TO i1 i2)
    (h1 : IsRangeIter s.heap i1 x left 1) (hleft : 0 < left) (h2 : s.heap.IsListIter i2 l k) (hl : s.heap.IsList l ys) (hlz : l ≠ z ∧ l ≠ TO ∧ l ≠ i1) (hy : ys[k]? = some y)
    (hQ : ∀ h' tk t, IsZip h' z TI TO (rawInt s.heap.objs.size) → IsPair h' TI (.ref i1) (.ref i2) → IsPair h' TO (.int x t) y → IsRangeIter h' i1 (x + 1) (left - 1) 1 → h'.IsListIter i2 l (k + 1) → IsPair h' s.heap.objs.size (.int x t) y →
      (∀ c o, c ≠ z → c ≠ TO → c ≠ i1 → c ≠ i2 → s.heap.get? c = some o → h'.get? c = some o) → Q (some (.ref s.heap.objs.size)) { s with heap := h', toks := tk }) :
    wpAny (model prog w) A (pyNext (.ref z)) Q E s := by
  obtain ⟨hz, hTI, a, b, hTO⟩ := Z
  have hT : s.TypeIs (.ref z) "zip" := ⟨_, hz, rfl⟩
  unfold pyNext
  refine wpAny_bind (wpAny_attempt (wpAny_callSpecial?_slot (name := Str.ofString "__next__") hT PySem.F.slot_zip_next
    (wpAny_call_entry PySem.F.slot_zip_next hT PySem.F.entry_zip_next ?_ (PySem.F.args_zip_next_1 _))))
  show wpAny _ _ (field (.ref z) 2 >>= _) _ _ _
  refine wpAny_bind (wpAny_field hz rfl (x := .bool false) rfl ?_)
  show wpAny _ _ (field (.ref z) 3 >>= _) _ _ _
  refine wpAny_bind (wpAny_field hz rfl (x := .ref TI) rfl ?_)
  refine wpAny_bind (wpAny_seqItems hTI rfl ?_)
  show wpAny _ _ (Builtin.SmallTypes.ownedTupleIsFree (.ref z) >>= _) _ _ _
  refine wpAny_bind ?_
  unfold Builtin.SmallTypes.ownedTupleIsFree
  refine wpAny_bind (wpAny_field hz rfl (x := .none) rfl (wpAny_pure ?_))
  simp only [if_true]
  refine wpAny_bind (wpAny_rule ?_)
  refine wpAny_bind (wpAny_field hz rfl (x := .ref TO) rfl ?_)
  refine wpAny_bind (wpAny_setField_rec hz (by simp) fun h₁ hz₁ hs₁ => ?_)
  replace hz₁ : IsZip h₁ z TI TO .ellipsis := hz₁
  refine wpAny_bind ?_
  simp only [List.zipIdx_cons, List.zipIdx_nil, List.forIn_cons, List.forIn_nil]
  refine wpAny_bind (wpAny_bind (wpAny_onRaise ?_))
  show wpAny _ _ (Builtin.SmallTypes.nextOf (.ref i1) >>= _) _ _ _
  refine wpAny_bind (nextOf_range_item (s := { s with heap := h₁ }) (hs₁.extBut _ _ D.i1z h1) hleft fun h₂ h1₂ hs₂ => wpAny_pure ?_)
  have hTO₂ : IsPair h₂ TO a b := hs₂.extBut _ _ D.TOi1 (hs₁.extBut _ _ D.TOz hTO)
  refine wpAny_bind (wpAny_seqItems hTO₂ rfl ?_)
  refine wpAny_bind (wpAny_updateSeq_pair hTO₂ fun h₃ hTO₃ hs₃ => ?_)
  replace hTO₃ : IsPair h₃ TO (.int x s.toks) b := hTO₃
  refine wpAny_bind (wpAny_letGo (wpAny_pure ?_))
  refine wpAny_bind (wpAny_bind (wpAny_onRaise ?_))
  show wpAny _ _ (Builtin.SmallTypes.nextOf (.ref i2) >>= _) _ _ _
  refine wpAny_bind (wpAny_nextOf_list_item (((h2.extBut hs₁.extBut D.i2z).extBut hs₂.extBut D.i12.symm).extBut hs₃.extBut D.TOi2.symm)
    (((hl.extBut hs₁.extBut hlz.1).extBut hs₂.extBut hlz.2.2).extBut hs₃.extBut hlz.2.1) hy fun h₄ h2₄ hs₄ => wpAny_pure ?_)
  have hTO₄ : IsPair h₄ TO (.int x s.toks) b := hs₄.extBut _ _ D.TOi2 hTO₃
  refine wpAny_bind (wpAny_seqItems hTO₄ rfl ?_)
  refine wpAny_bind (wpAny_updateSeq_pair hTO₄ fun h₅ hTO₅ hs₅ => ?_)
  replace hTO₅ : IsPair h₅ TO (.int x s.toks) y := hTO₅
  refine wpAny_bind (wpAny_letGo (wpAny_pure (wpAny_pure ?_)))
  refine wpAny_bind (wpAny_seqItems hTO₅ rfl ?_)
  refine wpAny_bind (wpAny_newTuple ?_)
  have hsz : h₅.objs.size = s.heap.objs.size := by rw [hs₅.1, hs₄.1, hs₃.1, hs₂.1, hs₁.1]
  have hz₅ : IsZip h₅ z TI TO .ellipsis := hs₅.extBut _ _ D.TOz.symm (hs₄.extBut _ _ D.i2z.symm (hs₃.extBut _ _ D.TOz.symm (hs₂.extBut _ _ D.i1z.symm hz₁)))
  have hk₅ : ∀ c o, c ≠ z → c ≠ TO → c ≠ i1 → c ≠ i2 → s.heap.get? c = some o → h₅.get? c = some o := fun c o c1 c2 c3 c4 e =>
    hs₅.extBut _ _ c2 (hs₄.extBut _ _ c4 (hs₃.extBut _ _ c2 (hs₂.extBut _ _ c3 (hs₁.extBut _ _ c1 e))))
  have h1₅ : IsRangeIter h₅ i1 (x + 1) (left - 1) 1 := hs₅.extBut _ _ D.TOi1.symm (hs₄.extBut _ _ D.i12 (hs₃.extBut _ _ D.TOi1.symm h1₂))
  have h2₅ : h₅.IsListIter i2 l (k + 1) := h2₄.extBut hs₅.extBut D.TOi2.symm
  have hzlt : z < h₅.objs.size := Heap.lt_size hz₅
  show wpAny _ _ (Builtin.SmallTypes.ownedTupleHandOut (.ref z) (.ref h₅.objs.size) >>= _) _ _ _
  refine wpAny_bind ?_
  unfold Builtin.SmallTypes.ownedTupleHandOut
  have hz₆ : IsZip (h₅.push { cls := .type "tuple", data := .seq #[.int x s.toks, y] }) z TI TO .ellipsis := Heap.get?_push_of_some _ hz₅
  refine wpAny_bind (wpAny_setField_rec hz₆ (by simp) fun h₇ hz₇ hs₇ => ?_)
  replace hz₇ : IsZip h₇ z TI TO (rawInt h₅.objs.size) := hz₇
  refine wpAny_setField_rec hz₇ (by simp) fun h₈ hz₈ hs₈ => ?_
  replace hz₈ : IsZip h₈ z TI TO (rawInt h₅.objs.size) := hz₈
  have up : ∀ c o, c ≠ z → h₅.get? c = some o → h₈.get? c = some o := fun c o c1 e => hs₈.extBut _ _ c1 (hs₇.extBut _ _ c1 (Heap.get?_push_of_some _ e))
  have hT₈ : IsPair h₈ h₅.objs.size (.int x s.toks) y := hs₈.extBut _ _ (Nat.ne_of_gt hzlt) (hs₇.extBut _ _ (Nat.ne_of_gt hzlt) (Heap.get?_push_size _ rfl))
  rw [hsz] at hz₈ hT₈
  refine wpAny_pure ⟨_, rfl, ?_⟩
  show wpAny _ _ (pure (some (Value.ref h₅.objs.size))) _ _ _
  rw [hsz]
  exact wpAny_pure (hQ h₈ _ _ hz₈ (up _ _ D.TIz (hk₅ _ _ D.TIz D.TITO D.TIi1 D.TIi2 hTI)) (up _ _ D.TOz hTO₅) (up _ _ D.i1z h1₅) (h2₅.at fun o e => up _ o D.i2z e) hT₈ fun c o c1 c2 c3 c4 e => up c o c1 (hk₅ c o c1 c2 c3 c4 e))
theorem zip_end1 {z TI TO i1 i2 : Addr} {x left : Int} {Q : Option Value → Shared → Prop} (hh : A.handled = none) (D : ZApart z TI TO i1 i2) (Z : ZipAt s.heap z TI TO i1 i2)
    (h1 : IsRangeIter s.heap i1 x left 1) (hleft : left ≤ 0) (hQ : ∀ h', (∀ c o, c ≠ z → s.heap.get? c = some o → h'.get? c = some o) → Q none { s with heap := h' }) :
    wpAny (model prog w) A (pyNext (.ref z)) Q E s := by
  obtain ⟨hz, hTI, a, b, hTO⟩ := Z
  have hT : s.TypeIs (.ref z) "zip" := ⟨_, hz, rfl⟩
  unfold pyNext
  refine wpAny_bind (wpAny_attempt (wpAny_callSpecial?_slot (name := Str.ofString "__next__") hT PySem.F.slot_zip_next
    (wpAny_call_entry PySem.F.slot_zip_next hT PySem.F.entry_zip_next ?_ (PySem.F.args_zip_next_1 _))))
  show wpAny _ _ (field (.ref z) 2 >>= _) _ _ _
  refine wpAny_bind (wpAny_field hz rfl (x := .bool false) rfl ?_)
  show wpAny _ _ (field (.ref z) 3 >>= _) _ _ _
  refine wpAny_bind (wpAny_field hz rfl (x := .ref TI) rfl ?_)
  refine wpAny_bind (wpAny_seqItems hTI rfl ?_)
  show wpAny _ _ (Builtin.SmallTypes.ownedTupleIsFree (.ref z) >>= _) _ _ _
  refine wpAny_bind ?_
  unfold Builtin.SmallTypes.ownedTupleIsFree
  refine wpAny_bind (wpAny_field hz rfl (x := .none) rfl (wpAny_pure ?_))
  simp only [if_true]
  refine wpAny_bind (wpAny_rule ?_)
  refine wpAny_bind (wpAny_field hz rfl (x := .ref TO) rfl ?_)
  refine wpAny_bind (wpAny_setField_rec hz (by simp) fun h₁ hz₁ hs₁ => ?_)
  replace hz₁ : IsZip h₁ z TI TO .ellipsis := hz₁
  refine wpAny_bind ?_
  simp only [List.zipIdx_cons, List.zipIdx_nil, List.forIn_cons, List.forIn_nil]
  refine wpAny_bind (wpAny_bind (wpAny_onRaise ?_))
  show wpAny _ _ (Builtin.SmallTypes.nextOf (.ref i1) >>= _) _ _ _
  refine wpAny_bind (nextOf_range_end (s := { s with heap := h₁ }) hh (hs₁.extBut _ _ D.i1z h1) hleft fun h₂ e k₂ he => ?_)
  obtain ⟨oe, hoe, hce⟩ := he
  have hz₂ : IsZip h₂ z TI TO .ellipsis := k₂ _ _ hz₁
  have hez : e ≠ z := fun x => by subst x; rw [hz₂] at hoe; cases hoe; simp at hce
  refine wpAny_setField_rec hz₂ (by simp) fun h₃ _ hs₃ => ?_
  refine wpAny_bind (wpAny_isInstance (T := "StopIteration") (b := true) ⟨oe, hs₃.extBut _ _ hez hoe, hce⟩ isSubtype_stop ?_)
  exact wpAny_pure (hQ _ fun c o c1 x => hs₃.extBut _ _ c1 (k₂ _ _ (hs₁.extBut _ _ c1 x)))
theorem zip_end2 {z TI TO i1 i2 l : Addr} {x left : Int} {k : Nat} {ys : Array Value} {Q : Option Value → Shared → Prop} (hh : A.handled = none) (D : ZApart z TI TO i1 i2) (Z : ZipAt s.heap z TI TO i1 i2)
    (h1 : IsRangeIter s.heap i1 x left 1) (hleft : 0 < left) (h2 : s.heap.IsListIter i2 l k) (hl : s.heap.IsList l ys) (hlz : l ≠ z ∧ l ≠ TO ∧ l ≠ i1) (hy : ys[k]? = none)
    (hQ : ∀ h' tk oi, h'.get? i2 = some oi → oi.cls = .type "list_iterator" → oi.data = .fields #[.none, .int k 0] → (∀ c o, c ≠ z → c ≠ TO → c ≠ i1 → c ≠ i2 → s.heap.get? c = some o → h'.get? c = some o) → Q none { s with heap := h', toks := tk }) :
    wpAny (model prog w) A (pyNext (.ref z)) Q E s := by
  obtain ⟨hz, hTI, a, b, hTO⟩ := Z
  have hT : s.TypeIs (.ref z) "zip" := ⟨_, hz, rfl⟩
  unfold pyNext
  refine wpAny_bind (wpAny_attempt (wpAny_callSpecial?_slot (name := Str.ofString "__next__") hT PySem.F.slot_zip_next
    (wpAny_call_entry PySem.F.slot_zip_next hT PySem.F.entry_zip_next ?_ (PySem.F.args_zip_next_1 _))))
  show wpAny _ _ (field (.ref z) 2 >>= _) _ _ _
  refine wpAny_bind (wpAny_field hz rfl (x := .bool false) rfl ?_)
  show wpAny _ _ (field (.ref z) 3 >>= _) _ _ _
  refine wpAny_bind (wpAny_field hz rfl (x := .ref TI) rfl ?_)
  refine wpAny_bind (wpAny_seqItems hTI rfl ?_)
  show wpAny _ _ (Builtin.SmallTypes.ownedTupleIsFree (.ref z) >>= _) _ _ _
  refine wpAny_bind ?_
  unfold Builtin.SmallTypes.ownedTupleIsFree
  refine wpAny_bind (wpAny_field hz rfl (x := .none) rfl (wpAny_pure ?_))
  simp only [if_true]
  refine wpAny_bind (wpAny_rule ?_)
  refine wpAny_bind (wpAny_field hz rfl (x := .ref TO) rfl ?_)
  refine wpAny_bind (wpAny_setField_rec hz (by simp) fun h₁ hz₁ hs₁ => ?_)
  replace hz₁ : IsZip h₁ z TI TO .ellipsis := hz₁
  refine wpAny_bind ?_
  simp only [List.zipIdx_cons, List.zipIdx_nil, List.forIn_cons, List.forIn_nil]
  refine wpAny_bind (wpAny_bind (wpAny_onRaise ?_))
  show wpAny _ _ (Builtin.SmallTypes.nextOf (.ref i1) >>= _) _ _ _
  refine wpAny_bind (nextOf_range_item (s := { s with heap := h₁ }) (hs₁.extBut _ _ D.i1z h1) hleft fun h₂ h1₂ hs₂ => wpAny_pure ?_)
  have hTO₂ : IsPair h₂ TO a b := hs₂.extBut _ _ D.TOi1 (hs₁.extBut _ _ D.TOz hTO)
  refine wpAny_bind (wpAny_seqItems hTO₂ rfl ?_)
  refine wpAny_bind (wpAny_updateSeq_pair hTO₂ fun h₃ hTO₃ hs₃ => ?_)
  refine wpAny_bind (wpAny_letGo (wpAny_pure ?_))
  refine wpAny_bind (wpAny_bind (wpAny_onRaise ?_))
  show wpAny _ _ (Builtin.SmallTypes.nextOf (.ref i2) >>= _) _ _ _
  refine wpAny_bind (nextOf_list_end' hh (((h2.extBut hs₁.extBut D.i2z).extBut hs₂.extBut D.i12.symm).extBut hs₃.extBut D.TOi2.symm)
    (((hl.extBut hs₁.extBut hlz.1).extBut hs₂.extBut hlz.2.2).extBut hs₃.extBut hlz.2.1) hy fun h₄ e oi hs₄ gi ci di he => ?_)
  obtain ⟨oe, hoe, hce⟩ := he
  have hz₄ : IsZip h₄ z TI TO .ellipsis := hs₄ _ _ D.i2z.symm (hs₃.extBut _ _ D.TOz.symm (hs₂.extBut _ _ D.i1z.symm hz₁))
  have hez : e ≠ z := fun x => by subst x; rw [hz₄] at hoe; cases hoe; simp at hce
  refine wpAny_setField_rec hz₄ (by simp) fun h₅ _ hs₅ => ?_
  refine wpAny_bind (wpAny_isInstance (T := "StopIteration") (b := true) ⟨oe, hs₅.extBut _ _ hez hoe, hce⟩ isSubtype_stop ?_)
  exact wpAny_pure (hQ _ _ oi (hs₅.extBut _ _ D.i2z gi) ci di fun c o c1 c2 c3 c4 x => hs₅.extBut _ _ c1 (hs₄ _ _ c4 (hs₃.extBut _ _ c2 (hs₂.extBut _ _ c3 (hs₁.extBut _ _ c1 x)))))
/-- zip, made of a range and of a list's iterator -/
abbrev zH1 (h : Heap) (x n c : Int) : Heap := h.push { cls := .type "range_iterator", data := .fields #[rawInt x, rawInt n, rawInt c] }
theorem zip_new (r it : Addr) (b : Int) (t u v : Tok) (hb : Builtin.Range.small 0 b 1 = true) :
    Meets (Builtin.«zip.__new__» ⟨[.type "zip", .ref r, .ref it], []⟩) (fun _ R s => IsRange s.heap r 0 b 1 t u v ∧ (∃ o, s.heap.get? it = some o ∧ o.cls = .type "list_iterator") ∧
      ∀ h', h' = (((zH1 s.heap 0 (Builtin.Range.rangeSize 0 b 1) 1).push { cls := .type "tuple", data := .seq #[.ref s.heap.objs.size, .ref it] }).push { cls := .type "tuple", data := .seq #[.none, .none] }).push { cls := .type "zip", data := .fields #[.none, .bool false, .bool false, .ref (s.heap.objs.size + 1), .ref (s.heap.objs.size + 2)] } →
        R (.ok (.ret (.ref (s.heap.objs.size + 3)))) { s with heap := h' }) :=
  .of_wp fun prog w A R s h => by
    obtain ⟨hp, g, d, tk, os⟩ := s; obtain ⟨hr, ⟨o, ho, hc⟩, h⟩ := h
    have hsub := sub_zip
    have hR : IsRange (Shared.heap ⟨hp, g, d, tk, os⟩) r 0 b 1 t u v := hr
    have hT : (⟨zH1 hp 0 (Builtin.Range.rangeSize 0 b 1) 1, g, d, tk, os⟩ : Shared).TypeIs (.ref it) "list_iterator" := ⟨o, Heap.get?_push_of_some _ ho, hc⟩
    have hself : ∀ {A : Around} {Q : Value → Shared → Prop} {E : Value → Shared → Prop}, Q (.ref it) ⟨zH1 hp 0 (Builtin.Range.rangeSize 0 b 1) 1, g, d, tk, os⟩ → wpAny (model prog w) A (pyIter (.ref it)) Q E ⟨zH1 hp 0 (Builtin.Range.rangeSize 0 b 1) 1, g, d, tk, os⟩ := fun q => by
      refine wpAny_pyIter_slot hT slot_listiter_iter (wpAny_call_entry slot_listiter_iter hT entry_listiter_iter ?_ (args_listiter_iter _))
      show wpAny _ _ (ret (.ref it)) _ _ _
      exact wpAny_pure ⟨_, rfl, "list_iterator", _, hT, slot_listiter_next.lookup, q⟩
    wp_walk using wpAny_pyIter_range hR hb, hself
    refine ⟨_, rfl, ?_⟩
    have z1 : (zH1 hp 0 (Builtin.Range.rangeSize 0 b 1) 1).objs.size = hp.objs.size + 1 := Heap.size_push ..
    have := h _ rfl
    simp only [Heap.size_push] at this ⊢
    exact this
end

/-! Z2 -/
/-- all stands, but what is in X, and but for the slots of namespaces -/
noncomputable def KeepB (X : Addr → Prop) (h h' : Heap) : Prop := ∀ b o, ¬ X b → h.get? b = some o → (¬ IsD o → h'.get? b = some o) ∧ (IsD o → ∃ sl, h'.get? b = some { o with slots := sl })
theorem KeepB.of {X : Addr → Prop} {h h' : Heap} (k : ∀ b o, ¬ X b → h.get? b = some o → h'.get? b = some o) : KeepB X h h' := fun b o n e => ⟨fun _ => k b o n e, fun _ => ⟨o.slots, k b o n e⟩⟩
theorem KeepB.trans {X : Addr → Prop} {h h' h'' : Heap} (x : KeepB X h h') (y : KeepB X h' h'') : KeepB X h h'' := fun b o n e => by
  obtain ⟨x1, x2⟩ := x b o n e
  refine ⟨fun d => (y b o n (x1 d)).1 d, fun d => ?_⟩
  obtain ⟨sl, e1⟩ := x2 d
  have d' : IsD { o with slots := sl } := by obtain ⟨es, k, q⟩ := d; exact ⟨es, k, q⟩
  exact (y b _ n e1).2 d'
theorem KeepB.mono {X Y : Addr → Prop} {h h' : Heap} (x : KeepB X h h') (i : ∀ a, X a → Y a) : KeepB Y h h' := fun b o n e => x b o (fun q => n (i b q)) e
theorem KeepB.at {X : Addr → Prop} {h h' : Heap} (x : KeepB X h h') {b : Addr} {o : Obj} (n : ¬ X b) (d : ∀ es k, o.data ≠ .dict es k) (e : h.get? b = some o) : h'.get? b = some o := (x b o n e).1 fun ⟨es, k, q⟩ => d es k q
theorem KeepB.ns {X : Addr → Prop} {h h' : Heap} (x : KeepB X h h') {b : Addr} {m : Str → Option Value} (n : ¬ X b) (q : h.Ns b m) : h'.Ns b m := by
  obtain ⟨o, es, ep, ho, hd, r⟩ := q
  obtain ⟨sl, e⟩ := (x b o n ho).2 ⟨_, _, hd⟩
  exact ⟨_, es, ep, e, hd, r⟩
theorem imm_notD {o : Obj} (i : Imm o) : ∀ es k, o.data ≠ .dict es k := fun es k q => by
  rcases i with ⟨_, _, _, i⟩ | ⟨_, _, i⟩ | ⟨_, i⟩ | i <;> rw [q] at i <;> cases i
/-- a step in which one mutable thing of σ changes -/
theorem keepB_step {h₀ : Heap} {σ : Hp} {h h' : Heap} {a : Addr} {o : AObj} (hw : W h₀ σ h) (m : Mut σ a) (k : KeepB (· = a) h h') (gr : ∀ b p, h₀.get? b = some p → h'.get? b = some p) (x : Tups h h' → Holds h' a o) (sm : o.small) : Step h₀ σ h (upd σ a o) h' := by
  obtain ⟨om, em, mm⟩ := m
  have tups : Tups h h' := fun b p e i => k.at (by rintro rfl; exact holds_not_imm (hw.holds _ _ em) e i) (imm_notD i) e
  have hm : Mut σ a := ⟨om, em, mm⟩
  refine ⟨⟨gr, fun b p e => ?_, fun b m' => ?_, upd_small hw.small sm⟩, fun b p n _ d e => (k b p (by rintro rfl; exact n hm) e).1 d, fun b p n _ d e => (k b p (by rintro rfl; exact n hm) e).2 d, upd_grow (.inl hm), tups, fun b p e => ?_⟩
  · unfold upd at e; split at e
    · rename_i q; subst q; cases e; exact x tups
    · rename_i q
      have y := hw.holds b p e
      have al : ∀ ob, h.get? b = some ob → h'.get? b = some ob := fun ob eb => (k b ob q eb).1 (holds_notD y eb)
      cases p with
      | list xs => obtain ⟨vs, n, e2, rr⟩ := y; exact ⟨vs, n, al _ e2, rr.tups tups⟩
      | flist xs => obtain ⟨vs, ⟨o2, e2, r⟩, rr⟩ := y; exact ⟨vs, ⟨o2, al _ e2, r⟩, rr.tups tups⟩
      | iter l i => cases l <;> (obtain ⟨o2, e2, r⟩ := y; exact ⟨o2, al _ e2, r⟩)
  · by_cases q : b = a
    · subst q; exact hw.above b hm
    · obtain ⟨p, e, mm⟩ := m'; rw [upd_ne _ _ q] at e; exact hw.above b ⟨p, e, mm⟩
  · by_cases q : b = a
    · subst q
      obtain ⟨o', e'⟩ := (x tups).alive
      exact ⟨o', e', fun d => absurd d (holds_notD (hw.holds _ _ em) e)⟩
    · obtain ⟨k1, k2⟩ := k b p q e
      by_cases d : IsD p
      · obtain ⟨sl, e1⟩ := k2 d
        exact ⟨_, e1, fun _ => by obtain ⟨es, kk, dd⟩ := d; exact ⟨es, kk, dd⟩⟩
      · exact ⟨p, k1 d, id⟩
theorem compTurn_zip {elt x1e iter : Expr} {scope : Scope} {pos : Pos} {it acc : Value} {env : Env} {prog : Program} {w : World} {A : Around} {R : Result → Shared → Prop} {s : Shared} (I : Nat → Shared → Prop)
    (turn : ∀ n s, I n s → wpAny (model prog w) A (pyNext it) (fun r s₁ => match r with
      | none => R (.ok .next) s₁
      | some v => wpAny (model prog w) A (letOwnedTupleGo x1e it v) (fun _ s₁' => wpAny (model prog w) A (assign x1e env v) (fun _ s₂ => wpAny (model prog w) A (eval elt env) (fun x s₄ =>
              wpAny (model prog w) A (call (.builtin "list.append") [acc, x]) (fun _ s₅ => ∃ m, m < n ∧ I m s₅) E0 s₄) E0 s₂) E0 s₁') E0 s₁) E0 s)
    (n : Nat) (h : I n s) : codeAny (model prog w) A (.compLoop (.ListComp elt [⟨x1e, iter, [], 0⟩] scope pos) 0 it acc env) R s := by
  refine compLoop_gen I (fun n s hI => wpAny_mono (turn n s hI) (fun r s₁ h₁ => ?_) fun _ _ f => f) n h
  cases r with
  | none => exact h₁
  | some v => exact wpAny_mono h₁ (fun _ s₂ h₂ => wpAny_mono h₂ (fun _ s₃ h₃ => wpAny_pure (by simpa using h₃)) fun _ _ f => f) fun _ _ f => f
/-- two names out of a pair -/
theorem assign_pair {prog : Program} {w : World} {A : Around} {s : Shared} {env : Env} {x1 x2 : Str} {p1 p2 tp : Pos} {kk : Nat} {T : Addr} {a b : Value} {m : Str → Option Value} {Q : Unit → Shared → Prop} {E : Value → Shared → Prop} (hh : A.handled = none)
    (hT : IsTup s.heap T #[a, b]) (k1 : env.kindOf x1 = some .local) (k2 : env.kindOf x2 = some .local) (hk : env.scope.kind = .function) (n : s.heap.Ns env.locals m)
    (q : ∀ h' tk, h'.Ns env.locals (fun y => if y = x2 then some b else if y = x1 then some a else m y) → (∀ c o, c ≠ env.locals → s.heap.get? c = some o → h'.get? c = some o) → Q () { s with heap := h', toks := tk }) :
    wpAny (model prog w) A (assign (.Tuple [.Name x1 p1, .Name x2 p2] kk tp) env (.ref T)) Q E s := by
  refine wpAny_assign_Tuple hh hT rfl rfl fun h' ext => ?_
  have n1 : h'.Ns env.locals m := n.at fun o e => ext _ o (Nat.ne_of_lt (Heap.lt_size e)) e
  show wpAny _ A (do holding [b] (assign (.Name x1 p1) env a); assignInOrder ((assignEach [.Name x2 p2] env).map (·.2)) [b]) _ _ _
  refine wpAny_bind (wpAny_holding (wpAny_assign_Name (wpAny_storeName_local (s := { s with heap := h' }) k1 n1 (fun h2 n2 sb2 => ?_) (by rw [hk]; rfl))))
  show wpAny _ A (do holding [] (assign (.Name x2 p2) env b); assignInOrder [] []) _ _ _
  refine wpAny_bind (wpAny_holding (wpAny_assign_Name (wpAny_storeName_local k2 n2 (fun h3 n3 sb3 => ?_) (by rw [hk]; rfl))))
  exact wpAny_pure (q h3 _ n3 fun c o nc e => sb3.extBut c o nc (sb2.extBut c o nc (ext c o (Nat.ne_of_lt (Heap.lt_size e)) e)))
/-- what is fixed while a comprehension runs over a zip -/
structure ZC (h₀ hb : Heap) (σ : Hp) (z TI TO ri ita l D C : Addr) (p0 : Nat) (vs : List Value) (xs : List V) : Prop where
  w : W h₀ σ hb
  eit : σ ita = some (.iter (some l) p0)
  el : listAt σ l = some xs
  hl : hb.IsList l vs.toArray
  rp : Reps hb vs xs
  ap : ZApart z TI TO ri ita
  fz : hb.get? z = none
  fTI : hb.get? TI = none
  fTO : hb.get? TO = none
  fri : hb.get? ri = none
  fD : hb.get? D = none
  fC : hb.get? C = none
  D1 : D ≠ z ∧ D ≠ TI ∧ D ≠ TO ∧ D ≠ ri ∧ D ≠ ita ∧ D ≠ C
  C1 : C ≠ z ∧ C ≠ TI ∧ C ≠ TO ∧ C ≠ ri ∧ C ≠ ita
/-- a tuple among those laid up -/
inductive TupAt (h hb : Heap) (TI TO : Addr) (PT : Nat → Array Value → Prop) (j : Nat) (r : Value) : Prop
  | mk (T : Addr) (us : Array Value) (h1 : r = .ref T) (h2 : IsTup h T us) (h3 : hb.get? T = none) (h4 : T ≠ TO) (h5 : T ≠ TI) (h6 : PT j us) : TupAt h hb TI TO PT j r
structure ZI (h₀ hb : Heap) (z TI TO ri ita l D C : Addr) (p0 : Nat) (n : Int) (PT : Nat → Array Value → Prop) (i k : Nat) (acc : List Value) (h : Heap) : Prop where
  gr : ∀ b o, h₀.get? b = some o → h.get? b = some o
  kp : KeepB (· = ita) hb h
  it : h.IsListIter ita l (p0 + i)
  za : ZipAt h z TI TO ri ita
  ri : IsRangeIter h ri i (n - i) 1
  ns : ∃ m, h.Ns C m
  d : ∃ k, h.get? D = some (LObj acc k)
  len : acc.length = k
  tp : ∀ (j : Nat) r, acc[j]? = some r → TupAt h hb TI TO PT j r
noncomputable def ZKeepC (z TO ri ita C : Addr) (h h' : Heap) : Prop := ∀ b o, b ≠ z → b ≠ TO → b ≠ ri → b ≠ ita → b ≠ C → h.get? b = some o → h'.get? b = some o
/-- what the tuple of a turn is -/
inductive TurnEnd (h₀ : Heap) (PT : Nat → Array Value → Prop) (i : Nat) (s : Shared) (r : Value) (s' : Shared) : Prop
  | mk (h1 : Sm s s') (h2 : KeepB (fun _ => False) s.heap s'.heap) (h3 : ∀ b o, h₀.get? b = some o → s'.heap.get? b = some o) (T : Addr) (us : Array Value) (h4 : r = .ref T) (h5 : IsTup s'.heap T us) (h6 : s.heap.get? T = none) (h7 : PT i us) : TurnEnd h₀ PT i s r s'
section
variable {prog : Program} {w : World} {A : Around} {h₀ hb : Heap} {σ : Hp} {z TI TO ri ita l D C : Addr} {p0 : Nat} {n : Int} {vs : List Value} {xs : List V} {PT : Nat → Array Value → Prop}
theorem tup_ne {h : Heap} {T b : Addr} {us : Array Value} {o : Obj} (x : IsTup h T us) (e : h.get? b = some o) (n : o.cls ≠ .type "tuple") : T ≠ b := by
  rintro rfl
  obtain ⟨o2, e2, c2, _⟩ := x
  rw [e] at e2; cases e2; exact n c2
theorem tup_neD {h : Heap} {T b : Addr} {us : Array Value} {m : Str → Option Value} (x : IsTup h T us) (e : h.Ns b m) : T ≠ b := by
  rintro rfl
  obtain ⟨o2, e2, c2, n2, d2⟩ := x
  obtain ⟨o, es, ep, ho, hd, _⟩ := e
  rw [ho] at e2; cases e2; rw [hd] at d2; cases d2
section
variable (c : ZC h₀ hb σ z TI TO ri ita l D C p0 vs xs)
include c
theorem ZC.off {b : Addr} {o : Obj} (e : hb.get? b = some o) : b ≠ z ∧ b ≠ TO ∧ b ≠ ri ∧ b ≠ C ∧ b ≠ D :=
  ⟨(by rintro rfl; rw [c.fz] at e; cases e), (by rintro rfl; rw [c.fTO] at e; cases e), (by rintro rfl; rw [c.fri] at e; cases e), (by rintro rfl; rw [c.fC] at e; cases e), (by rintro rfl; rw [c.fD] at e; cases e)⟩
theorem ZC.ground {b : Addr} {o : Obj} (e : h₀.get? b = some o) : b ≠ ita := by
  rintro rfl
  rw [c.w.above _ ⟨_, c.eit, rfl⟩] at e; cases e
theorem ZC.lall : l ≠ z ∧ l ≠ TO ∧ l ≠ ri ∧ l ≠ ita := by
  obtain ⟨o, e, hc, _⟩ := c.hl
  obtain ⟨q1, q2, q3, _⟩ := c.off e
  refine ⟨q1, q2, q3, ?_⟩
  rintro rfl
  obtain ⟨o2, e2, hc2, _⟩ := c.w.holds _ _ c.eit
  rw [e] at e2; cases e2; rw [hc] at hc2; simp at hc2
theorem ZC.lst {h : Heap} (kp : KeepB (· = ita) hb h) : h.IsList l vs.toArray := by
  obtain ⟨o, e, hc, nn, hd⟩ := c.hl
  exact ⟨o, kp.at c.lall.2.2.2 (fun es k q => by rw [hd] at q; cases q) e, hc, nn, hd⟩
theorem ZC.keep {h h' : Heap} (kp : KeepB (· = ita) hb h) (k : ZKeepC z TO ri ita C h h') : KeepB (· = ita) hb h' := fun b o nb e => by
  obtain ⟨b1, b2, b3, b4, _⟩ := c.off e
  obtain ⟨q1, q2⟩ := kp b o nb e
  exact ⟨fun d => k b o b1 b2 b3 nb b4 (q1 d), fun d => (q2 d).imp fun sl e1 => k b _ b1 b2 b3 nb b4 e1⟩
theorem ZC.gr {h h' : Heap} (gr : ∀ b o, h₀.get? b = some o → h.get? b = some o) (k : ZKeepC z TO ri ita C h h') : ∀ b o, h₀.get? b = some o → h'.get? b = some o := fun b o e => by
  obtain ⟨b1, b2, b3, b4, _⟩ := c.off (c.w.stays b o e)
  exact k b o b1 b2 b3 (c.ground e) b4 (gr b o e)
omit c in
theorem ZI.tpk {i k : Nat} {acc : List Value} {h h' : Heap} (I : ZI h₀ hb z TI TO ri ita l D C p0 n PT i k acc h) (kk : ZKeepC z TO ri ita C h h') : ∀ (j : Nat) r, acc[j]? = some r → TupAt h' hb TI TO PT j r := fun j r e => by
  obtain ⟨T, us, e1, tt, e3, e4, e5, e6⟩ := I.tp j r e
  obtain ⟨mm, nn⟩ := I.ns
  obtain ⟨oi, gi, ci, _⟩ := I.it
  have t1 := tup_ne tt I.za.z (by simp)
  have t2 := tup_ne tt I.ri (by simp)
  have t3 := tup_ne tt gi (by rw [ci]; decide)
  have t4 := tup_neD tt nn
  obtain ⟨o, e2, r2⟩ := tt
  exact ⟨T, us, e1, ⟨o, kk _ _ t1 e4 t2 t3 t4 e2, r2⟩, e3, e4, e5, e6⟩
/-- a pair was read and laid into the two names -/
theorem ZI.read {i k : Nat} {acc : List Value} {h h' : Heap} {last : Value} {e1 e2 : Value} {m : Str → Option Value} (I : ZI h₀ hb z TI TO ri ita l D C p0 n PT i k acc h) (kk : ZKeepC z TO ri ita C h h') (hz : IsZip h' z TI TO .none) (hTI : IsPair h' TI (.ref ri) (.ref ita)) (hTO : IsPair h' TO e1 e2)
    (hri : IsRangeIter h' ri ((i : Int) + 1) (n - i - 1) 1) (hit : h'.IsListIter ita l (p0 + i + 1)) (nn : h'.Ns C m) : ZI h₀ hb z TI TO ri ita l D C p0 n PT (i + 1) k acc h' := by
  obtain ⟨kd, gd⟩ := I.d
  refine ⟨c.gr I.gr kk, c.keep I.kp kk, hit, ⟨hz, hTI, _, _, hTO⟩, ?_, ⟨_, nn⟩, ⟨kd, kk _ _ c.D1.1 c.D1.2.2.1 c.D1.2.2.2.1 c.D1.2.2.2.2.1 c.D1.2.2.2.2.2 gd⟩, I.len, ZI.tpk I kk⟩
  have a1 : ((i + 1 : Nat) : Int) = (i : Int) + 1 := by omega
  have a2 : n - ((i : Int) + 1) = n - (i : Int) - 1 := by omega
  rw [a1, a2]; exact hri
omit c in
/-- the element's text keeps all -/
theorem ZI.keep {i k : Nat} {acc : List Value} {h h' : Heap} (I : ZI h₀ hb z TI TO ri ita l D C p0 n PT i k acc h) (kb : KeepB (fun _ => False) h h') (gr : ∀ b o, h₀.get? b = some o → h'.get? b = some o) : ZI h₀ hb z TI TO ri ita l D C p0 n PT i k acc h' := by
  have at' : ∀ {b : Addr} {o : Obj}, (∀ es k, o.data ≠ .dict es k) → h.get? b = some o → h'.get? b = some o := fun d e => kb.at (fun f => f) d e
  obtain ⟨kd, gd⟩ := I.d
  obtain ⟨mm, nn⟩ := I.ns
  obtain ⟨hz, hTI, a, b, hTO⟩ := I.za
  refine ⟨gr, I.kp.trans (kb.mono fun _ f => f.elim), ?_, ⟨at' (fun es k q => by cases q) hz, at' (fun es k q => by cases q) hTI, a, b, at' (fun es k q => by cases q) hTO⟩, at' (fun es k q => by cases q) I.ri, ⟨mm, kb.ns (fun f => f) nn⟩, ⟨kd, at' (fun es k q => by cases q) gd⟩, I.len, fun j r e => ?_⟩
  · obtain ⟨o, e, hc, hd⟩ := I.it
    exact ⟨o, at' (fun es k q => by rw [hd] at q; cases q) e, hc, hd⟩
  · obtain ⟨T, us, e1, ⟨o, e2, hc, nn', hd⟩, e3, e4, e5, e6⟩ := I.tp j r e
    exact ⟨T, us, e1, ⟨o, at' (fun es k q => by rw [hd] at q; cases q) e2, hc, nn', hd⟩, e3, e4, e5, e6⟩
/-- the tuple is laid up -/
theorem ZI.put {i k kd : Nat} {acc : List Value} {h : Heap} {T : Addr} {us : Array Value} (I : ZI h₀ hb z TI TO ri ita l D C p0 n PT i k acc h) (gd : h.get? D = some (LObj acc kd)) (tT : IsTup h T us) (fT : hb.get? T = none) (nTO : T ≠ TO) (nTI : T ≠ TI) (pT : PT k us) :
    ZI h₀ hb z TI TO ri ita l D C p0 n PT i (k + 1) (acc ++ [.ref T]) (h.update D (Obj.mapSeq fun x => x.push (.ref T))) := by
  have up : ∀ b o, b ≠ D → h.get? b = some o → (h.update D (Obj.mapSeq fun x => x.push (.ref T))).get? b = some o := fun b o nb e => (Heap.SameBut.update ..).extBut b o nb e
  obtain ⟨kk5, g5⟩ := LObj.update gd (fun x => x.push (.ref T))
  have e5 : ((fun x : Array Value => x.push (.ref T)) acc.toArray).toList = acc ++ [.ref T] := by simp
  rw [e5] at g5
  obtain ⟨mm, nn⟩ := I.ns
  obtain ⟨hz, hTI, a, b, hTO⟩ := I.za
  obtain ⟨d1, d2, d3, d4, d5, d6⟩ := c.D1
  refine ⟨fun b o e => up b o (c.off (c.w.stays b o e)).2.2.2.2 (I.gr b o e), fun b o nb e => ?_, ?_, ⟨up _ _ d1.symm hz, up _ _ d2.symm hTI, a, b, up _ _ d3.symm hTO⟩, up _ _ d4.symm I.ri, ⟨mm, nn.at fun o e => up _ o d6.symm e⟩, ⟨kk5, g5⟩, by simp [I.len], fun j r e => ?_⟩
  · obtain ⟨q1, q2⟩ := I.kp b o nb e
    have nD := (c.off e).2.2.2.2
    exact ⟨fun d => up b o nD (q1 d), fun d => (q2 d).imp fun sl e1 => up b _ nD e1⟩
  · obtain ⟨o, e, hc, hd⟩ := I.it
    exact ⟨o, up _ _ d5.symm e, hc, hd⟩
  · rcases Nat.lt_or_ge j acc.length with hj | hj
    · rw [List.getElem?_append_left hj] at e
      obtain ⟨T', us', e1, tt, e3, e4, e5, e6⟩ := I.tp j r e
      have nD : T' ≠ D := tup_ne tt gd (by simp [LObj])
      obtain ⟨o, e2, r2⟩ := tt
      exact ⟨T', us', e1, ⟨o, up _ _ nD e2, r2⟩, e3, e4, e5, e6⟩
    · have hjl : j = acc.length := by
        have := (List.getElem?_eq_some_iff.mp e).1
        simp at this; omega
      subst hjl
      rw [← I.len] at pT
      obtain rfl : r = .ref T := by simpa using e.symm
      have nD : T ≠ D := tup_ne tT gd (by simp [LObj])
      obtain ⟨o, e2, r2⟩ := tT
      exact ⟨T, us, rfl, ⟨o, up _ _ nD e2, r2⟩, fT, nTO, nTI, pT⟩
theorem ZC.alive {h : Heap} {k : Nat} (kp : KeepB (· = ita) hb h) (it : h.IsListIter ita l k) {T : Addr} (f : h.get? T = none) : hb.get? T = none := by
  cases q : hb.get? T with
  | none => rfl
  | some o =>
    by_cases q' : T = ita
    · subst q'; obtain ⟨o', e', _⟩ := it; rw [f] at e'; cases e'
    · obtain ⟨q1, q2⟩ := kp T o q' q
      by_cases d : IsD o
      · obtain ⟨sl, e1⟩ := q2 d; rw [f] at e1; cases e1
      · have := q1 d; rw [f] at this; cases this
end
/-- how the turns end -/
inductive ZEnd (hb : Heap) (ita l D C : Addr) (p0 : Nat) (n : Int) (vs : List Value) (PT : Nat → Array Value → Prop) (h₀ h : Heap) : Prop
  | mk (acc : List Value) (i kd : Nat) (h1 : ∀ b o, h₀.get? b = some o → h.get? b = some o) (h2 : KeepB (· = ita) hb h) (h3 : ∃ m, h.Ns C m) (h4 : h.get? D = some (LObj acc kd)) (h5 : acc.length = i) (h6 : ∀ (j : Nat) r, acc[j]? = some r → ∃ T us, r = .ref T ∧ IsTup h T us ∧ PT j us) (h7 : p0 + i ≤ vs.length)
     (h8 : (i : Int) ≥ n ∧ h.IsListIter ita l (p0 + i) ∨ ((i : Int) < n ∧ p0 + i = vs.length ∧ ∃ o, h.get? ita = some o ∧ o.cls = .type "list_iterator" ∧ o.data = .fields #[.none, .int (p0 + i : Nat) 0])) (h9 : (i : Int) ≤ n ∨ i = 0) : ZEnd hb ita l D C p0 n vs PT h₀ h
theorem ZI.fin (c : ZC h₀ hb σ z TI TO ri ita l D C p0 vs xs) {i : Nat} {acc : List Value} {h h' : Heap} (I : ZI h₀ hb z TI TO ri ita l D C p0 n PT i i acc h) (kk : ZKeepC z TO ri ita C h h') (nn : ∃ m, h'.Ns C m) (hi : p0 + i ≤ vs.length) (hin : (i : Int) ≤ n ∨ i = 0)
    (e : (i : Int) ≥ n ∧ h'.IsListIter ita l (p0 + i) ∨ ((i : Int) < n ∧ p0 + i = vs.length ∧ ∃ o, h'.get? ita = some o ∧ o.cls = .type "list_iterator" ∧ o.data = .fields #[.none, .int (p0 + i : Nat) 0])) : ZEnd hb ita l D C p0 n vs PT h₀ h' := by
  obtain ⟨kd, gd⟩ := I.d
  exact ⟨acc, i, kd, c.gr I.gr kk, c.keep I.kp kk, nn, kk _ _ c.D1.1 c.D1.2.2.1 c.D1.2.2.2.1 c.D1.2.2.2.2.1 c.D1.2.2.2.2.2 gd, I.len, fun j r e => by
    obtain ⟨T, us, e1, tt, _, _, _, e6⟩ := ZI.tpk I kk j r e
    exact ⟨T, us, e1, tt, e6⟩, hi, e, hin⟩
inductive ZTurn (h₀ hb : Heap) (z TI TO ri ita l D C : Addr) (p0 : Nat) (n : Int) (PT : Nat → Array Value → Prop) (vs : List Value) (s₀ : Shared) (k : Nat) (s' : Shared) : Prop
  | mk (i : Nat) (acc : List Value) (h1 : k = vs.length - i) (h2 : Sm s₀ s') (h3 : p0 + i ≤ vs.length) (h4 : (i : Int) ≤ n ∨ i = 0) (h5 : ZI h₀ hb z TI TO ri ita l D C p0 n PT i i acc s'.heap) : ZTurn h₀ hb z TI TO ri ita l D C p0 n PT vs s₀ k s'
/-- the turns over a zip -/
theorem zip_turns (c : ZC h₀ hb σ z TI TO ri ita l D C p0 vs xs) (hh : A.handled = none) {elt iter : Expr} {x1 x2 : Str} {p1 p2 tp : Pos} {kk : Nat} {scope : Scope} {pos : Pos} {env : Env} (hC : env.locals = C) (k1 : env.kindOf x1 = some .local) (k2 : env.kindOf x2 = some .local) (hne : x1 ≠ x2) (hk : env.scope.kind = .function)
    (hbig : vs.length ≤ BIG)
    (hel : ∀ (i : Nat) (v : Value) (x : V) (t : Tok) (s : Shared) (m : Str → Option Value), (i : Int) < n → vs[p0 + i]? = some v → xs[p0 + i]? = some x → Rep hb v x → s.heap.Ns C m → m x1 = some (.int i t) → m x2 = some v → KeepB (· = ita) hb s.heap → (∀ b o, h₀.get? b = some o → s.heap.get? b = some o) →
      wpAny (model prog w) A (eval elt env) (TurnEnd h₀ PT i s) E0 s)
    {s₀ : Shared} {R : Result → Shared → Prop}
    (hR : ∀ s', Sm s₀ s' → ZEnd hb ita l D C p0 n vs PT h₀ s'.heap → R (.ok .next) s')
    {s : Shared} {i : Nat} {acc : List Value} (m₀ : Sm s₀ s) (hi : p0 + i ≤ vs.length) (hin : (i : Int) ≤ n ∨ i = 0) (I : ZI h₀ hb z TI TO ri ita l D C p0 n PT i i acc s.heap) :
    codeAny (model prog w) A (.compLoop (.ListComp elt [⟨.Tuple [.Name x1 p1, .Name x2 p2] kk tp, iter, [], 0⟩] scope pos) 0 (.ref z) (.ref D) env) R s := by
  subst hC
  refine compTurn_zip (ZTurn h₀ hb z TI TO ri ita l D env.locals p0 n PT vs s₀) (fun k s' hI => ?_) _ ⟨i, acc, rfl, m₀, hi, hin, I⟩
  obtain ⟨i, acc, rfl, mI, hi, hin, I⟩ := hI
  have hl' := c.lst I.kp
  obtain ⟨l1, l2, l3, l4⟩ := c.lall
  obtain ⟨C1, C2, C3, C4, C5⟩ := c.C1
  by_cases hrange : n - (i : Int) ≤ 0
  · refine zip_end1 hh c.ap I.za I.ri hrange fun h' kk' => ?_
    have kc : ZKeepC z TO ri ita env.locals s'.heap h' := fun b o b1 _ _ _ _ e => kk' b o b1 e
    obtain ⟨mm, nn⟩ := I.ns
    exact hR _ (mI.trans ⟨rfl, rfl⟩) (I.fin c kc ⟨mm, nn.at fun o e => kk' _ o C1 e⟩ hi hin (.inl ⟨by omega, I.it.at fun o e => kk' _ o c.ap.i2z e⟩))
  · by_cases hlist : p0 + i < vs.length
    · obtain ⟨x, ex, rx⟩ := c.rp.getRev (List.getElem?_eq_getElem hlist)
      refine zip_item c.ap I.za I.ri (by omega) I.it hl' ⟨l1, l2, l3⟩ (y := vs[p0 + i]) (by simp [hlist]) fun h1 tk t hz1 hTI1 hTO1 hri1 hit1 hpair1 kk1 => ?_
      refine wpAny_letOwnedTupleGo_zip hz1 fun h2 hz2 sb2 => ?_
      have sz : s'.heap.objs.size ≠ z := Nat.ne_of_gt (Heap.lt_size I.za.z)
      obtain ⟨mm, nn⟩ := I.ns
      refine assign_pair hh ⟨_, sb2.extBut _ _ sz hpair1, rfl, _, rfl⟩ k1 k2 hk (nn.at fun o e => sb2.extBut _ o C1 (kk1 _ o C1 C3 C4 C5 e)) fun h3 tk3 n3 kk3 => ?_
      have kc : ZKeepC z TO ri ita env.locals s'.heap h3 := fun b o c1 c2 c3 c4 c5 e => kk3 b o c5 (sb2.extBut b o c1 (kk1 b o c1 c2 c3 c4 e))
      have I3 := ZI.read (last := .none) c I kc (kk3 _ _ C1.symm hz2) (kk3 _ _ C2.symm (sb2.extBut _ _ c.ap.TIz hTI1)) (kk3 _ _ C3.symm (sb2.extBut _ _ c.ap.TOz hTO1)) (kk3 _ _ C4.symm (sb2.extBut _ _ c.ap.i1z hri1)) ((hit1.extBut sb2.extBut c.ap.i2z).at fun o e => kk3 _ o C5.symm e) n3
      clear hz1 hTI1 hTO1 hri1 hit1 hpair1 kk1 hz2 sb2 kk3 kc
      refine wpAny_mono (hel i vs[p0 + i] x t { s' with heap := h3, toks := tk3 } _ (by omega) (List.getElem?_eq_getElem hlist) ex rx n3 (by simp [hne]) (by simp) I3.kp I3.gr) (fun r s4 te => ?_) fun _ _ f => f
      obtain ⟨m4, k4, gr4, T, us, er, tT, fT, pT⟩ := te
      subst er
      have I4 := ZI.keep I3 k4 gr4
      obtain ⟨kd, gd4⟩ := I4.d
      have hlen := I4.len
      have hT1 := c.alive I3.kp I3.it fT
      have nTO : T ≠ TO := by rintro rfl; obtain ⟨_, _, _, _, q⟩ := I3.za; exact absurd ((show h3.get? T = some _ from q).symm.trans fT) (fun e => by cases e)
      have nTI : T ≠ TI := by rintro rfl; have q := I3.za.ti; exact absurd ((show h3.get? T = some _ from q).symm.trans fT) (fun e => by cases e)
      refine call_meets PySem.F.slot_list_append ⟨_, gd4, rfl⟩ PySem.F.entry_list_append (PySem.F.args_list_append_2 _ _) (AutoListH.list_append_list_val_0 _ acc.toArray kd _ (by simp; exact big_line (by omega))) ⟨gd4, ?_⟩
      exact ⟨vs.length - (i + 1), by omega, i + 1, acc ++ [.ref T], rfl, mI.trans (m4.trans ⟨rfl, rfl⟩), by omega, .inl (by omega), ZI.put c I4 gd4 tT hT1 nTO nTI pT⟩
    · refine zip_end2 hh c.ap I.za I.ri (by omega) I.it hl' ⟨l1, l2, l3⟩ (by simp; omega) fun h' tk oi gi ci di kk' => ?_
      have kc : ZKeepC z TO ri ita env.locals s'.heap h' := fun b o b1 b2 b3 b4 _ e => kk' b o b1 b2 b3 b4 e
      obtain ⟨mm, nn⟩ := I.ns
      exact hR _ (mI.trans ⟨rfl, rfl⟩) (I.fin c kc ⟨mm, nn.at fun o e => kk' _ o C1 C3 C4 C5 e⟩ hi hin (.inr ⟨by omega, by omega, oi, gi, ci, di⟩))
end

/-! Z3 -/
/-! a comprehension over zip(range(n), it) -/
/-- nothing of it can change -/
noncomputable def freeze (σ : Hp) : Hp := fun a => match σ a with | some (.list xs) => some (.flist xs) | some (.flist xs) => some (.flist xs) | _ => none
theorem freeze_mut (σ : Hp) (a : Addr) : ¬ Mut (freeze σ) a := by
  rintro ⟨o, e, m⟩
  unfold freeze at e
  split at e <;> first | (cases e; cases m) | cases e
theorem freeze_none {σ : Hp} {a : Addr} (e : σ a = none) : freeze σ a = none := by unfold freeze; rw [e]
theorem freeze_list {σ : Hp} {a : Addr} {xs : List V} (e : listAt σ a = some xs) : listAt (freeze σ) a = some xs := by
  unfold listAt at e
  split at e
  · rename_i q; cases e; exact listAt_flist (by unfold freeze; rw [q])
  · rename_i q; cases e; exact listAt_flist (by unfold freeze; rw [q])
  · cases e
theorem KeepB.tups {h₀ : Heap} {σ : Hp} {hb h : Heap} {a : Addr} (hw : W h₀ σ hb) (m : σ a ≠ none) (k : KeepB (· = a) hb h) : Tups hb h := fun b p e i => by
  obtain ⟨o, eo⟩ := Option.ne_none_iff_exists'.mp m
  exact k.at (by rintro rfl; exact holds_not_imm (hw.holds _ _ eo) e i) (imm_notD i) e
theorem freezeW {h₀ : Heap} {σ : Hp} {hb h : Heap} {a : Addr} {l : Option Addr} {i : Nat} (hw : W h₀ σ hb) (e : σ a = some (.iter l i)) (k : KeepB (· = a) hb h) (gr : ∀ b o, h₀.get? b = some o → h.get? b = some o) : W h₀ (freeze σ) h := by
  have t := k.tups hw (by rw [e]; simp)
  refine ⟨gr, fun b o eb => ?_, fun b m => absurd m (freeze_mut σ b), fun b o eb => ?_⟩
  · unfold freeze at eb
    split at eb
    · rename_i q; cases eb
      have nb : b ≠ a := by rintro rfl; rw [e] at q; cases q
      obtain ⟨vs, n, g, r⟩ := hw.holds _ _ q
      exact ⟨vs, LObj.isList (k.at nb (fun es k q => by cases q) g), r.tups t⟩
    · rename_i q; cases eb
      have nb : b ≠ a := by rintro rfl; rw [e] at q; cases q
      obtain ⟨vs, ⟨o, g, c, n, d⟩, r⟩ := hw.holds _ _ q
      exact ⟨vs, ⟨o, k.at nb (fun es k q => by rw [d] at q; cases q) g, c, n, d⟩, r.tups t⟩
    · cases eb
  · unfold freeze at eb
    split at eb
    · rename_i q; cases eb; have := hw.small _ _ q; exact this
    · rename_i q; cases eb; have := hw.small _ _ q; exact this
    · cases eb
theorem frs_keepB {A : Around} {h₀ : Heap} {σ : Hp} {hb h : Heap} {a : Addr} (f : Frs A h₀ σ hb) (m : σ a ≠ none) (k : KeepB (· = a) hb h) : Frs A h₀ (freeze σ) h := by
  obtain ⟨l, e, q⟩ := f.go
  refine ⟨l, e, fun env me => ?_⟩
  obtain ⟨k1, L, e1, e2, e3, o, e4, e5⟩ := q env me
  obtain ⟨sl, e6⟩ := (k L o (by rintro rfl; exact m e3) e4).2 e5
  exact ⟨k1, L, e1, e2, freeze_none e3, _, e6, by obtain ⟨es, n, d⟩ := e5; exact ⟨es, n, d⟩⟩
theorem set_cases {F : Frm} {j i : Nat} {v u : V} (e : (F.set j (some u))[i]? = some (some v)) : (i = j ∧ v = u) ∨ (i ≠ j ∧ F[i]? = some (some v)) := by
  by_cases q : i = j
  · subst q
    rw [List.getElem?_set_self'] at e
    cases q2 : F[i]? with
    | none => rw [q2] at e; cases e
    | some z => rw [q2] at e; simp at e; exact .inl ⟨rfl, e.symm⟩
  · rw [List.getElem?_set_ne (fun h => q h.symm)] at e; exact .inr ⟨q, e⟩
section
variable {prog : Program} {w : World} {A : Around} {s : Shared} {c : Cfg} {env : Env} {own : Addr → Prop} {iv : Value} {F : Frm} {h₀ : Heap} {σ : Hp} {hb : Heap}
/-- the frame of a comprehension without cells of its own, laid -/
theorem comp_setupZ {elt t it : Expr} {ifs : List Expr} {rest : List Comprehension} {scope : Scope} {pos : Pos}
    (ok : scOk c scope.names = true) (hk : scope.kind = .function) (noc : scope.names.all (fun x => x.2 != .cell) = true)
    (hwb : W h₀ σ hb) (hf : FrOk c env own F h₀ σ hb) (ko : ∀ b o, hb.get? b = some o → s.heap.get? b = some o)
    {RR : Value → Addr → Result → Shared → Prop}
    (self : ∀ (A : Around) (s' : Shared) (Q : Value → Shared → Prop) (E : Value → Shared → Prop), (∀ b o, s.heap.get? b = some o → s'.heap.get? b = some o) → Q iv s' → wpAny (model prog w) A (pyIter iv) Q E s')
    (turns : ∀ env' D s₃, Sm s s₃ → (∀ b o, s.heap.get? b = some o → s₃.heap.get? b = some o) → s₃.heap.get? D = some (LObj [] 0) → s₃.heap.Ns env'.locals (fun _ => none) → s.heap.get? D = none → s.heap.get? env'.locals = none → D ≠ env'.locals →
      FrOk { sc := scope.names, fns := c.fns } env' (fun a => a = env'.locals) (frOf (fmapOf c scope.names) F) h₀ σ s₃.heap →
      (∀ y a, env'.cells.lookup y = some a → (y, NameKind.free) ∈ scope.names ∧ a = (env.cells.lookup y).getD 0) →
      codeAny (model prog w) A (.compLoop (.ListComp elt (⟨t, it, ifs, 0⟩ :: rest) scope pos) 0 iv (.ref D) env') (RR (.ref D) env'.locals) s₃) :
    wpAny (model prog w) A (newList []) (fun acc s₃ => wpAny (model prog w) A (newFunctionEnv scope env.globals (clGo env scope.names []) [] env.qual none .none (some env)) (fun cenv s₄ =>
      codeAny (model prog w) A (.compStart (.ListComp elt (⟨t, it, ifs, 0⟩ :: rest) scope pos) 0 iv acc { cenv with scope := relabel scope env }) (RR acc cenv.locals) s₄) E0 s₃) E0 s := by
  refine wpAny_newObj_type (newEnv_cells (fun h₁ Ac hns₁ old₁ own₁ => ?_))
  dsimp only at hns₁ old₁ own₁ ⊢
  generalize hH2 : s.heap.push { cls := .type "list", dict := none, data := .seq ([] : List Value).toArray } = H2 at hns₁ old₁ own₁ ⊢
  have hAc : Ac = [] := by
    cases Ac with
    | nil => rfl
    | cons p r =>
      have := (own₁.mem p.1 p.2 (.head _)).1
      rw [List.all_eq_true] at noc
      have := noc _ this
      simp at this
  subst hAc
  have hC : H2.objs.size = s.heap.objs.size + 1 := by rw [← hH2, Heap.size_push]
  have hDC : s.heap.objs.size ≠ H2.objs.size := by rw [hC]; exact Nat.ne_of_lt (Nat.lt_succ_self _)
  have old2 : ∀ b o, s.heap.get? b = some o → H2.get? b = some o := fun b o e => hH2 ▸ Heap.get?_push_of_some _ e
  have old : ∀ b o, s.heap.get? b = some o → h₁.get? b = some o := fun b o e => old₁ b o (old2 b o e)
  have gD2 : H2.get? s.heap.objs.size = some (LObj [] 0) := hH2 ▸ Heap.get?_push_size _ rfl
  have hacc : h₁.get? s.heap.objs.size = some (LObj [] 0) := old₁ _ _ gD2
  have sD : s.heap.get? s.heap.objs.size = none := get_push_none _
  have back : ∀ a, s.heap.get? a = none → hb.get? a = none := fun a e => by
    cases q : hb.get? a with
    | none => rfl
    | some o => rw [ko a o q] at e; cases e
  have back2 : ∀ a, H2.get? a = none → s.heap.get? a = none := fun a e => by
    cases q : s.heap.get? a with
    | none => rfl
    | some o => rw [old2 a o q] at e; cases e
  have sC : s.heap.get? H2.objs.size = none := back2 _ (get_push_none _)
  have own1 : OwnCells scope.names H2.objs.size hb h₁ [] := ⟨own₁.all, fun x a m => by simp at m, own₁.apart⟩
  have fr1 : FrOk { sc := scope.names, fns := c.fns } (compEnvC scope ([] ++ clGo env scope.names []) H2.objs.size env) (fun a => a ∈ H2.objs.size :: ([] : List (Str × Addr)).map (·.2)) (frOf (fmapOf c scope.names) F) h₀ σ h₁ :=
    inner_ok hf ok hk rfl own1 (fun a e => (beside_one hwb e).2) (fun b o e => old b o (ko b o e)) (back _ sC) hns₁
  have fr2 : FrOk { sc := scope.names, fns := c.fns } (compEnvC scope ([] ++ clGo env scope.names []) H2.objs.size env) (fun a => a = H2.objs.size) (frOf (fmapOf c scope.names) F) h₀ σ h₁ := by
    have e : (fun a => a ∈ H2.objs.size :: ([] : List (Str × Addr)).map (·.2)) = (fun a => a = H2.objs.size) := by funext a; simp
    rw [← e]; exact fr1
  have loop : ∀ s₃ : Shared, s₃.heap = h₁ → Sm s s₃ →
      codeAny (model prog w) A (.compLoop (.ListComp elt (⟨t, it, ifs, 0⟩ :: rest) scope pos) 0 iv (.ref s.heap.objs.size) (compEnvC scope ([] ++ clGo env scope.names []) H2.objs.size env)) (RR (.ref s.heap.objs.size) H2.objs.size) s₃ :=
    fun s₃ e₃ m₃ => turns _ _ s₃ m₃ (by rw [e₃]; exact old) (by rw [e₃]; exact hacc) (by rw [e₃]; exact hns₁) sD sC hDC (by rw [e₃]; exact fr2) (fun y a e => by
      have e' : (clGo env scope.names []).lookup y = some a := e
      rcases clGo_some _ _ e' with q | q
      · cases q
      · exact q)
  exact codeAny_compStart_list (loop _ rfl ⟨Eq.refl _, Eq.refl _⟩) (self _ _ _ _ old (loop _ rfl ⟨Eq.refl _, Eq.refl _⟩))
/-- the frame within, amid the turns -/
theorem inner_now {scope : Scope} {env' : Env} {h1 h : Heap} {ita : Addr} {li : Option Addr} {pi : Nat} {i1 i2 : Nat} {x1 x2 : Str} {k : Nat} {t : Tok} {v : Value} {x : V} {m : Str → Option Value}
    (ok : scOk c scope.names = true) (noc : scope.names.all (fun x => x.2 != .cell) = true)
    (hwb : W h₀ σ hb) (hf : FrOk c env own F h₀ σ hb) (f1 : FrOk { sc := scope.names, fns := c.fns } env' (fun a => a = env'.locals) (frOf (fmapOf c scope.names) F) h₀ σ h1)
    (hcl : ∀ y a, env'.cells.lookup y = some a → (y, NameKind.free) ∈ scope.names ∧ a = (env.cells.lookup y).getD 0)
    (e : σ ita = some (.iter li pi)) (kb : KeepB (· = ita) hb h) (n1 : (Cfg.mk scope.names c.fns).names[i1]? = some x1) (n2 : (Cfg.mk scope.names c.fns).names[i2]? = some x2)
    (hn : h.Ns env'.locals m) (m1 : m x1 = some (.int k t)) (m2 : m x2 = some v) (rv : Rep hb v x) (nf1 : scope.names.lookup x1 ≠ some .free) (nf2 : scope.names.lookup x2 ≠ some .free) :
    FrOk { sc := scope.names, fns := c.fns } env' (fun a => a = env'.locals) (((frOf (fmapOf c scope.names) F).set i1 (some (.int k))).set i2 (some x)) h₀ (freeze σ) h := by
  have tt := kb.tups hwb (by rw [e]; simp)
  have nd := (show scOk c scope.names = true from ok)
  simp only [scOk, Bool.and_eq_true, decide_eq_true_eq, List.all_eq_true] at nd
  have nc : ∀ y, scope.names.lookup y ≠ some .cell := fun y q => by
    have := mem_of_lookup q
    rw [List.all_eq_true] at noc
    have := noc _ this
    simp at this
  refine ⟨f1.kind, f1.glob, f1.bi, f1.gk, f1.vk, ⟨m, hn, fun i y u e1 e2 e3 => ?_⟩, fun i y e1 e2 => ?_, f1.inj, ⟨f1.loc.1, freeze_none f1.loc.2.1, f1.loc.2.2⟩, f1.nd, fun a q => ?_⟩
  · rcases set_cases e3 with ⟨rfl, rfl⟩ | ⟨q2, e4⟩
    · rw [n2] at e1; cases e1
      exact ⟨v, m2, rv.tups tt⟩
    · rcases set_cases e4 with ⟨rfl, rfl⟩ | ⟨q1, e5⟩
      · rw [n1] at e1; cases e1
        exact ⟨_, m1, .int _ _⟩
      · exfalso
        refine inner_free_at (F := F) ok e1 (fun q => ?_) u e5
        rcases f1.vk i y e1 with ⟨z, _⟩ | ⟨_, z⟩ | ⟨_, z | z⟩
        · rw [show (Cfg.mk scope.names c.fns).sc.lookup y = _ from q] at z; cases z
        · rw [e2] at z; cases z
        · rw [e2] at z; cases z
        · rw [e2] at z; cases z
  · obtain ⟨a, cv, g1, g2, g3, g4, g5, g6⟩ := f1.cell i y e1 e2
    obtain ⟨mem, ea⟩ := hcl y a g1
    have o := nd.2 _ mem
    simp at o
    have hlt := List.idxOf_lt_length_iff.mpr o.1.1
    have e' : c.names[c.names.idxOf y]? = some y := by rw [List.getElem?_eq_getElem hlt, List.getElem_idxOf hlt]
    have nl : env.kindOf y ≠ some .local := by
      rcases hf.vk _ _ e' with ⟨q, _⟩ | ⟨_, q⟩ | ⟨_, q | q⟩
      · exact absurd q o.1.2
      all_goals rw [q]; simp
    obtain ⟨a', cv', k1, ⟨ob, k2, k2'⟩, k3, k4, k5, k6⟩ := hf.cell _ _ e' nl
    rw [k1] at ea; simp at ea; subst ea
    have nI : a ≠ ita := by rintro rfl; rw [e] at g3; cases g3
    refine ⟨a, cv', g1, ⟨ob, kb.at nI (fun es k q => by rw [k2'] at q; cases q) k2, k2'⟩, freeze_none g3, g4, fun q => absurd q (nc y), fun u hu => ?_⟩
    have lf : scope.names.lookup y = some .free := lookup_of_nodup nd.1 mem
    have h0 : (frOf (fmapOf c scope.names) F)[i]? = some (some u) := by
      rcases set_cases hu with ⟨rfl, rfl⟩ | ⟨q2, e4⟩
      · rw [n2] at e1; cases e1; exact absurd lf nf2
      · rcases set_cases e4 with ⟨rfl, rfl⟩ | ⟨q1, e5⟩
        · rw [n1] at e1; cases e1; exact absurd lf nf1
        · exact e5
    obtain ⟨kk, g, mm, ll⟩ := names_mem e1
    have lk : scope.names.lookup y = some kk := lookup_of_nodup nd.1 mm
    rw [lf] at lk; cases lk
    unfold frOf fmapOf at h0
    rw [List.getElem?_map, List.getElem?_map, g] at h0
    simp at h0
    obtain ⟨w, w1, w2⟩ := k6 u (by cases q : F[List.idxOf y c.names]? with | none => rw [q] at h0; cases h0 | some z => rw [q] at h0; simp at h0; rw [h0])
    exact ⟨w, w1, w2.tups tt⟩
  · obtain ⟨o, es, ep, ho, _⟩ := hn
    subst q; exact ⟨o, ho⟩
end

/-! Z4 -/
/-- told by itself, without the heap -/
noncomputable def V.flat : V → Prop
  | .none => True | .bool _ => True | .int _ => True | .str _ => True | .ref _ => True | .val _ => True | _ => False
theorem flat_rep {h h' : Heap} {v : Value} {x : V} (f : x.flat) (r : Rep h v x) : Rep h' v x := by
  cases r <;> first | exact f.elim | constructor
theorem flat_reps {h h' : Heap} {vs : List Value} {xs : List V} (r : Reps h vs xs) : (∀ x ∈ xs, x.flat) → Reps h' vs xs :=
  r.ind (P := fun vs xs => (∀ x ∈ xs, x.flat) → Reps h' vs xs) (fun _ => .nil) fun a _ ih f => .cons (flat_rep (f _ (.head _)) a) (ih fun y m => f y (.tail _ m))
theorem reps_of_get {h : Heap} : ∀ {vs : List Value} {xs : List V}, vs.length = xs.length → (∀ (j : Nat) v x, vs[j]? = some v → xs[j]? = some x → Rep h v x) → Reps h vs xs
  | [], [], _, _ => .nil
  | v :: vs, x :: xs, l, g => .cons (g 0 v x rfl rfl) (reps_of_get (by simpa using l) fun j v x a b => g (j + 1) v x (by simpa using a) (by simpa using b))
noncomputable def zipRes (n : Int) (p0 : Nat) (xs : List V) (f : Nat → V → List V) : List V := ((xs.drop p0).take n.toNat).mapIdx fun j x => .tup (f j x)
noncomputable def zipHp (σ : Hp) (ita l : Addr) (p0 : Nat) (xs : List V) (n : Int) : Hp := if n ≤ ((xs.length - p0 : Nat) : Int) then upd σ ita (.iter (some l) (p0 + n.toNat)) else upd σ ita (.iter none xs.length)
inductive ZipK (Φ : Fns) (fm : List (Option Nat)) (i1 i2 : Nat) (es : List PE) (F : Frm) (Q : V → Hp → Prop) (vs : List V) (σ : Hp) : Prop
  | mk (n : Int) (ita l : Addr) (p0 : Nat) (xs : List V) (f : Nat → V → List V) (h1 : vs = [.rng 0 n 1, .ref ita]) (h2 : Builtin.Range.small 0 n 1 = true) (h3 : σ ita = some (.iter (some l) p0)) (h4 : listAt σ l = some xs) (h5 : p0 ≤ xs.length) (h6 : (∀ (i : Nat) x, xs[p0 + i]? = some x → (i : Int) < n → (f i x).length ≤ BIG ∧ (∀ y ∈ f i x, y.flat) ∧ vEs Φ es (fun vs _ => vs = f i x) (((frOf fm F).set i1 (some (.int i))).set i2 (some x)) (freeze σ))) (h7 : newL (zipRes n p0 xs f) Q (zipHp σ ita l p0 xs n)) : ZipK Φ fm i1 i2 es F Q vs σ
noncomputable def PS.zipc (r : Nat) (fm : List (Option Nat)) (i1 i2 : Nat) (es : List PE) (pr pit : PE) : PS := fun Φ R F σ => vEs Φ [pr, pit] (ZipK Φ fm i1 i2 es F (fun v σ => R .next (F.set r (some v)) σ)) F σ
theorem s_zipc (Φ : Fns) (R : Fl → Frm → Hp → Prop) (F : Frm) (σ : Hp) (r : Nat) (fm : List (Option Nat)) (i1 i2 : Nat) (es : List PE) (pr pit : PE) :
  vS Φ (.zipc r fm i1 i2 es pr pit) R F σ = vEs Φ [pr, pit] (ZipK Φ fm i1 i2 es F (fun v σ => R .next (F.set r (some v)) σ)) F σ := rfl
theorem rangeSize_nat (n : Int) : Builtin.Range.rangeSize 0 n 1 = n.toNat := by
  unfold Builtin.Range.rangeSize
  simp
  omega
/-- the parts of such a comprehension -/
structure ZipOk (c : Cfg) (es : List Expr) (x1 x2 zn : Str) (e1 e2 : Expr) (scope : Scope) (ps : List PE) (pr pit : PE) (i1 i2 : Nat) (fm : List (Option Nat)) : Prop where
  ok : scOk c scope.names = true
  kind : scope.kind = .function
  noc : scope.names.all (fun x => x.2 != .cell) = true
  fm : fm = fmapOf c scope.names
  n1 : (Cfg.mk scope.names c.fns).names[i1]? = some x1
  n2 : (Cfg.mk scope.names c.fns).names[i2]? = some x2
  l1 : scope.names.lookup x1 = some .local
  l2 : scope.names.lookup x2 = some .local
  ne : x1 ≠ x2
  hz : zn = "zip"
  zk : c.sc.lookup zn = some .globalImplicit
  args : CEs c [e1, e2] [pr, pit]
  ce : CEs { sc := scope.names, fns := c.fns } es ps
theorem zip_boot : bootBuiltins ("zip" : Str) = some (.type "zip") := by decide +kernel
section
variable {prog : Program} {w : World} {h₀ : Heap} {mg mb : Str → Option Value} {Φ : Fns} {n : Nat} {c : Cfg} {A : Around} {s : Shared} {σ : Hp} {env : Env} {own : Addr → Prop} {F : Frm}
theorem zipc_core {es : List Expr} {x1 x2 zn : Str} {e1 e2 : Expr} {scope : Scope} {ps : List PE} {pr pit : PE} {i1 i2 : Nat} {fm : List (Option Nat)} {k1 k2 : Nat} {ep tp p1 p2 zp cp pos : Pos} (C : ZipOk c es x1 x2 zn e1 e2 scope ps pr pit i1 i2 fm)
    (X : Here prog w h₀ mg mb Φ n c A s σ env own F) {Q : V → Hp → Prop} (v : vEs Φ [pr, pit] (ZipK Φ fm i1 i2 ps F Q) F σ) {RR : Value → Addr → Result → Shared → Prop}
    (hRR : ∀ σ₁ s₁ s₂, Step h₀ σ s.heap σ₁ s₁.heap → Sm s s₁ → Sm s₁ s₂ → CompEnd h₀ σ₁ s₁.heap s₂ Q RR) :
    wpAny (model prog w) A (eval (.Call (.Name zn zp) [e1, e2] [] cp) env) (fun x s₁ => wpAny (model prog w) A (pyIter x) (fun iv s₂ =>
      wpAny (model prog w) A (newList []) (fun acc s₃ => wpAny (model prog w) A (newFunctionEnv scope env.globals (clGo env scope.names []) [] env.qual none .none (some env)) (fun cenv s₄ =>
        codeAny (model prog w) A (.compStart (.ListComp (.Tuple es k1 ep) [⟨.Tuple [.Name x1 p1, .Name x2 p2] k2 tp, .Call (.Name zn zp) [e1, e2] [] cp, [], 0⟩] scope pos) 0 iv acc { cenv with scope := relabel scope env }) (RR acc cenv.locals) s₄) E0 s₃) E0 s₂) E0 s₁) E0 s := by
  obtain ⟨ok, kind, noc, hfm, n1, n2, l1, l2, hne, hzn, zk, args, ce⟩ := C
  subst hzn hfm
  refine Call_Name rfl (load_glob X.G X.w X.f zk (by decide) (.inr ⟨X.NM.fr _ (by decide +kernel), (X.G.boot _ (by decide)).trans zip_boot⟩) ?_)
  refine PyProof.Rows.callWith_type (star_plain args) (evalArgs_ces args (wpAny_mono (sEs args X v) (fun vs s₁ => PVs.on fun xs' σ₁ rs st m₁ q => ?_) fun _ _ f => f))
  obtain ⟨N, ita, l, p0, xs, f, rfl, hsm, eit, el, hp0, hf, hnew⟩ := q
  obtain ⟨vr, vi, rfl, r1, r2⟩ := two_rep rs
  obtain rfl := r2.iref
  obtain ⟨rg, tk1, tk2, tk3, rfl, hr⟩ := r1.irng
  have hwb := st.w
  have hit : s₁.heap.IsListIter ita l p0 := hwb.holds _ _ eit
  obtain ⟨oi, gi, ci, di⟩ := id hit
  obtain ⟨ws, hl, rw⟩ := hwb.list el
  have hwl := rw.length
  have hfr := X.f.step st
  have hfs := X.fs.step st
  refine callType_new PySem.F.called_zip (by decide) (PySem.F.typeCall_zip_2 _ _) (PySem.F.newCall_zip_2 _ _) (fun obj => PySem.F.args_object_init_3 obj _ _) PySem.F.entry_zip_new
    (zip_new rg ita N tk1 tk2 tk3 hsm) ⟨hr, ⟨oi, gi, ci⟩, fun h' eh' => ?_⟩
  generalize hZ : s₁.heap.objs.size = Z at eh' ⊢
  have lo : ∀ b o, s₁.heap.get? b = some o → b < Z := fun b o e => hZ ▸ Heap.lt_size e
  have z1 : (zH1 s₁.heap 0 (Builtin.Range.rangeSize 0 N 1) 1).objs.size = Z + 1 := by rw [← hZ]; exact Heap.size_push ..
  generalize hh1 : zH1 s₁.heap 0 (Builtin.Range.rangeSize 0 N 1) 1 = h1 at z1 eh'
  have g1 : h1.get? Z = some { cls := .type "range_iterator", data := .fields #[rawInt 0, rawInt (Builtin.Range.rangeSize 0 N 1), rawInt 1] } := by rw [← hh1, ← hZ]; exact Heap.get?_push_size _ rfl
  have z2 : (h1.push { cls := .type "tuple", data := .seq #[.ref Z, .ref ita] }).objs.size = Z + 2 := by rw [Heap.size_push, z1]
  have g2 : (h1.push { cls := .type "tuple", data := .seq #[.ref Z, .ref ita] }).get? (Z + 1) = some { cls := .type "tuple", data := .seq #[.ref Z, .ref ita] } := by rw [← z1]; exact Heap.get?_push_size _ rfl
  generalize hh2 : h1.push { cls := .type "tuple", data := .seq #[.ref Z, .ref ita] } = h2 at z2 eh' g2
  have z3 : (h2.push { cls := .type "tuple", data := .seq #[.none, .none] }).objs.size = Z + 3 := by rw [Heap.size_push, z2]
  have g3 : (h2.push { cls := .type "tuple", data := .seq #[.none, .none] }).get? (Z + 2) = some { cls := .type "tuple", data := .seq #[.none, .none] } := by rw [← z2]; exact Heap.get?_push_size _ rfl
  generalize hh3 : h2.push { cls := .type "tuple", data := .seq #[.none, .none] } = h3 at z3 eh' g3
  have g4 : h'.get? (Z + 3) = some { cls := .type "zip", data := .fields #[.none, .bool false, .bool false, .ref (Z + 1), .ref (Z + 2)] } := by rw [eh', ← z3]; exact Heap.get?_push_size _ rfl
  have up3 : ∀ b o, h3.get? b = some o → h'.get? b = some o := fun b o e => by rw [eh']; exact Heap.get?_push_of_some _ e
  have up2 : ∀ b o, h2.get? b = some o → h'.get? b = some o := fun b o e => up3 b o (by rw [← hh3]; exact Heap.get?_push_of_some _ e)
  have up1 : ∀ b o, h1.get? b = some o → h'.get? b = some o := fun b o e => up2 b o (by rw [← hh2]; exact Heap.get?_push_of_some _ e)
  have up : ∀ b o, s₁.heap.get? b = some o → h'.get? b = some o := fun b o e => up1 b o (by rw [← hh1]; exact Heap.get?_push_of_some _ e)
  refine ⟨⟨_, g4, rfl⟩, ?_⟩
  have hz : IsZip h' (Z + 3) (Z + 1) (Z + 2) .none := g4
  refine wpAny_pyIter_zip hz ?_
  have none_of : ∀ a, Z ≤ a → s₁.heap.get? a = none := fun a q => by
    cases e : s₁.heap.get? a with
    | none => rfl
    | some o => exact absurd (lo _ _ e) (Nat.not_lt_of_le q)
  have iZ : @LT.lt Nat _ ita Z := lo _ _ gi
  refine comp_setupZ (hb := s₁.heap) ok kind noc hwb hfr up (fun A s' Q E k q => wpAny_pyIter_zip (k _ _ g4) q) fun env' D s₃ m₃ old gD hns nD nC hDC f1 hcl => ?_
  have lo' : ∀ {b o}, h'.get? b = some o → b ≠ D ∧ b ≠ env'.locals := fun {b o} e => ⟨(by rintro rfl; rw [show h'.get? b = none from nD] at e; cases e), (by rintro rfl; rw [show h'.get? env'.locals = none from nC] at e; cases e)⟩
  have gi' := up _ _ gi
  have nDb : s₁.heap.get? D = none := by
    cases e : s₁.heap.get? D with
    | none => rfl
    | some o => have := up _ _ e; rw [show h'.get? D = none from nD] at this; cases this
  have nCb : s₁.heap.get? env'.locals = none := by
    cases e : s₁.heap.get? env'.locals with
    | none => rfl
    | some o => have := up _ _ e; rw [show h'.get? env'.locals = none from nC] at this; cases this
  have ap : ZApart (Z + 3) (Z + 1) (Z + 2) Z ita := ⟨by simp, by simp, by simp, Nat.ne_of_lt (Nat.lt_of_lt_of_le iZ (Nat.le_add_right _ _)), by simp, by simp, Nat.ne_of_gt (Nat.lt_of_lt_of_le iZ (Nat.le_add_right _ _)), by simp, Nat.ne_of_gt (Nat.lt_of_lt_of_le iZ (Nat.le_add_right _ _)), Nat.ne_of_gt iZ⟩
  have cz : ZC h₀ s₁.heap σ₁ (Z + 3) (Z + 1) (Z + 2) Z ita l D env'.locals p0 ws xs :=
    ⟨hwb, eit, el, hl, rw, ap, none_of _ (by omega), none_of _ (by omega), none_of _ (by omega), none_of _ (by omega), nDb, nCb,
      ⟨(lo' g4).1.symm, (lo' (up2 _ _ g2)).1.symm, (lo' (up3 _ _ g3)).1.symm, (lo' (up1 _ _ g1)).1.symm, (lo' gi').1.symm, hDC⟩,
      ⟨(lo' g4).2.symm, (lo' (up2 _ _ g2)).2.symm, (lo' (up3 _ _ g3)).2.symm, (lo' (up1 _ _ g1)).2.symm, (lo' gi').2.symm⟩⟩
  have kloc : ∀ (i : Nat) y, (Cfg.mk scope.names c.fns).names[i]? = some y → scope.names.lookup y = some .local → env'.kindOf y = some .local := fun i y e1 e2 => by
    rcases f1.vk i y e1 with ⟨_, q⟩ | ⟨q, _⟩ | ⟨q, _⟩
    · exact q
    · rw [show (Cfg.mk scope.names c.fns).sc.lookup y = _ from e2] at q; cases q
    · rw [show (Cfg.mk scope.names c.fns).sc.lookup y = _ from e2] at q; cases q
  refine zip_turns (n := N.toNat) (PT := fun j us => ∃ x vs, xs[p0 + j]? = some x ∧ us = vs.toArray ∧ ∀ h, Reps h vs (f j x)) cz X.R.handled rfl (kloc _ _ n1 l1) (kloc _ _ n2 l2) hne f1.kind (by rw [hwl]; exact hwb.len el)
    (fun i v x t s5 m hi ev ex rv hn mm1 mm2 kb gr => ?_) (fun s' mS ze => ?_) (s₀ := s₃) (i := 0) (acc := []) .rfl (by rw [hwl]; simpa using hp0) (.inr rfl)
    ⟨fun b o e => old b o (up b o (hwb.stays b o e)), .of fun b o _ e => old b o (up b o e), hit.at fun o e => old _ o (up _ o e), ⟨old _ _ g4, old _ _ (up2 _ _ g2), ⟨_, _, old _ _ (up3 _ _ g3)⟩⟩, ?_, ⟨_, hns⟩, ⟨_, gD⟩, rfl, fun j r e => by simp at e⟩
  · obtain ⟨hb1, hb2, hv⟩ := hf i x ex (by omega)
    have w5 : W h₀ (freeze σ₁) s5.heap := freezeW hwb eit kb gr
    have fr5 := inner_now ok noc hwb hfr f1 hcl eit kb n1 n2 hn mm1 mm2 rv (by rw [l1]; simp) (by rw [l2]; simp)
    have X5 : Here prog w h₀ mg mb Φ n { sc := scope.names, fns := c.fns } A s5 (freeze σ₁) env' (fun a => a = env'.locals) (((frOf (fmapOf c scope.names) F).set i1 (some (.int i))).set i2 (some x)) := ⟨X.G, X.NM, X.R, w5, fr5, frs_keepB hfs (by rw [eit]; simp) kb⟩
    refine wpAny_Tuple_spliced (wpAny_mono (sEs ce X5 hv) (fun vs s6 => PVs.on fun xs6 σ6 rs6 st6 m6 q6 => ?_) fun _ _ f => f)
    subst q6
    have hl6 := rs6.length
    have k6 : KeepB (fun _ => False) s5.heap s6.heap := fun b o _ e => ⟨fun d => st6.keeps b o (freeze_mut _ _) d e, fun d => st6.dict b o (freeze_mut _ _) (fun f => f) d e⟩
    have kp : ∀ b o, s6.heap.get? b = some o → (s6.heap.push { cls := .type "tuple", data := .seq vs.toArray }).get? b = some o := fun b o e => Heap.get?_push_of_some _ e
    refine ⟨big_line (by rw [hl6]; exact hb1), m6.trans ⟨Eq.refl _, Eq.refl _⟩, k6.trans (.of fun b o _ e => kp b o e), fun b o e => kp b o (st6.w.stays b o e), _, _, rfl, ⟨_, Heap.get?_push_size _ rfl, rfl, 0, rfl⟩, ?_, x, vs, ex, rfl, fun h => flat_reps rs6 hb2⟩
    cases e : s5.heap.get? s6.heap.objs.size with
    | none => rfl
    | some o =>
      obtain ⟨o', e', _⟩ := st6.alive _ _ e
      exact absurd (Heap.lt_size e') (Nat.lt_irrefl _)
  · obtain ⟨acc, i, kd, gr, kb, hnC, gD', hlen, htp, hle, hend, hin⟩ := ze
    obtain ⟨mm, nn⟩ := hnC
    rw [hwl] at hle
    have hL : (((xs.length - p0 : Nat)) : Int) = (xs.length : Int) - p0 := by omega
    have mu : Mut σ₁ ita := ⟨_, eit, rfl⟩
    have hiN : i = min N.toNat (xs.length - p0) := by
      rcases hend with ⟨q, _⟩ | ⟨q, q2, _⟩
      · rcases hin with q3 | q3 <;> omega
      · rw [hwl] at q2; omega
    have hD : Step h₀ σ₁ s₁.heap (zipHp σ₁ ita l p0 xs N) s'.heap := by
      unfold zipHp
      rcases hend with ⟨q, qi⟩ | ⟨q, q2, oi2, qi⟩
      · rw [if_pos (by omega)]
        have : p0 + N.toNat = p0 + i := by omega
        rw [this]
        exact keepB_step hwb mu kb gr (fun _ => qi) trivial
      · rw [hwl] at q2
        rw [if_neg (by omega)]
        rw [q2] at qi
        exact keepB_step hwb mu kb gr (fun _ => ⟨oi2, qi⟩) trivial
    have zn : ∀ a, a ≠ ita → σ₁ a = none → zipHp σ₁ ita l p0 xs N a = none := fun a na e => by
      unfold zipHp; split <;> rw [upd_ne _ _ na] <;> exact e
    have rr : Reps s'.heap acc (zipRes N p0 xs f) := by
      refine reps_of_get (by rw [hlen, hiN]; simp [zipRes]) fun j r y ej ey => ?_
      obtain ⟨T, us, rfl, ht, x, vs, ex, rfl, rv⟩ := htp j r ej
      have : y = .tup (f j x) := by
        unfold zipRes at ey
        rw [List.getElem?_mapIdx, List.getElem?_take, List.getElem?_drop, ex] at ey
        split at ey
        · simpa using ey.symm
        · simp at ey
      subst this
      exact .tup ht (rv _)
    exact hRR σ₁ s₁ { s₁ with heap := h' } st m₁ ⟨rfl, rfl⟩ D env'.locals s' _ _ acc kd mm (Sm.trans m₃ mS) hnew gD' rr nn hD nDb nCb hDC (zn _ (lo' gi').1.symm (hwb.fresh nDb)) (zn _ (lo' gi').2.symm (hwb.fresh nCb))
  · have e1 : (((N.toNat : Nat) : Int) - ((0 : Nat) : Int)) = Builtin.Range.rangeSize 0 N 1 := by rw [rangeSize_nat]; simp
    rw [e1]
    exact old _ _ (up1 _ _ g1)
/-- an assignment of such a comprehension -/
theorem CS.zipc {es : List Expr} {x x1 x2 zn : Str} {e1 e2 : Expr} {scope : Scope} {ps : List PE} {pr pit : PE} {r i1 i2 : Nat} {fm : List (Option Nat)} {k1 k2 : Nat} {ep tp p1 p2 zp cp pos q p : Pos} (hx : c.names[r]? = some x) (nf : c.sc.lookup x ≠ some .free) (C : ZipOk c es x1 x2 zn e1 e2 scope ps pr pit i1 i2 fm) :
    CS c (.Assign [.Name x q] (.ListComp (.Tuple es k1 ep) [⟨.Tuple [.Name x1 p1, .Name x2 p2] k2 tp, .Call (.Name zn zp) [e1, e2] [] cp, [], 0⟩] scope pos) p) (.zipc r fm i1 i2 ps pr pit) := by
  intro prog w h₀ mg mb Φ n A s σ env own F Q X T v
  have cov : ∀ env y, foldedSetIterable (.Call (.Name zn zp) [e1, e2] [] cp) env y = pure y := fun _ _ => rfl
  obtain ⟨bb, hb⟩ : ∃ bb, swapsWith (.ListComp (.Tuple es k1 ep) [⟨.Tuple [.Name x1 p1, .Name x2 p2] k2 tp, .Call (.Name zn zp) [e1, e2] [] cp, [], 0⟩] scope pos) (some (.Name x q)) p.line env = pure bb := ⟨_, rfl⟩
  cases bb with
  | false =>
    refine wpAny_Assign_Name (value := .ListComp (.Tuple es k1 ep) [⟨.Tuple [.Name x1 p1, .Name x2 p2] k2 tp, .Call (.Name zn zp) [e1, e2] [] cp, [], 0⟩] scope pos) ?_ hb
    rw [eval_ListComp]
    have key := zipc_core (k1 := k1) (k2 := k2) (ep := ep) (tp := tp) (p1 := p1) (p2 := p2) (zp := zp) (cp := cp) (pos := pos) C X v (RR := fun acc Cc => compPost (model prog w) A E0 none (PV h₀ σ s (fun v σ => Q .next (F.set r (some v)) σ)) acc Cc)
      (fun σ₁ s₁ s₂ st m₁ m₂ => rr_none st.w (fun _ s' pv m₃ => PVh.lift pv st (m₁.trans (m₂.trans m₃))))
    refine wpAny_mono (wpAny_comprehension_free (use := .none) rfl (cov env) (clos_ok C.ok X.f) C.kind (scOk_names C.ok) key) (fun y s₁ => PV.on fun z σ₁ rz st m₁ q => ?_) fun _ _ f => f
    exact (X.f.step st).store st.w hx nf rz fun s' m' st' hf' => .next ((Step.any st).trans st') (m₁.trans m') hf' q
  | true =>
    rw [exec_Assign_Name_used _ _ _ _ hb]
    refine wpAny_bind (wpAny_standAt (wpAny_bind ?_))
    show wpAny _ A (do let _ ← comprehension (.ListComp (.Tuple es k1 ep) [⟨.Tuple [.Name x1 p1, .Name x2 p2] k2 tp, .Call (.Name zn zp) [e1, e2] [] cp, [], 0⟩] scope pos) scope env _ (newList []) false (eval (.Call (.Name zn zp) [e1, e2] [] cp) env) (some (PySem.assign (.Name x q) env))) _ _ s
    have key : wpAny (model prog w) A (comprehension (.ListComp (.Tuple es k1 ep) [⟨.Tuple [.Name x1 p1, .Name x2 p2] k2 tp, .Call (.Name zn zp) [e1, e2] [] cp, [], 0⟩] scope pos) scope env (firstIterPos [⟨.Tuple [.Name x1 p1, .Name x2 p2] k2 tp, .Call (.Name zn zp) [e1, e2] [] cp, [], 0⟩] pos) (newList []) false (eval (.Call (.Name zn zp) [e1, e2] [] cp) env) (some (PySem.assign (.Name x q) env))) (fun _ s' => PSt c env own h₀ σ s Q .next s') E0 s := by
      refine wpAny_comprehension_free (use := some (PySem.assign (.Name x q) env)) rfl (cov env) (clos_ok C.ok X.f) C.kind (scOk_names C.ok) ?_
      exact zipc_core (k1 := k1) (k2 := k2) (ep := ep) (tp := tp) (p1 := p1) (p2 := p2) (zp := zp) (cp := cp) (pos := pos) C X v (RR := fun acc Cc => compPost (model prog w) A E0 (some (PySem.assign (.Name x q) env)) (fun _ s' => PSt c env own h₀ σ s Q .next s') acc Cc)
        (fun σ₁ s₁ s₂ st m₁ m₂ => rr_some (Q := Q) hx nf X.R.handled m₂ st.w (X.f.step st) (fun _ _ pv => pv.back (Step.any st) m₁))
    exact wpAny_bind (wpAny_mono key (fun _ s' hq => wpAny_pure (wpAny_pure hq)) fun _ _ e => e)
end

/-! Y1 -/
/-! sorting in place, and sorting by a key -/
theorem sortedHeap_get {h : Heap} {a : Addr} {vs : List Value} {n : Nat} (ho : h.get? a = some (LObj vs n)) (out : List Value) : ∃ nn, (sortedHeap h a vs out.toArray).get? a = some (LObj out nn) := by
  have ha := Heap.lt_size ho
  unfold sortedHeap
  obtain ⟨e1, ho6⟩ : ∃ e1, (((h.update a (Obj.mapSeq fun _ => #[])).push (seqObj "tuple" vs.toArray 0)).push (seqObj "list" #[] 0)).get? a = some (seqObj "list" #[] e1) := by
    rw [Heap.get?_push_ne _ _ _ (by rw [size_push', Heap.size_update]; exact Nat.ne_of_lt (Nat.lt_succ_of_lt ha)), Heap.get?_push_ne _ _ _ (by rw [Heap.size_update]; exact Nat.ne_of_lt ha)]
    exact ⟨_, get?_update_seq ho (fun _ => #[])⟩
  exact ⟨_, get?_update_seq ho6 (fun _ => out.toArray)⟩
theorem sortedHeap_keep (h : Heap) (a : Addr) (vs : List Value) (out : Array Value) : Heap.ExtBut a h (sortedHeap h a vs out) := fun b o nb e => by
  have hlt : b < h.objs.size := Heap.lt_size e
  unfold sortedHeap
  rw [Heap.get?_update_ne _ _ _ _ nb, Heap.get?_push_ne _ _ _ (by rw [size_push', Heap.size_update]; exact Nat.ne_of_lt (Nat.lt_succ_of_lt hlt)), Heap.get?_push_ne _ _ _ (by rw [Heap.size_update]; exact Nat.ne_of_lt hlt), Heap.get?_update_ne _ _ _ _ nb]
  exact e
theorem reps_pick {h : Heap} {vs : List Value} {xs : List V} (r : Reps h vs xs) (l : List Nat) (hl : ∀ i ∈ l, i < xs.length) : Reps h (l.map fun i => vs.getD i Value.none) (l.map fun i => xs.getD i .none) := by
  induction l with
  | nil => exact .nil
  | cons i l ih =>
    refine .cons ?_ (ih fun j m => hl j (.tail _ m))
    have hi := hl i (.head _)
    obtain ⟨v, e1, rv⟩ := r.get (List.getElem?_eq_getElem hi)
    dsimp only
    rw [List.getD_eq_getElem?_getD, List.getD_eq_getElem?_getD, e1, List.getElem?_eq_getElem hi]; exact rv
theorem pre_lt {N : Nat} {p : Array Nat} (hp : Pre N p N) : ∀ i ∈ p.toList, i < N := fun i m => by
  have := hp.perm.mem_iff.mp m
  simpa using this
theorem m_sort {σ : Hp} {Q : V → Hp → Prop} {a : Addr} {xs : List V} {lt : Nat → Nat → Bool} (Wk : Weak lt) (e : σ a = some (.list xs)) (h2 : 2 ≤ xs.length) (h64 : xs.length < 64)
    (hs : ∀ (h₀ : Heap) (h : Heap) (vs : List Value), W h₀ σ h → Reps h vs xs → Sorts h vs lt)
    (q : ∀ p : Array Nat, Pre xs.length p xs.length → Up lt p xs.length → Q .none (upd σ a (.list (p.toList.map fun i => xs.getD i .none)))) : opMeth .sort (.ref a) [] Q σ := by
  refine opMeth.mk ?_
  intro prog w A s h₀ mg mb n0 vo vargs G R ro ra hw
  obtain rfl := ra.inil; obtain rfl := ro.iref
  obtain ⟨vs, n, g, r⟩ := hw.mlist e
  have hlen := r.length
  have hb := hw.len (listAt_list e)
  obtain ⟨κ, hk⟩ := hs h₀ s.heap vs hw r
  have imm : ∀ {h' : Heap}, (∀ b o, b ≠ a → s.heap.get? b = some o → h'.get? b = some o) → ∀ b o, s.heap.get? b = some o → Imm o → h'.get? b = some o := fun k b o e' i => k b o (by rintro rfl; exact holds_not_imm (hw.holds _ _ e) e' i) e'
  refine wpAny_call_entry slot_list_sort ⟨_, g, rfl⟩ entry_list_sort (list_sort_any (κ := κ) Wk g (by omega) (by omega) (fun h' Q k q => (hk prog w _ { s with heap := h' } (imm k)).1 Q q)
    (fun h' i j C k hi hj hc => (hk prog w _ { s with heap := h' } (imm k)).2 i j C hi hj hc) fun p hp hu => ⟨_, rfl, ?_⟩) (args_list_sort _)
  rw [hlen] at hp hu
  obtain ⟨nn, gg⟩ := sortedHeap_get g (p.toList.map fun i => vs.getD i Value.none)
  refine ⟨_, _, .none, ⟨hw.change (o := .list (p.toList.map fun i => xs.getD i .none)) ⟨_, e, rfl⟩ (sortedHeap_keep _ _ _ _) (fun k => ⟨_, nn, gg, (reps_pick r _ (pre_lt hp)).tups (tup_keep hw k)⟩) ?_, Eq.refl _, Eq.refl _⟩, q p hp hu⟩
  show (List.map _ _).length ≤ BIG
  have := hp.size
  simp [this]; exact hb
theorem list_sort_none (a : Addr) : Builtin.«list.sort» ⟨[.ref a], [(Str.ofString "key", .none)]⟩ = Builtin.«list.sort» ⟨[.ref a], []⟩ := rfl
section
variable {prog : Program} {w : World} {A : Around} {E : Value → Shared → Prop} {s : Shared}
theorem sorted_none {l : Addr} {vs : List Value} {Q : Value → Shared → Prop} {κ : SortKind} {lt : Nat → Nat → Bool} (Wk : Weak lt) (hl : s.heap.IsList l vs.toArray) (h2 : 2 ≤ vs.length) (h64 : vs.length < 64)
    (kind : ∀ (h' : Heap) (Q : SortKind → Shared → Prop), (∀ b o, s.heap.get? b = some o → h'.get? b = some o) → Q κ { s with heap := h' } → wpAny (model prog w) A.in1.in1 (keyKind' vs.toArray) Q (fun _ _ => False) { s with heap := h' })
    (ask : ∀ (h' : Heap) (i j : Nat) (C : Bool → Shared → Prop), (∀ b o, s.heap.get? b = some o → h'.get? b = some o) → i < vs.length → j < vs.length → C (lt i j) { s with heap := h' } → kas_ask prog w A.in1.in1 κ vs i j C { s with heap := h' })
    (h : ∀ p, Pre vs.length p vs.length → Up lt p vs.length → Q (.ref (s.heap.objs.size + 1)) { s with heap := sortedAll s.heap vs (outOf vs p) }) :
    wpAny (model prog w) A (call (.builtin "sorted") [.ref l] [(Str.ofString "key", .none)]) Q E s := by
  refine call_function_entry_kw kind_sorted plain_sorted entry_sorted (ksk_s1 _ _) ?_
  unfold Builtin.«sorted»
  refine wpAny_bind (m := checkCount "sorted" 1 1 _) (wpAny_pure ?_)
  refine wpAny_bind (collect_list hl ?_)
  refine wpAny_bind (wpAny_newList ?_)
  have hsz : ((s.heap.push (seqObj "list" #[] 0)).update s.heap.objs.size (Obj.mapSeq (· ++ vs.toArray))).objs.size = s.heap.objs.size + 1 := by
    rw [Heap.size_update, size_push']
  have hoL : (((s.heap.push (seqObj "list" #[] 0)).update s.heap.objs.size (Obj.mapSeq (· ++ vs.toArray))).push (seqObj "list" vs.toArray 0)).get? (s.heap.objs.size + 1) = some (seqObj "list" vs.toArray 0) := by
    rw [← hsz]; exact Heap.get?_push_size _ rfl
  have keep : ∀ b o, s.heap.get? b = some o → (((s.heap.push (seqObj "list" #[] 0)).update s.heap.objs.size (Obj.mapSeq (· ++ vs.toArray))).push (seqObj "list" vs.toArray 0)).get? b = some o := fun b o q => by
    have hlt : b < s.heap.objs.size := Heap.lt_size q
    rw [Heap.get?_push_ne _ _ _ (by rw [hsz]; exact Nat.ne_of_lt (Nat.lt_succ_of_lt hlt)), Heap.get?_update_ne _ _ _ _ (Nat.ne_of_lt hlt), Heap.get?_push_ne _ _ _ (Nat.ne_of_lt hlt)]
    exact q
  have ne : ∀ b o, s.heap.get? b = some o → b ≠ s.heap.objs.size + 1 := fun b o q => Nat.ne_of_lt (Nat.lt_succ_of_lt (Heap.lt_size q))
  show wpAny _ _ _ _ _ { s with heap := ((s.heap.push (seqObj "list" #[] 0)).update s.heap.objs.size (Obj.mapSeq (· ++ vs.toArray))).push (seqObj "list" vs.toArray 0) }
  rw [hsz]
  refine wpAny_bind (wpAny_holding (wpAny_call_entry_kw slot_list_sort ⟨_, hoL, rfl⟩ entry_list_sort ?_ (ksk_l1 _ _)))
  show wpAny (model prog w) A.in1.in1 (Builtin.«list.sort» ⟨[.ref (s.heap.objs.size + 1)], [(Str.ofString "key", .none)]⟩) _ _ _
  rw [list_sort_none]
  refine list_sort_any Wk hoL h2 h64 (fun h' Q k q => kind h' Q (fun b o e => k b o (ne b o e) (keep b o e)) q)
    (fun h' i j C k hi hj hc => ask h' i j C (fun b o e => k b o (ne b o e) (keep b o e)) hi hj hc) fun p a1 a2 => ⟨_, rfl, ?_⟩
  exact wpAny_pure ⟨_, rfl, h p a1 a2⟩
/-- what the calls of a key leave -/
noncomputable def KeyGo (prog : Program) (w : World) (A : Around) (h₀ hb : Heap) (f : Value) (vs : List Value) (kp : Nat → Value → Prop) : Prop :=
  ∀ (i : Nat) (v : Value) (s : Shared), vs[i]? = some v → KeepB (fun _ => False) hb s.heap → (∀ b o, h₀.get? b = some o → s.heap.get? b = some o) →
    wpAny (model prog w) A (call f [v]) (fun k s' => Sm s s' ∧ KeepB (fun _ => False) s.heap s'.heap ∧ (∀ b o, h₀.get? b = some o → s'.heap.get? b = some o) ∧ kp i k) (fun _ _ => False) s
theorem KeepB.seqO {h h' : Heap} (k : KeepB (fun _ => False) h h') {a : Addr} {xs : Array Value} {n : Nat} (e : h.get? a = some (seqObj "list" xs n)) : h'.get? a = some (seqObj "list" xs n) := k.at (fun f => f) (fun es k q => by cases q) e
theorem KeepB.but {hb h h' : Heap} (k : KeepB (fun _ => False) hb h) {a : Addr} (na : hb.get? a = none) (eb : Heap.ExtBut a h h') : KeepB (fun _ => False) hb h' := fun b o nb e => by
  have n : b ≠ a := by rintro rfl; rw [na] at e; cases e
  obtain ⟨q1, q2⟩ := k b o nb e
  refine ⟨fun d => eb b o n (q1 d), fun d => ?_⟩
  obtain ⟨sl, e1⟩ := q2 d
  exact ⟨sl, eb b _ n e1⟩
theorem list_sort_key {h₀ hb : Heap} {a : Addr} {f : Value} {vs : List Value} {n : Nat} {P : PySem.Fin → Shared → Prop} {lt : Nat → Nat → Bool} {kp : Nat → Value → Prop} (Wk : Weak lt) (ho : s.heap.get? a = some (LObj vs n)) (h2 : 2 ≤ vs.length) (h64 : vs.length < 64)
    (hba : hb.get? a = none) (sub : ∀ b o, h₀.get? b = some o → hb.get? b = some o) (kb : ∀ b o, hb.get? b = some o → s.heap.get? b = some o)
    (go : KeyGo prog w A h₀ hb f vs kp)
    (srt : ∀ (ks : List Value) (h : Heap), ks.length = vs.length → (∀ (i : Nat) k, ks[i]? = some k → kp i k) → Sorts h ks lt)
    (h : ∀ p s' nn, Pre vs.length p vs.length → Up lt p vs.length → Sm s s' → KeepB (fun _ => False) hb s'.heap → (∀ b o, h₀.get? b = some o → s'.heap.get? b = some o) → s'.heap.get? a = some (LObj (p.toList.map fun i => vs.getD i Value.none) nn) → P (.done (.ret .none)) s') :
    wpAny (model prog w) A (ksk_tree a f false) P E s := by
  have ha : a < s.heap.objs.size := Heap.lt_size ho
  obtain ⟨e1, ho1⟩ : ∃ e1, (s.heap.update a (Obj.mapSeq fun _ => (#[] : Array Value))).get? a = some (seqObj "list" #[] e1) := ⟨_, get?_update_seq ho fun _ => #[]⟩
  have s1 := Heap.SameBut.update s.heap a (Obj.mapSeq fun _ => (#[] : Array Value))
  unfold ksk_tree
  refine wpAny_bind (listItems_at ho rfl ?_)
  refine wpAny_bind (listUpdate_at ho rfl ?_ (by rw [List.size_toArray, sizeLine_eq]; omega) (Nat.zero_le _))
  refine wpAny_bind (seqEpoch_at ho1 rfl ?_)
  refine wpAny_bind (wpAny_newTuple ?_ (by show vs.length ≤ _; rw [sizeLine_eq]; omega))
  refine wpAny_bind (wpAny_newList ?_ (Nat.zero_le _))
  refine wpAny_holding ?_
  have hkS : ((s.heap.update a (Obj.mapSeq fun _ => (#[] : Array Value))).push (seqObj "tuple" vs.toArray 0)).objs.size = s.heap.objs.size + 1 := by rw [size_push', Heap.size_update]
  have gk : (((s.heap.update a (Obj.mapSeq fun _ => (#[] : Array Value))).push (seqObj "tuple" vs.toArray 0)).push (seqObj "list" #[] 0)).get? ((s.heap.update a (Obj.mapSeq fun _ => (#[] : Array Value))).push (seqObj "tuple" vs.toArray 0)).objs.size = some (seqObj "list" #[] 0) := Heap.get?_push_size _ rfl
  have ga : (((s.heap.update a (Obj.mapSeq fun _ => (#[] : Array Value))).push (seqObj "tuple" vs.toArray 0)).push (seqObj "list" #[] 0)).get? a = some (seqObj "list" #[] e1) := Heap.get?_push_of_some _ (Heap.get?_push_of_some _ ho1)
  have kk : ∀ b o, hb.get? b = some o → (((s.heap.update a (Obj.mapSeq fun _ => (#[] : Array Value))).push (seqObj "tuple" vs.toArray 0)).push (seqObj "list" #[] 0)).get? b = some o := fun b o e =>
    Heap.get?_push_of_some _ (Heap.get?_push_of_some _ (s1.extBut b o (by rintro rfl; rw [hba] at e; cases e) (kb b o e)))
  show wpAny (model prog w) A (ksk_rest a f false vs.toArray e1 (.ref ((s.heap.update a (Obj.mapSeq fun _ => (#[] : Array Value))).push (seqObj "tuple" vs.toArray 0)).objs.size)) P E { s with heap := (((s.heap.update a (Obj.mapSeq fun _ => (#[] : Array Value))).push (seqObj "tuple" vs.toArray 0)).push (seqObj "list" #[] 0)) }
  generalize ((s.heap.update a (Obj.mapSeq fun _ => (#[] : Array Value))).push (seqObj "tuple" vs.toArray 0)).push (seqObj "list" #[] 0) = H3 at gk ga kk ⊢
  generalize ((s.heap.update a (Obj.mapSeq fun _ => (#[] : Array Value))).push (seqObj "tuple" vs.toArray 0)).objs.size = kS at gk hkS ⊢
  have hka : kS ≠ a := by rw [hkS]; exact Nat.ne_of_gt (Nat.lt_succ_of_lt ha)
  have hbk : hb.get? kS = none := by
    cases e : hb.get? kS with
    | none => rfl
    | some o => have := Heap.lt_size (kb _ _ e); rw [hkS] at this; exact absurd this (Nat.not_lt_of_le (Nat.le_succ _))
  have grb : ∀ {a' : Addr} {g g' : Heap}, hb.get? a' = none → (∀ b o, h₀.get? b = some o → g.get? b = some o) → Heap.ExtBut a' g g' → ∀ b o, h₀.get? b = some o → g'.get? b = some o := fun na gr eb b o e => eb b o (by rintro rfl; rw [sub _ _ e] at na; cases na) (gr b o e)
  unfold ksk_rest
  refine wpAny_bind (wpAny_rule ?_)
  first
    | rw [List.forIn_toArray]
    | (rw [← Array.forIn_toList]; simp only [List.toList_toArray])
    | rw [← Array.forIn_toList]
  refine wpAny_bind (ksk_fold (fun i s' => ∃ kA e, Sm s s' ∧ KeepB (fun _ => False) hb s'.heap ∧ (∀ b o, h₀.get? b = some o → s'.heap.get? b = some o) ∧ s'.heap.get? kS = some (seqObj "list" kA e) ∧ s'.heap.get? a = some (seqObj "list" #[] e1) ∧ kA.size = i ∧ ∀ (j : Nat) k, kA[j]? = some k → kp j k) vs 0 _
    ⟨#[], 0, ⟨rfl, rfl⟩, .of fun b o _ e => kk b o e, fun b o e => kk b o (sub b o e), gk, ga, rfl, fun j k e => by simp at e⟩ ?step ?done)
  case step =>
    rintro j x s' hx ⟨kA, e, m', kp', gr', gk', ga', hz, hk⟩
    simp only [Nat.zero_add] at hz ⊢
    have hj : j < vs.length := (List.getElem?_eq_some_iff.mp hx).1
    refine wpAny_bind (wpAny_attempt (wpAny_mono (go j x s' hx kp' gr') (fun v s'' he => ?_) fun _ _ hF => hF.elim))
    obtain ⟨m2, k2, gr2, hv⟩ := he
    dsimp only
    have gk2 := k2.seqO gk'
    have ga2 := k2.seqO ga'
    have s2 := Heap.SameBut.update s''.heap kS (Obj.mapSeq (·.push v))
    obtain ⟨c2, hc2⟩ : ∃ c2, (s''.heap.update kS (Obj.mapSeq (·.push v))).get? kS = some (seqObj "list" (kA.push v) c2) := ⟨_, get?_update_seq gk2 (·.push v)⟩
    refine wpAny_bind (listUpdate_at gk2 rfl ?_ (by rw [sizeLine_eq]; omega) (Nat.le_trans (Nat.le_of_eq (Array.size_push ..)) (by rw [sizeLine_eq]; omega)))
    refine wpAny_pure ⟨rfl, kA.push v, c2, m'.trans (m2.trans ⟨rfl, rfl⟩), (kp'.trans k2).but hbk s2.extBut, grb hbk gr2 s2.extBut, hc2, (s2.2 a hka.symm).trans ga2, by rw [Array.size_push, hz], fun i k e => ?_⟩
    rw [Array.getElem?_push] at e
    split at e
    · rename_i q; cases e; rw [hz] at q; subst q; exact hv
    · exact hk i k e
  case done =>
    rintro s' ⟨kA, e, m', kp', gr', gk', ga', hz, hk⟩
    simp only [Nat.zero_add] at hz
    try dsimp only
    refine wpAny_bind (listItems_at gk' rfl ?_)
    obtain ⟨ks, rfl⟩ : ∃ ks : List Value, kA = ks.toArray := ⟨kA.toList, by simp⟩
    have hkl : ks.length = vs.length := by simpa using hz
    have hks : ∀ (i : Nat) k, ks[i]? = some k → kp i k := fun i k e => hk i k (by simpa using e)
    unfold ksk_end
    have hn2 : ¬ vs.toArray.size < 2 := by rw [List.size_toArray]; omega
    dsimp only
    simp only [Bool.false_eq_true, if_false]
    rw [if_neg hn2, if_neg hn2]
    obtain ⟨κ, hκ⟩ := srt ks s'.heap hkl hks
    refine wpAny_bind (wpAny_mono ((hκ prog w A s' fun _ _ e _ => e).1 (fun k s'' => k = κ ∧ s'' = s') ⟨rfl, rfl⟩) ?_ fun _ _ x => x.elim)
    rintro k s'' ⟨rfl, rfl⟩
    refine wpAny_bind (wpAny_mono (kat_run (Q := fun st' s3 => s3 = s'' ∧ ∃ p : Array Nat, Pre vs.length p vs.length ∧ Up lt p vs.length ∧ (arrOf st').map (·.2) = outOf vs p ∧ failedOf st' = none)
      (G := fun p s3 => s3 = s'' ∧ Pre vs.length p vs.length ∧ Up lt p vs.length)
      hkl h2 h64 (fun p' st' s3 a1 a2 a3 a4 => ⟨a4.1, p', a4.2.1, a4.2.2, kat_snds hkl a2, a3⟩) (Run.wp (fun i j C hi hj hc => (hκ prog w A s'' fun _ _ e _ => e).2 i j C (by omega) (by omega) hc) _ (sort_ok Wk (by omega) fun p x y => ⟨rfl, x, y⟩))) ?_ fun _ _ e => e)
    rintro ⟨⟨⟩, st'⟩ s3 ⟨rfl, p, hp, hu, hout, hf⟩
    dsimp only
    have hzz : (outOf vs p).size = vs.length := by unfold outOf; rw [List.size_toArray, List.length_map, Array.length_toList, hp.size]
    have s4 := Heap.SameBut.update s3.heap kS (Obj.mapSeq fun _ => (#[] : Array Value))
    have ga4 : (s3.heap.update kS (Obj.mapSeq fun _ => (#[] : Array Value))).get? a = some (seqObj "list" #[] e1) := (s4.2 a hka.symm).trans ga'
    have s5 := Heap.SameBut.update (s3.heap.update kS (Obj.mapSeq fun _ => (#[] : Array Value))) a (Obj.mapSeq fun _ => outOf vs p)
    obtain ⟨c5, hc5⟩ : ∃ c5, ((s3.heap.update kS (Obj.mapSeq fun _ => (#[] : Array Value))).update a (Obj.mapSeq fun _ => outOf vs p)).get? a = some (seqObj "list" (outOf vs p) c5) := ⟨_, get?_update_seq ga4 fun _ => outOf vs p⟩
    unfold ksk_tail
    dsimp only
    refine wpAny_bind (listUpdate_at gk' rfl ?_ (by rw [List.size_toArray, sizeLine_eq]; omega) (Nat.zero_le _))
    refine wpAny_bind (wpAny_letGo ?_)
    refine wpAny_bind (seqEpoch_at ga4 rfl ?_)
    simp only [Bool.false_eq_true, if_false]
    rw [hout]
    refine wpAny_bind (listUpdate_at ga4 rfl ?_ (Nat.zero_le _) (Nat.le_trans (Nat.le_of_eq hzz) (by rw [sizeLine_eq]; omega)))
    rw [hf]
    simp only [bne_self_eq_false, Bool.false_eq_true, if_false]
    exact wpAny_pure (h p _ c5 hp hu (m'.trans ⟨rfl, rfl⟩) ((kp'.but hbk s4.extBut).but hba s5.extBut) (grb hba (grb hbk gr' s4.extBut) s5.extBut) hc5)
theorem sorted_key {h₀ : Heap} {l fa : Addr} {vs : List Value} {Q : Value → Shared → Prop} {lt : Nat → Nat → Bool} {kp : Nat → Value → Prop} (Wk : Weak lt) (hl : s.heap.IsList l vs.toArray) (h2 : 2 ≤ vs.length) (h64 : vs.length < 64)
    (sub : ∀ b o, h₀.get? b = some o → s.heap.get? b = some o)
    (go : KeyGo prog w A.in1.in1 h₀ s.heap (.ref fa) vs kp)
    (srt : ∀ (ks : List Value) (h : Heap), ks.length = vs.length → (∀ (i : Nat) k, ks[i]? = some k → kp i k) → Sorts h ks lt)
    (h : ∀ p s' D nn, Pre vs.length p vs.length → Up lt p vs.length → Sm s s' → KeepB (fun _ => False) s.heap s'.heap → (∀ b o, h₀.get? b = some o → s'.heap.get? b = some o) → s.heap.get? D = none → s'.heap.get? D = some (LObj (p.toList.map fun i => vs.getD i Value.none) nn) → Q (.ref D) s') :
    wpAny (model prog w) A (call (.builtin "sorted") [.ref l] [(Str.ofString "key", .ref fa)]) Q E s := by
  refine call_function_entry_kw kind_sorted plain_sorted entry_sorted (ksk_s1 _ _) ?_
  unfold Builtin.«sorted»
  refine wpAny_bind (m := checkCount "sorted" 1 1 _) (wpAny_pure ?_)
  refine wpAny_bind (collect_list hl ?_)
  refine wpAny_bind (wpAny_newList ?_)
  have hsz : ((s.heap.push (seqObj "list" #[] 0)).update s.heap.objs.size (Obj.mapSeq (· ++ vs.toArray))).objs.size = s.heap.objs.size + 1 := by
    rw [Heap.size_update, size_push']
  have hoL : (((s.heap.push (seqObj "list" #[] 0)).update s.heap.objs.size (Obj.mapSeq (· ++ vs.toArray))).push (seqObj "list" vs.toArray 0)).get? (s.heap.objs.size + 1) = some (seqObj "list" vs.toArray 0) := by
    rw [← hsz]; exact Heap.get?_push_size _ rfl
  have keep : ∀ b o, s.heap.get? b = some o → (((s.heap.push (seqObj "list" #[] 0)).update s.heap.objs.size (Obj.mapSeq (· ++ vs.toArray))).push (seqObj "list" vs.toArray 0)).get? b = some o := fun b o q => by
    have hlt : b < s.heap.objs.size := Heap.lt_size q
    rw [Heap.get?_push_ne _ _ _ (by rw [hsz]; exact Nat.ne_of_lt (Nat.lt_succ_of_lt hlt)), Heap.get?_update_ne _ _ _ _ (Nat.ne_of_lt hlt), Heap.get?_push_ne _ _ _ (Nat.ne_of_lt hlt)]
    exact q
  have nD : s.heap.get? (s.heap.objs.size + 1) = none := by
    cases q : s.heap.get? (s.heap.objs.size + 1) with
    | none => rfl
    | some o => exact absurd (Heap.lt_size q) (Nat.not_lt_of_le (Nat.le_succ _))
  show wpAny _ _ _ _ _ { s with heap := ((s.heap.push (seqObj "list" #[] 0)).update s.heap.objs.size (Obj.mapSeq (· ++ vs.toArray))).push (seqObj "list" vs.toArray 0) }
  rw [hsz]
  refine wpAny_bind (wpAny_holding (wpAny_call_entry_kw slot_list_sort ⟨_, hoL, rfl⟩ entry_list_sort ?_ (ksk_l1 _ _)))
  show wpAny (model prog w) A.in1.in1 (Builtin.«list.sort» ⟨[.ref (s.heap.objs.size + 1)], [(Str.ofString "key", .ref fa)]⟩) _ _ _
  rw [ksk_t1]
  refine list_sort_key Wk hoL h2 h64 nD sub keep go srt fun p s' nn hp hu ms kb gr g => ⟨_, rfl, ?_⟩
  exact wpAny_pure ⟨_, rfl, h p s' _ nn hp hu (Sm.trans ⟨rfl, rfl⟩ ms) kb gr nD g⟩
end

/-! Y2 -/
/-! calls of a key while all stands -/
theorem KeepB.tupsX {h₀ : Heap} {σ : Hp} {hb h : Heap} {X : Addr → Prop} (hw : W h₀ σ hb) (hX : ∀ a, X a → ∃ l i, σ a = some (.iter l i)) (k : KeepB X hb h) : Tups hb h := fun b p e i => by
  refine k.at (fun q => ?_) (imm_notD i) e
  obtain ⟨l, j, eo⟩ := hX b q
  exact holds_not_imm (hw.holds _ _ eo) e i
theorem freezeX {h₀ : Heap} {σ : Hp} {hb h : Heap} {X : Addr → Prop} (hw : W h₀ σ hb) (hX : ∀ a, X a → ∃ l i, σ a = some (.iter l i)) (k : KeepB X hb h) (gr : ∀ b o, h₀.get? b = some o → h.get? b = some o) : W h₀ (freeze σ) h := by
  have t := k.tupsX hw hX
  refine ⟨gr, fun b o eb => ?_, fun b m => absurd m (freeze_mut σ b), fun b o eb => ?_⟩
  · unfold freeze at eb
    split at eb
    · rename_i q; cases eb
      have nb : ¬ X b := fun z => by obtain ⟨l, i, e⟩ := hX b z; rw [e] at q; cases q
      obtain ⟨vs, n, g, r⟩ := hw.holds _ _ q
      exact ⟨vs, LObj.isList (k.at nb (fun es k q => by cases q) g), r.tups t⟩
    · rename_i q; cases eb
      have nb : ¬ X b := fun z => by obtain ⟨l, i, e⟩ := hX b z; rw [e] at q; cases q
      obtain ⟨vs, ⟨o, g, c, n, d⟩, r⟩ := hw.holds _ _ q
      exact ⟨vs, ⟨o, k.at nb (fun es k q => by rw [d] at q; cases q) g, c, n, d⟩, r.tups t⟩
    · cases eb
  · unfold freeze at eb
    split at eb
    · rename_i q; cases eb; have := hw.small _ _ q; exact this
    · rename_i q; cases eb; have := hw.small _ _ q; exact this
    · cases eb
theorem frsX {A : Around} {h₀ : Heap} {σ : Hp} {hb h : Heap} {X : Addr → Prop} (f : Frs A h₀ σ hb) (hX : ∀ a, X a → ∃ l i, σ a = some (.iter l i)) (k : KeepB X hb h) : Frs A h₀ (freeze σ) h := by
  obtain ⟨l, e, q⟩ := f.go
  refine ⟨l, e, fun env me => ?_⟩
  obtain ⟨k1, L, e1, e2, e3, o, e4, e5⟩ := q env me
  obtain ⟨sl, e6⟩ := (k L o (fun z => by obtain ⟨l, i, e⟩ := hX L z; rw [e] at e3; cases e3) e4).2 e5
  exact ⟨k1, L, e1, e2, freeze_none e3, _, e6, by obtain ⟨es, n, d⟩ := e5; exact ⟨es, n, d⟩⟩
theorem frs_in1 {A : Around} {h₀ : Heap} {σ : Hp} {h : Heap} (f : Frs A h₀ σ h) : Frs A.in1 h₀ σ h := ⟨f.go⟩
theorem Room.in1 {A : Around} {n : Nat} (r : Room A n) : RoomW A.in1 n := ⟨r.handled, r.depth, by have := r.units; show A.units + 1 + 8 * n ≤ 9000; omega, r.env⟩
theorem Room.in2 {A : Around} {n : Nat} (r : Room A n) : RoomW A.in1.in1 n := ⟨r.handled, r.depth, by have := r.units; show A.units + 1 + 1 + 8 * n ≤ 9000; omega, r.env⟩
theorem key_call {prog : Program} {w : World} {h₀ : Heap} {mg : Str → Option Value} {fns : List Str} {Φ : Fns} {n : Nat} {A : Around} {s : Shared} {σ : Hp} {hb : Heap} {X : Addr → Prop} {fa : Addr} {o : Obj} {fd : FuncData} {v : Value} {x y : V} (NM : NamesOk prog w h₀ mg n fns Φ) (hw : W h₀ σ hb) (hX : ∀ a, X a → ∃ l i, σ a = some (.iter l i))
    (kb : KeepB X hb s.heap) (gr : ∀ b o, h₀.get? b = some o → s.heap.get? b = some o) (fs : Frs A h₀ σ hb) (R : RoomW A n) (e1 : hb.get? fa = some o) (e2 : o.data = .func fd) (rv : Rep hb v x) (q : Φ 1000 [.func fd, x] (fun v _ => v = y) (freeze σ)) (fl : y.flat) :
    wpAny (model prog w) A (call (.ref fa) [v]) (fun k s' => Sm s s' ∧ KeepB (fun _ => False) s.heap s'.heap ∧ (∀ b o, h₀.get? b = some o → s'.heap.get? b = some o) ∧ ∀ h, Rep h k y) (fun _ _ => False) s := by
  have t := kb.tupsX hw hX
  have w5 := freezeX hw hX kb gr
  refine wpAny_mono (NM.cv fd A s (freeze σ) fa o ⟨[v], []⟩ [v] [x] _ (t _ _ e1 (.inr (.inr (.inl ⟨_, e2⟩)))) e2 (fun _ h => h) R (frsX fs hX kb) w5 (.cons (rv.tups t) .nil) q) (fun k s' ⟨z, σ', rz, ⟨st, m⟩, ez⟩ => ?_) fun _ _ f => f
  subst ez
  exact ⟨m, fun b o _ e => ⟨fun d => st.keeps b o (freeze_mut _ _) d e, fun d => st.dict b o (freeze_mut _ _) (fun f => f) d e⟩, st.w.stays, fun h => flat_rep fl rz⟩
theorem keepB_none {h₀ : Heap} {σ : Hp} {h h' : Heap} (hw : W h₀ σ h) (k : KeepB (fun _ => False) h h') (gr : ∀ b p, h₀.get? b = some p → h'.get? b = some p) : Step h₀ σ h σ h' := by
  have tups : Tups h h' := fun b p e i => k.at (fun f => f) (imm_notD i) e
  refine ⟨⟨gr, fun b p e => ?_, hw.above, hw.small⟩, fun b p n _ d e => (k b p (fun f => f) e).1 d, fun b p n _ d e => (k b p (fun f => f) e).2 d, .refl _ _, tups, fun b p e => ?_⟩
  · have y := hw.holds b p e
    have al : ∀ ob, h.get? b = some ob → h'.get? b = some ob := fun ob eb => (k b ob (fun f => f) eb).1 (holds_notD y eb)
    cases p with
    | list xs => obtain ⟨vs, n, e2, rr⟩ := y; exact ⟨vs, n, al _ e2, rr.tups tups⟩
    | flist xs => obtain ⟨vs, ⟨o2, e2, r⟩, rr⟩ := y; exact ⟨vs, ⟨o2, al _ e2, r⟩, rr.tups tups⟩
    | iter l i => cases l <;> (obtain ⟨o2, e2, r⟩ := y; exact ⟨o2, al _ e2, r⟩)
  · obtain ⟨k1, k2⟩ := k b p (fun f => f) e
    by_cases d : IsD p
    · obtain ⟨sl, e1⟩ := k2 d
      exact ⟨_, e1, fun _ => by obtain ⟨es, kk, dd⟩ := d; exact ⟨es, kk, dd⟩⟩
    · exact ⟨p, k1 d, id⟩
/-- sorted by a key or by none -/
inductive SortK (Φ : Fns) (Q : V → Hp → Prop) (x k : V) (σ : Hp) : Prop
  | mk (a : Addr) (xs : List V) (lt : Nat → Nat → Bool) (h1 : x = .ref a) (h2 : listAt σ a = some xs) (h3 : Weak lt) (h4 : 2 ≤ xs.length) (h5 : xs.length < 64) (h6 : (∀ p : Array Nat, Pre xs.length p xs.length → Up lt p xs.length → newL (p.toList.map fun i => xs.getD i .none) Q σ)) (h7 : ((k = .none ∧ ∀ (h₀ h : Heap) (vs : List Value), W h₀ σ h → Reps h vs xs → Sorts h vs lt) ∨
     ∃ fd ks, k = .func fd ∧ ks.length = xs.length ∧ (∀ y ∈ ks, y.flat) ∧ (∀ (i : Nat) x y, xs[i]? = some x → ks[i]? = some y → Φ 1000 [.func fd, x] (fun v _ => v = y) (freeze σ)) ∧ ∀ (h : Heap) (vs : List Value), Reps h vs ks → Sorts h vs lt)) : SortK Φ Q x k σ
noncomputable def PE.sortk (a k : PE) : PE := .of fun Φ Q F σ => vE Φ a (fun x σ => vE Φ k (fun kv σ => SortK Φ Q x kv σ) F σ) F σ
theorem e_sortk (Φ : Fns) (Q : V → Hp → Prop) (F : Frm) (σ : Hp) (a k : PE) : vE Φ (.sortk a k) Q F σ = vE Φ a (fun x σ => vE Φ k (fun kv σ => SortK Φ Q x kv σ) F σ) F σ := rfl
theorem sorted_boot : bootBuiltins ("sorted" : Str) = some (.builtin "sorted") := by decide +kernel
theorem CE.sortk {c : Cfg} {p q kp : Pos} {x : Str} {e1 e2 : Expr} {a k : PE} (hx : x = "sorted") (hk : c.sc.lookup x = some .globalImplicit) (h1 : CE c e1 a) (hst : ∀ env, starEach [e1] env = [(false, eval e1 env)]) (h2 : CE c e2 k) : CE c (.Call (.Name x p) [e1] [⟨some "key", e2, kp⟩] q) (.sortk a k) := by
  intro prog w h₀ mg mb Φ n A s σ env own F Q X v
  subst hx
  refine Call_NameK (load_glob (v := Value.builtin "sorted") X.G X.w X.f hk (by decide) (.inr ⟨X.NM.fr _ (by decide +kernel), (X.G.boot _ (by decide)).trans sorted_boot⟩) ?_)
  refine callWith_builtin_kwB (first := []) ?_ rfl ?_
  · rw [hst env]; rfl
  rw [hst env]
  refine evalArgs_kwB rfl (Calls.spliced_cons (wpAny_mono (h1 X v) (fun vx s₁ => PV.on fun x σ₁ rx st m₁ v2 => Calls.spliced_nil ?_) fun _ _ f => f))
  refine kws_cons (wpAny_mono (h2 (X.step st) v2) (fun vk s₂ => PV.on fun kv σ₂ rk st₂ m₂ q₂ => kws_nil ?_) fun _ _ f => f)
  obtain ⟨b, xs, lt, rfl, el, Wk, hl2, h64, hn, q⟩ := q₂
  obtain rfl := (rx.step st₂).iref
  have hw := st₂.w
  obtain ⟨vs, hl, r⟩ := hw.list el
  have hlen := r.length
  have X2 := (X.step st).step st₂
  show wpAny (model prog w) A (PySem.call (.builtin "sorted") [.ref b] [(Str.ofString "key", vk)]) _ _ _
  refine wpAny_mono (Q := PV h₀ σ₂ s₂ Q) ?_ (fun _ _ pv => pv.back (st.trans st₂) (m₁.trans m₂)) fun _ _ f => f
  rcases q with ⟨rfl, hs⟩ | ⟨fd, ks, rfl, hkl, hfl, hc, hs⟩
  · obtain rfl := rk.inone
    obtain ⟨κ, hk⟩ := hs h₀ s₂.heap vs hw r
    refine sorted_none (κ := κ) (lt := lt) Wk hl (by omega) (by omega) (fun h' Q k q => (hk prog w _ { s₂ with heap := h' } fun b o e _ => k b o e).1 Q q) (fun h' i j C k hi hj hc => (hk prog w _ { s₂ with heap := h' } fun b o e _ => k b o e).2 i j C hi hj hc) fun p hp hu => ?_
    rw [hlen] at hp hu
    obtain ⟨nn, gg⟩ := sortedAll_get s₂.heap vs (p.toList.map fun i => vs.getD i Value.none)
    refine PV.new (n := nn) hw (fun b o e => sortedAll_keep _ _ _ b o e) ?_ gg (reps_pick r _ (pre_lt hp)) (hn p hp hu)
    cases q : s₂.heap.get? (s₂.heap.objs.size + 1) with
    | none => rfl
    | some o => exact absurd (Heap.lt_size q) (Nat.not_lt_of_le (Nat.le_succ _))
  · obtain ⟨fa, o, rfl, e1, e2⟩ := rk.ifunc
    have kr : ∀ (ws : List Value), ws.length = vs.length → (∀ (i : Nat) k, ws[i]? = some k → ∃ y, ks[i]? = some y ∧ ∀ h, Rep h k y) → ∀ h, Reps h ws ks := fun ws hz hg h => reps_of_get (by omega) fun j v x ev ex => by
      obtain ⟨y, ey, ry⟩ := hg j v ev
      rw [ex] at ey; cases ey; exact ry _
    refine sorted_key (h₀ := h₀) (lt := lt) (kp := fun i k => ∃ y, ks[i]? = some y ∧ ∀ h, Rep h k y) Wk hl (by omega) (by omega) hw.stays (fun i v s3 ev kb gr => ?_) (fun ws h hz hg => hs h ws (kr ws hz hg h)) fun p s3 D nn hp hu ms kb gr nD g => ?_
    · obtain ⟨x, ex, rx⟩ := r.getRev ev
      have hi := (List.getElem?_eq_some_iff.mp ex).1
      obtain ⟨y, ey⟩ : ∃ y, ks[i]? = some y := ⟨_, List.getElem?_eq_getElem (by omega)⟩
      refine wpAny_mono (key_call (X := fun _ => False) (y := y) X.NM hw (fun _ f => f.elim) kb gr (frs_in1 (frs_in1 X2.fs)) X.R.in2 e1 e2 rx (hc i x y ex ey) (hfl y (List.mem_of_getElem? ey))) (fun k s4 ⟨m4, k4, g4, r4⟩ => ⟨m4, k4, g4, y, ey, r4⟩) fun _ _ f => f
    · rw [hlen] at hp hu
      have st3 := keepB_none hw kb gr
      have qq := hn p hp hu
      have hD : Holds s3.heap D (.list (p.toList.map fun i => xs.getD i .none)) := ⟨_, nn, g, (reps_pick r _ (pre_lt hp)).step st3⟩
      have wD := st3.w.adopt (beside_one hw nD).2.2 hD qq.1
      refine ⟨_, _, .ref D, ⟨⟨wD, st3.keep, st3.dict, fun a => ?_, st3.tups, st3.alive⟩, ms⟩, qq.2 D (hw.fresh nD)⟩
      by_cases qa : a = D
      · subst qa; exact ⟨fun _ => .inr nD, fun _ => .inr nD⟩
      · have := st3.grow a
        unfold Mut at this ⊢
        rw [upd_ne _ _ qa]; exact this

/-! Y3 -/
/-! the least of an iterator, by a key or by none -/
section
variable {prog : Program} {w : World} {A : Around} {R : Result → Shared → Prop}
noncomputable def KeyAt (prog : Program) (w : World) (A : Around) (h₀ hb : Heap) (ita : Addr) (kf : Value) (vs : List Value) (kp : Nat → Value → Prop) : Prop :=
  (kf = .none ∧ ∀ (i : Nat) v, vs[i]? = some v → kp i v) ∨ ∃ fa, kf = .ref fa ∧ ∀ (i : Nat) (v : Value) (s : Shared), vs[i]? = some v → KeepB (· = ita) hb s.heap → (∀ b o, h₀.get? b = some o → s.heap.get? b = some o) →
    wpAny (model prog w) A (call (.ref fa) [v]) (fun k s' => Sm s s' ∧ KeepB (fun _ => False) s.heap s'.heap ∧ (∀ b o, h₀.get? b = some o → s'.heap.get? b = some o) ∧ kp i k) (fun _ _ => False) s
structure MinS (h₀ hb : Heap) (ita l S : Addr) (vs : List Value) (j : Nat) (best : List Value) (h : Heap) : Prop where
  it : h.IsListIter ita l j
  kb : KeepB (· = ita) hb h
  gr : ∀ b o, h₀.get? b = some o → h.get? b = some o
  best : ∃ c, h.get? S = some (bestObj best c)
theorem keepIt {h h' : Heap} {ita l : Addr} {j : Nat} (k : KeepB (fun _ => False) h h') (x : h.IsListIter ita l j) : h'.IsListIter ita l j := by
  obtain ⟨o, e, c, d⟩ := x
  exact ⟨o, k.at (fun f => f) (fun es k q => by rw [d] at q; cases q) e, c, d⟩
theorem MinS.key {h₀ hb : Heap} {ita l S : Addr} {vs : List Value} {j : Nat} {best : List Value} {h h' : Heap} (x : MinS h₀ hb ita l S vs j best h) (k : KeepB (fun _ => False) h h') (gr : ∀ b o, h₀.get? b = some o → h'.get? b = some o) : MinS h₀ hb ita l S vs j best h' :=
  ⟨keepIt k x.it, x.kb.trans (k.mono fun _ f => f.elim), gr, by obtain ⟨c, e⟩ := x.best; exact ⟨c, k.at (fun f => f) (fun es k q => by cases q) e⟩⟩
theorem MinS.next {h₀ hb : Heap} {ita l S : Addr} {vs : List Value} {j j' : Nat} {best : List Value} {h h' : Heap} (hS : S ≠ ita) (h0i : h₀.get? ita = none) (x : MinS h₀ hb ita l S vs j best h) (k : Heap.ExtBut ita h h') (it : h'.IsListIter ita l j') : MinS h₀ hb ita l S vs j' best h' :=
  ⟨it, x.kb.trans (.of fun b o nb e => k b o nb e), fun b o e => k b o (by rintro rfl; rw [h0i] at e; cases e) (x.gr b o e), by obtain ⟨c, e⟩ := x.best; exact ⟨c, k _ _ hS e⟩⟩
theorem MinS.put {h₀ hb : Heap} {ita l S : Addr} {vs : List Value} {j : Nat} {best best' : List Value} {h : Heap} (hS : S ≠ ita) (bS : hb.get? S = none) (h0 : ∀ b o, h₀.get? b = some o → hb.get? b = some o) (x : MinS h₀ hb ita l S vs j best h) : MinS h₀ hb ita l S vs j best' (h.update S (Obj.mapSeq fun _ => best'.toArray)) := by
  obtain ⟨c, eS⟩ := x.best
  have sb := Heap.SameBut.update h S (Obj.mapSeq fun _ => best'.toArray)
  refine ⟨x.it.at fun o e => sb.extBut _ o hS.symm e, fun b o nb e => ?_, fun b o e => sb.extBut b o (by rintro rfl; rw [h0 _ _ e] at bS; cases bS) (x.gr b o e), LObj.update eS fun _ => best'.toArray⟩
  have n : b ≠ S := by rintro rfl; rw [bS] at e; cases e
  obtain ⟨q1, q2⟩ := x.kb b o nb e
  refine ⟨fun d => sb.extBut b o n (q1 d), fun d => ?_⟩
  obtain ⟨sl, e1⟩ := q2 d
  exact ⟨sl, sb.extBut b _ n e1⟩
theorem min_loop (hh : A.in1.handled = none) {h₀ hb : Heap} {ita l S : Addr} {vs : List Value} {kf : Value} {kw : List (Str × Value)} {kp : Nat → Value → Prop} (hS : S ≠ ita) (hli : l ≠ ita) (h0i : h₀.get? ita = none) (bS : hb.get? S = none) (h0 : ∀ b o, h₀.get? b = some o → hb.get? b = some o) (lt : Nat → Nat → Bool)
    (hl0 : hb.IsList l vs.toArray) (key : KeyAt prog w A.in1 h₀ hb ita kf vs kp)
    (cmp : ∀ (s' : Shared) (i j : Nat) (ki kj : Value), KeepB (· = ita) hb s'.heap → kp i ki → kp j kj → LtAt A.in1 s' ki kj (lt i j)) :
    ∀ (k j : Nat) (s : Shared) (vb kb : Value), vs.length - (j + 1) = k → j + 1 ≤ vs.length → MinS h₀ hb ita l S vs (j + 1) [vb, kb] s.heap → vs[argBest lt j]? = some vb → kp (argBest lt j) kb →
    (∀ v s', vs[argBest lt (vs.length - 1)]? = some v → Sm s s' → KeepB (· = ita) hb s'.heap → (∀ b o, h₀.get? b = some o → s'.heap.get? b = some o) → (∃ o, s'.heap.get? ita = some o ∧ o.cls = .type "list_iterator" ∧ o.data = .fields #[.none, .int (vs.length : Nat) 0]) → R (.ok (.ret v)) s') →
    codeAny (model prog w) A (.builtin "min.loop" ⟨[.ref ita, kf, .ref S], kw⟩) R s := by
  have hname : (toString "min" ++ toString ".loop" : String) = "min.loop" := by decide
  have lst : ∀ {h : Heap}, KeepB (· = ita) hb h → h.IsList l vs.toArray := fun {h} k => by
    obtain ⟨o, e, hc, nn, hd⟩ := hl0
    exact ⟨o, k.at hli (fun es k q => by rw [hd] at q; cases q) e, hc, nn, hd⟩
  intro k
  induction k with
  | zero =>
    intro j s vb kb hk hj M hvb hkb hR
    have hin : j + 1 = vs.length := by omega
    obtain ⟨c, gS⟩ := M.best
    refine codeAny_builtin PySem.F.entry_min_loop ?_
    rw [Around.under_plainId PySem.F.plain_min_loop _]
    show wpAny _ A.in1 (seqItems? (.ref S) >>= _) _ _ s
    refine wpAny_bind (wpAny_seqItems gS rfl ?_)
    show wpAny _ A.in1 (tryCatch (pyNext (.ref ita)) _ >>= _) _ _ s
    refine wpAny_bind (wpAny_tryCatch (next_list_end hh M.it (lst M.kb) (by simp; omega) fun h' o eb go c1 d1 => ?_))
    have hS' : h'.get? S = some (bestObj [vb, kb] c) := eb S _ hS gS
    show wpAny _ A.in1 (updateSeq S (fun _ => #[]) >>= _) _ _ _
    refine wpAny_bind ?_
    refine wpAny_updateSeq hS' rfl (wpAny_bind (wpAny_letGo (wpAny_pure ?_)))
    have sb := Heap.SameBut.update h' S (Obj.mapSeq fun _ => (#[] : Array Value))
    refine hR vb _ (by rw [← hin]; exact hvb) ⟨rfl, rfl⟩ (fun b o nb e => ?_) (fun b o e => ?_) ⟨o, sb.extBut _ _ hS.symm go, c1, by rw [d1, hin]⟩
    · have n : b ≠ S := by rintro rfl; rw [bS] at e; cases e
      obtain ⟨q1, q2⟩ := M.kb b o nb e
      refine ⟨fun d => sb.extBut b o n (eb b o nb (q1 d)), fun d => ?_⟩
      obtain ⟨sl, e1⟩ := q2 d
      exact ⟨sl, sb.extBut b _ n (eb b _ nb e1)⟩
    · have n : b ≠ S := by rintro rfl; rw [h0 _ _ e] at bS; cases bS
      have n2 : b ≠ ita := by rintro rfl; rw [h0i] at e; cases e
      exact sb.extBut b o n (eb b o n2 (M.gr b o e))
  | succ k ih =>
    intro j s vb kb hk hj M hvb hkb hR
    have hlt : j + 1 < vs.length := by omega
    obtain ⟨c, gS⟩ := M.best
    refine codeAny_builtin PySem.F.entry_min_loop ?_
    rw [Around.under_plainId PySem.F.plain_min_loop _]
    show wpAny _ A.in1 (seqItems? (.ref S) >>= _) _ _ s
    refine wpAny_bind (wpAny_seqItems gS rfl ?_)
    show wpAny _ A.in1 (tryCatch (pyNext (.ref ita)) _ >>= _) _ _ s
    have hv : vs[j + 1]? = some vs[j + 1] := List.getElem?_eq_getElem hlt
    refine wpAny_bind (wpAny_tryCatch (wpAny_pyNext_list_item M.it (lst M.kb) (show vs.toArray[j + 1]? = some vs[j + 1] by simp [hlt]) fun h' hst' sb => ?_))
    have M' : MinS h₀ hb ita l S vs (j + 1 + 1) [vb, kb] h' := M.next hS h0i sb.extBut hst'
    rcases id key with ⟨rfl, kk⟩ | ⟨fa, rfl, kk⟩
    · have hval := kk _ _ hv
      have M2 := M'
      obtain ⟨c2, gS2⟩ := M2.best
      show wpAny _ A.in1 (tryCatch (holding [vs[j + 1], vs[j + 1]] (richCompare .Lt vs[j + 1] kb >>= _)) _ >>= _) _ _ _
      refine wpAny_bind (wpAny_tryCatch (wpAny_holding (wpAny_bind (cmp _ (j + 1) (argBest lt j) _ _ M2.kb hval hkb prog w _ _ ?_))))
      refine wpAny_bind (wpAny_holding (wpAny_truthy_bool ?_))
      refine wpAny_bind (wpAny_letGo (wpAny_pure ?_))
      cases hg : lt (j + 1) (argBest lt j) with
      | true =>
        simp only [if_true]
        refine wpAny_bind ?_
        refine wpAny_updateSeq gS2 rfl (wpAny_bind (wpAny_letGo ?_))
        rw [hname]
        exact wpAny_pure ⟨plainId_quiet PySem.F.plain_min_loop _, ih (j + 1) _ vs[j + 1] vs[j + 1] (by omega) hlt (M2.put (best' := [vs[j + 1], vs[j + 1]]) hS bS h0) (by simp only [argBest, hg, if_true]; exact hv) (by simp only [argBest, hg, if_true]; exact hval) fun v' s3 a1 a2 a3 a4 a5 => hR v' s3 a1 a2 a3 a4 a5⟩
      | false =>
        simp only [Bool.false_eq_true, if_false]
        refine wpAny_bind (wpAny_letGo ?_)
        rw [hname]
        exact wpAny_pure ⟨plainId_quiet PySem.F.plain_min_loop _, ih (j + 1) _ vb kb (by omega) hlt M2 (by simp only [argBest, hg, Bool.false_eq_true, if_false]; exact hvb) (by simp only [argBest, hg, Bool.false_eq_true, if_false]; exact hkb) fun v' s3 a1 a2 a3 a4 a5 => hR v' s3 a1 a2 a3 a4 a5⟩
    · show wpAny _ A.in1 (tryCatch (holding [vs[j + 1]] (call (.ref fa) [vs[j + 1]])) _ >>= _) _ _ _
      refine wpAny_bind (wpAny_tryCatch (wpAny_holding (wpAny_mono (kk (j + 1) vs[j + 1] _ hv M'.kb M'.gr) (fun val s'' ⟨m2, a2, a3, hval⟩ => ?_) fun _ _ f => f.elim)))
      have M2 := M'.key a2 a3
      obtain ⟨c2, gS2⟩ := M2.best
      show wpAny _ A.in1 (tryCatch (holding [vs[j + 1], val] (richCompare .Lt val kb >>= _)) _ >>= _) _ _ _
      refine wpAny_bind (wpAny_tryCatch (wpAny_holding (wpAny_bind (cmp s'' (j + 1) (argBest lt j) _ _ M2.kb hval hkb prog w _ _ ?_))))
      refine wpAny_bind (wpAny_holding (wpAny_truthy_bool ?_))
      refine wpAny_bind (wpAny_letGo (wpAny_pure ?_))
      cases hg : lt (j + 1) (argBest lt j) with
      | true =>
        simp only [if_true]
        refine wpAny_bind ?_
        refine wpAny_updateSeq gS2 rfl (wpAny_bind (wpAny_letGo ?_))
        rw [hname]
        exact wpAny_pure ⟨plainId_quiet PySem.F.plain_min_loop _, ih (j + 1) _ vs[j + 1] val (by omega) hlt (M2.put (best' := [vs[j + 1], val]) hS bS h0) (by simp only [argBest, hg, if_true]; exact hv) (by simp only [argBest, hg, if_true]; exact hval) fun v' s3 a1 a2 a3 a4 a5 => hR v' s3 a1 (Sm.trans ⟨rfl, rfl⟩ (m2.trans a2)) a3 a4 a5⟩
      | false =>
        simp only [Bool.false_eq_true, if_false]
        refine wpAny_bind (wpAny_letGo ?_)
        rw [hname]
        exact wpAny_pure ⟨plainId_quiet PySem.F.plain_min_loop _, ih (j + 1) _ vb kb (by omega) hlt M2 (by simp only [argBest, hg, Bool.false_eq_true, if_false]; exact hvb) (by simp only [argBest, hg, Bool.false_eq_true, if_false]; exact hkb) fun v' s3 a1 a2 a3 a4 a5 => hR v' s3 a1 (Sm.trans ⟨rfl, rfl⟩ (m2.trans a2)) a3 a4 a5⟩
theorem min_first (hh : A.in1.handled = none) {h₀ hb : Heap} {ita l S : Addr} {vs : List Value} {kf : Value} {kw : List (Str × Value)} {kp : Nat → Value → Prop} (hS : S ≠ ita) (hli : l ≠ ita) (h0i : h₀.get? ita = none) (bS : hb.get? S = none) (h0 : ∀ b o, h₀.get? b = some o → hb.get? b = some o) (lt : Nat → Nat → Bool)
    (hl0 : hb.IsList l vs.toArray) (key : KeyAt prog w A.in1 h₀ hb ita kf vs kp)
    (cmp : ∀ (s' : Shared) (i j : Nat) (ki kj : Value), KeepB (· = ita) hb s'.heap → kp i ki → kp j kj → LtAt A.in1 s' ki kj (lt i j))
    {s : Shared} (hlt : 0 < vs.length) (M : MinS h₀ hb ita l S vs 0 [] s.heap)
    (hR : ∀ v s', vs[argBest lt (vs.length - 1)]? = some v → Sm s s' → KeepB (· = ita) hb s'.heap → (∀ b o, h₀.get? b = some o → s'.heap.get? b = some o) → (∃ o, s'.heap.get? ita = some o ∧ o.cls = .type "list_iterator" ∧ o.data = .fields #[.none, .int (vs.length : Nat) 0]) → R (.ok (.ret v)) s') :
    codeAny (model prog w) A (.builtin "min.loop" ⟨[.ref ita, kf, .ref S], kw⟩) R s := by
  have hname : (toString "min" ++ toString ".loop" : String) = "min.loop" := by decide
  have lst : ∀ {h : Heap}, KeepB (· = ita) hb h → h.IsList l vs.toArray := fun {h} k => by
    obtain ⟨o, e, hc, nn, hd⟩ := hl0
    exact ⟨o, k.at hli (fun es k q => by rw [hd] at q; cases q) e, hc, nn, hd⟩
  obtain ⟨c, gS⟩ := M.best
  refine codeAny_builtin PySem.F.entry_min_loop ?_
  rw [Around.under_plainId PySem.F.plain_min_loop _]
  show wpAny _ A.in1 (seqItems? (.ref S) >>= _) _ _ s
  refine wpAny_bind (wpAny_seqItems gS rfl ?_)
  show wpAny _ A.in1 (tryCatch (pyNext (.ref ita)) _ >>= _) _ _ s
  have hv : vs[0]? = some vs[0] := List.getElem?_eq_getElem hlt
  refine wpAny_bind (wpAny_tryCatch (wpAny_pyNext_list_item M.it (lst M.kb) (show vs.toArray[0]? = some vs[0] by simp [hlt]) fun h' hst' sb => ?_))
  have M' : MinS h₀ hb ita l S vs (0 + 1) [] h' := M.next hS h0i sb.extBut hst'
  rcases id key with ⟨rfl, kk⟩ | ⟨fa, rfl, kk⟩
  · have hval := kk _ _ hv
    have M2 := M'
    obtain ⟨c2, gS2⟩ := M2.best
    show wpAny _ A.in1 (updateSeq S (fun _ => #[vs[0], vs[0]]) >>= _) _ _ _
    refine wpAny_bind ?_
    refine wpAny_updateSeq gS2 rfl ?_
    rw [hname]
    exact wpAny_pure ⟨plainId_quiet PySem.F.plain_min_loop _, min_loop hh hS hli h0i bS h0 lt hl0 key cmp _ 0 _ vs[0] vs[0] rfl (by omega) (M2.put (best' := [vs[0], vs[0]]) hS bS h0) hv hval fun v' s3 a1 a2 a3 a4 a5 => hR v' s3 a1 a2 a3 a4 a5⟩
  · show wpAny _ A.in1 (tryCatch (holding [vs[0]] (call (.ref fa) [vs[0]])) _ >>= _) _ _ _
    refine wpAny_bind (wpAny_tryCatch (wpAny_holding (wpAny_mono (kk 0 vs[0] _ hv M'.kb M'.gr) (fun val s'' ⟨m2, a2, a3, hval⟩ => ?_) fun _ _ f => f.elim)))
    have M2 := M'.key a2 a3
    obtain ⟨c2, gS2⟩ := M2.best
    show wpAny _ A.in1 (updateSeq S (fun _ => #[vs[0], val]) >>= _) _ _ _
    refine wpAny_bind ?_
    refine wpAny_updateSeq gS2 rfl ?_
    rw [hname]
    exact wpAny_pure ⟨plainId_quiet PySem.F.plain_min_loop _, min_loop hh hS hli h0i bS h0 lt hl0 key cmp _ 0 _ vs[0] val rfl (by omega) (M2.put (best' := [vs[0], val]) hS bS h0) hv hval fun v' s3 a1 a2 a3 a4 a5 => hR v' s3 a1 (Sm.trans ⟨rfl, rfl⟩ (m2.trans a2)) a3 a4 a5⟩
end
theorem args_min_dk (a d k : Value) : argsOk "min" ⟨[a], [(Str.ofString "default", d), (Str.ofString "key", k)]⟩ := by unfold argsOk; kernel_rfl

/-! Y4 -/
inductive MinK (Φ : Fns) (Q : V → Hp → Prop) (x k : V) (σ : Hp) : Prop
  | mk (ita l : Addr) (xs : List V) (lt : Nat → Nat → Bool) (y : V) (h1 : x = .ref ita) (h2 : σ ita = some (.iter (some l) 0)) (h3 : listAt σ l = some xs) (h4 : 0 < xs.length) (h5 : xs[argBest lt (xs.length - 1)]? = some y) (h6 : Q y (upd σ ita (.iter none xs.length))) (h7 : ((k = .none ∧ ∀ (h₀ h : Heap) (vs : List Value), W h₀ σ h → Reps h vs xs → ∀ (A : Around) (s' : Shared) (i j : Nat) (vi vj : Value), A.units ≤ 9100 → KeepB (· = ita) h s'.heap → vs[i]? = some vi → vs[j]? = some vj → LtAt A s' vi vj (lt i j)) ∨
     ∃ (fd : FuncData) (ks : List V), k = .func fd ∧ ks.length = xs.length ∧ (∀ y ∈ ks, V.flat y) ∧ (∀ (i : Nat) x y, xs[i]? = some x → ks[i]? = some y → Φ 1000 [.func fd, x] (fun v _ => v = y) (freeze σ)) ∧
       ∀ (A : Around) (s' : Shared) (i j : Nat) (ki kj : Value) (yi yj : V), A.units ≤ 9100 → ks[i]? = some yi → ks[j]? = some yj → (∀ h, Rep h ki yi) → (∀ h, Rep h kj yj) → LtAt A s' ki kj (lt i j))) : MinK Φ Q x k σ
noncomputable def PE.mink (a d k : PE) : PE := .of fun Φ Q F σ => vE Φ a (fun x σ => vE Φ d (fun _ σ => vE Φ k (fun kv σ => MinK Φ Q x kv σ) F σ) F σ) F σ
theorem e_mink (Φ : Fns) (Q : V → Hp → Prop) (F : Frm) (σ : Hp) (a d k : PE) : vE Φ (.mink a d k) Q F σ = vE Φ a (fun x σ => vE Φ d (fun _ σ => vE Φ k (fun kv σ => MinK Φ Q x kv σ) F σ) F σ) F σ := rfl
theorem min_boot : bootBuiltins ("min" : Str) = some (.builtin "min") := by decide +kernel
theorem CE.mink {c : Cfg} {p q kp1 kp2 : Pos} {x : Str} {e1 e2 e3 : Expr} {a d k : PE} (hx : x = "min") (hk : c.sc.lookup x = some .globalImplicit) (h1 : CE c e1 a) (hst : ∀ env, starEach [e1] env = [(false, eval e1 env)]) (h2 : CE c e2 d) (h3 : CE c e3 k) :
    CE c (.Call (.Name x p) [e1] [⟨some "default", e2, kp1⟩, ⟨some "key", e3, kp2⟩] q) (.mink a d k) := by
  intro prog w h₀ mg mb Φ n A s σ env own F Q X v
  subst hx
  refine Call_NameK (load_glob (v := Value.builtin "min") X.G X.w X.f hk (by decide) (.inr ⟨X.NM.fr _ (by decide +kernel), (X.G.boot _ (by decide)).trans min_boot⟩) ?_)
  refine callWith_builtin_kwB (first := []) ?_ rfl ?_
  · rw [hst env]; rfl
  rw [hst env]
  refine evalArgs_kwB rfl (Calls.spliced_cons (wpAny_mono (h1 X v) (fun vx s₁ => PV.on fun x σ₁ rx st m₁ v2 => Calls.spliced_nil ?_) fun _ _ f => f))
  refine kws_cons (wpAny_mono (h2 (X.step st) v2) (fun vd s₂ => PV.on fun dv σ₂ rd st₂ m₂ v3 => ?_) fun _ _ f => f)
  refine kws_cons (wpAny_mono (h3 ((X.step st).step st₂) v3) (fun vk s₃ => PV.on fun kv σ₃ rk st₃ m₃ q₃ => kws_nil ?_) fun _ _ f => f)
  obtain ⟨ita, l, xs, lt, y, rfl, ei, el, hpos, hy, hq, q⟩ := q₃
  obtain rfl := (rx.step (st₂.trans st₃)).iref
  have hw := st₃.w
  obtain ⟨vs, hl, r⟩ := hw.list el
  have hlen := r.length
  have X3 := ((X.step st).step st₂).step st₃
  have hname : (toString "min" ++ toString ".loop" : String) = "min.loop" := by decide
  show wpAny (model prog w) A (PySem.call (.builtin "min") [.ref ita] [(Str.ofString "default", vd), (Str.ofString "key", vk)]) _ _ _
  refine wpAny_mono (Q := PV h₀ σ₃ s₃ Q) ?_ (fun _ _ pv => pv.back ((st.trans st₂).trans st₃) ((m₁.trans m₂).trans m₃)) fun _ _ f => f
  have hu : A.units ≤ 9000 := by have := X.R.units; omega
  have hit : s₃.heap.IsListIter ita l 0 := hw.holds _ _ ei
  have hli : l ≠ ita := by
    rintro rfl
    unfold listAt at el; rw [ei] at el; cases el
  have key : ∃ kp : Nat → Value → Prop, KeyAt prog w A.in1 h₀ s₃.heap ita vk vs kp ∧ ∀ (s' : Shared) (i j : Nat) (ki kj : Value), KeepB (· = ita) s₃.heap s'.heap → kp i ki → kp j kj → LtAt A.in1 s' ki kj (lt i j) := by
    rcases q with ⟨rfl, hs⟩ | ⟨fd, ks, rfl, hkl, hfl, hc, hs⟩
    · obtain rfl := rk.inone
      exact ⟨fun i v => vs[i]? = some v, .inl ⟨rfl, fun i v e => e⟩, fun s' i j ki kj kb e1 e2 => hs h₀ s₃.heap vs hw r A.in1 s' i j ki kj (by show A.units + 1 ≤ 9100; omega) kb e1 e2⟩
    · obtain ⟨fa, o, rfl, e1, e2⟩ := rk.ifunc
      refine ⟨fun i k => ∃ y, ks[i]? = some y ∧ ∀ h, Rep h k y, .inr ⟨fa, rfl, fun i v s4 ev kb gr => ?_⟩, fun s' i j ki kj kb ⟨yi, b1, b2⟩ ⟨yj, b3, b4⟩ => hs A.in1 s' i j ki kj yi yj (by show A.units + 1 ≤ 9100; omega) b1 b3 b2 b4⟩
      obtain ⟨x, ex, rx⟩ := r.getRev ev
      have hi := (List.getElem?_eq_some_iff.mp ex).1
      obtain ⟨y, ey⟩ : ∃ y, ks[i]? = some y := ⟨_, List.getElem?_eq_getElem (by omega)⟩
      refine wpAny_mono (key_call (X := (· = ita)) (y := y) X.NM hw (fun a e => ⟨some l, 0, by subst e; exact ei⟩) kb gr (frs_in1 X3.fs) X.R.in1 e1 e2 rx (hc i x y ex ey) (hfl y (List.mem_of_getElem? ey))) (fun k s5 ⟨m4, k4, g4, r4⟩ => ⟨m4, k4, g4, y, ey, r4⟩) fun _ _ f => f
  obtain ⟨kp, hkey, hcmp⟩ := key
  refine kmk_tree PySem.F.kind_min PySem.F.plain_min PySem.F.entry_min (args_min_dk _ _ _) ?_
  show wpAny _ A.in1 (Builtin.Builtins.bindParams "min" ["key", "default"] 0 ⟨[], [(Str.ofString "default", vd), (Str.ofString "key", vk)]⟩ >>= _) _ _ s₃
  refine wpAny_bind (wpAny_of_eq (show Builtin.Builtins.bindParams "min" ["key", "default"] 0 ⟨[], [(Str.ofString "default", vd), (Str.ofString "key", vk)]⟩ = pure [some vk, some vd] from rfl) ?_)
  refine wpAny_bind (wpAny_pure ?_)
  refine wpAny_bind (iter_self hw ei ?_)
  refine wpAny_bind (wpAny_newList ?_ (Nat.zero_le _))
  rw [hname]
  refine wpAny_pure ⟨plainId_quiet PySem.F.plain_min_loop _, ?_⟩
  have bS : s₃.heap.get? s₃.heap.objs.size = Option.none := get_push_none _
  obtain ⟨oi, gi, ci, di⟩ := id hit
  have hS : s₃.heap.objs.size ≠ ita := Nat.ne_of_gt (Heap.lt_size gi)
  refine min_first (kf := vk) X.R.handled hS hli (hw.above _ ⟨_, ei, rfl⟩) bS hw.stays lt hl hkey hcmp (by omega) ⟨hit.at fun o e => Heap.get?_push_of_some _ e, .of fun b o _ e => Heap.get?_push_of_some _ e, fun b o e => Heap.get?_push_of_some _ (hw.stays b o e), ⟨0, Heap.get?_push_size _ rfl⟩⟩ fun v s' hv hm kb gr hd => ?_
  rw [hlen] at hv hd
  obtain ⟨y', e', ry⟩ := r.getRev hv
  rw [hy] at e'; cases e'
  have st4 := keepB_step hw ⟨_, ei, rfl⟩ kb gr (o := .iter Option.none xs.length) (fun _ => hd) trivial
  exact ⟨y, _, ry.step st4, ⟨st4, Sm.trans ⟨rfl, rfl⟩ hm⟩, hq⟩

/-! P11 -/
noncomputable def ps_ns : List PS := [.ifs (.cmp .Eq (.var 0) (.int 1)) [.assign (.name 3) (.call .iter [(.var 1)]), .assign (.name 4) (.call .object []), .assign (.name 5) (.mink (.var 3) (.var 4) (.var 2)), .ret (.ite (.cmp .Is (.var 5) (.var 4)) (.list []) (.list [(.var 5)]))] [], .tryLen 6 1 [.ifs (.cmp .GtE (.var 0) (.var 6)) [.ret (.slice (.sortk (.var 1) (.var 2)) none (some (.var 0)) none)] []], .ifs (.cmp .Is (.var 2) .none) [.assign (.name 3) (.call .iter [(.var 1)]), .zipc 5 [none, none, none] 1 2 [(.var 2), (.var 1)] (.call .range [(.var 0)]) (.var 3), .ifs (.not (.var 5)) [.ret (.var 5)] [], .expr (.ucall 3 [(.var 5)]), .assign (.name 8) (.sub (.sub (.var 5) (.int 0)) (.int 0)), .assign (.name 9) (.var 0), .assign (.name 10) (.gfn 2), .forx 7 (.var 3) [.ifs (.cmp .Lt (.var 7) (.var 8)) [.expr (.vcall 10 [(.var 5), (.tuple [(.var 7), (.var 9)])]), .assign (.tup [8, 11]) (.sub (.var 5) (.int 0)), .aug 9 .Add (.int 1)] []], .expr (.meth .sort (.var 5) []), .ret (.comp [none, none, none] (.var 1) (.tup [1, 2]) .plain (.var 5) [])] [], .assign (.name 3) (.call .iter [(.var 1)]), .zipc 5 [none, none, none, some 2] 1 2 [(.vcall 3 [(.var 2)]), (.var 1), (.var 2)] (.call .range [(.var 0)]) (.var 3), .ifs (.not (.var 5)) [.ret (.var 5)] [], .expr (.ucall 3 [(.var 5)]), .assign (.name 8) (.sub (.sub (.var 5) (.int 0)) (.int 0)), .assign (.name 9) (.var 0), .assign (.name 10) (.gfn 2), .forx 7 (.var 3) [.assign (.name 12) (.vcall 2 [(.var 7)]), .ifs (.cmp .Lt (.var 12) (.var 8)) [.expr (.vcall 10 [(.var 5), (.tuple [(.var 12), (.var 9), (.var 7)])]), .assign (.tup [8, 11, 13]) (.sub (.var 5) (.int 0)), .aug 9 .Add (.int 1)] []], .expr (.meth .sort (.var 5) []), .ret (.comp [none, none, none, none] (.var 3) (.tup [1, 2, 3]) .plain (.var 5) [])]
noncomputable def ps_least : List PS := [.assign (.name 2) (.comp [none, none, some 0] (.call .sum [(.comp [none, none, some 1] (.bin .Sub (.var 2) (.var 1)) (.name 1) .plain (.var 2) [(.cmp .Lt (.var 1) (.var 2))])]) (.name 1) .plain (.var 0) []), .assign (.name 3) (.list [(.int 0)]), .for (.name 4) .plain (.call .range [(.int 1), (.bin .Add (.call .min [(.var 1), (.call .len [(.var 0)])]) (.int 1))]) [.expr (.meth .append (.var 3) [(.call .max [(.comp [none, none, some 4, some 2, some 0] (.bin .Sub (.bin .Mult (.var 2) (.sub (.var 4) (.var 1))) (.sub (.var 3) (.var 1))) (.name 1) .plain (.call .range [(.call .len [(.var 0)])]) [])])])], .ret (.comp [none, none, some 3] (.bin .Sub (.sub (.var 2) (.var 1)) (.sub (.var 2) (.bin .Sub (.var 1) (.int 1)))) (.name 1) .plain (.call .range [(.int 1), (.call .len [(.var 3)])]) [])]
noncomputable def ps_turned : List PS := [.ret (.neg (.var 0))]
noncomputable def ps_law11 : List PS := [.assign (.name 1) (.bin .Add (.list [(.int 3), (.neg (.int 1)), (.int 4)]) (.comp [none, none, some 0] (.call .sum [(.slice (.var 2) (some (.var 1)) none (some (.int 20)))]) (.name 1) .plain (.call .range [(.call .min [(.call .len [(.var 0)]), (.int 20)])]) [])), .ifs (.cmp .Eq (.bin .Mod (.call .len [(.var 0)]) (.int 2)) (.int 1)) [.assign (.name 1) (.comp [none, none] (.bin .Mod (.var 1) (.int 5)) (.name 1) .plain (.var 1) [])] [], .assign (.name 2) (.bin .Sub (.bin .Mod (.bin .Add (.call .sum [(.var 0)]) (.int 3)) (.bin .Add (.call .len [(.var 1)]) (.int 3))) (.int 1)), .assign (.name 3) (.ucall 5 [(.var 1), (.var 2)]), .ifs (.or (.cmp .NotEq (.ucalld 4 (.var 2) (.var 1)) (.var 3)) (.cmp .NotEq (.ucalld 4 (.var 2) (.call .iter [(.var 1)])) (.var 3))) [.ret (.bool false)] [], .assign (.name 4) (.comp [none, none] (.neg (.var 1)) (.name 1) .plain (.ucall 5 [(.comp [none, none] (.neg (.var 1)) (.name 1) .plain (.var 1) []), (.var 2)]) []), .ifs (.cmp .NotEq (.ucallk 4 (.var 2) (.var 1) (.gfn 6)) (.var 4)) [.ret (.bool false)] [], .ret (.cmp .Eq (.ucallk 4 (.var 2) (.call .iter [(.var 1)]) (.gfn 6)) (.var 4))]

/-! L1 -/
/-! the two sifts, as plain functions -/
section
variable {α : Type}
noncomputable def upF (lt : α → α → Bool) (s : Nat) (x : α) (ns : List α) (p : Nat) : List α :=
  if h : s < p then
    if lt (ns.getD ((p - 1) / 2) x) x then upF lt s x (ns.set p (ns.getD ((p - 1) / 2) x)) ((p - 1) / 2) else ns.set p x
  else ns.set p x
termination_by p
decreasing_by omega
noncomputable def kid (lt : α → α → Bool) (x : α) (ns : List α) (p : Nat) : Nat :=
  if 2 * p + 2 < ns.length ∧ lt (ns.getD (2 * p + 2) x) (ns.getD (2 * p + 1) x) = false then 2 * p + 2 else 2 * p + 1
theorem kid_gt (lt : α → α → Bool) (x : α) (ns : List α) (p : Nat) : p < kid lt x ns p := by unfold kid; split <;> omega
theorem kid_lt (lt : α → α → Bool) (x : α) (ns : List α) (p : Nat) (h : 2 * p + 1 < ns.length) : kid lt x ns p < ns.length := by unfold kid; split <;> omega
noncomputable def downF (lt : α → α → Bool) (x : α) (ns : List α) (p : Nat) : List α × Nat :=
  if h : 2 * p + 1 < ns.length then downF lt x (ns.set p (ns.getD (kid lt x ns p) x)) (kid lt x ns p) else (ns, p)
termination_by ns.length - p
decreasing_by
  have := kid_gt lt x ns p
  simp only [List.length_set]; omega
noncomputable def siftF (lt : α → α → Bool) (ns : List α) (p : Nat) (x : α) : List α :=
  upF lt p x ((downF lt x ns p).1.set (downF lt x ns p).2 x) (downF lt x ns p).2

theorem upF_length (lt : α → α → Bool) (s : Nat) (x : α) : ∀ (p : Nat) (ns : List α), (upF lt s x ns p).length = ns.length := by
  intro p
  induction p using Nat.strongRecOn with
  | ind p ih =>
    intro ns
    rw [upF]; split
    · split
      · rw [ih _ (by omega)]; simp
      · simp
    · simp
theorem downF_length (lt : α → α → Bool) (x : α) : ∀ (k : Nat) (ns : List α) (p : Nat), ns.length - p ≤ k → (downF lt x ns p).1.length = ns.length ∧ (p < ns.length → (downF lt x ns p).2 < ns.length) ∧ p ≤ (downF lt x ns p).2 := by
  intro k
  induction k with
  | zero =>
    intro ns p h
    rw [downF]; split
    · omega
    · exact ⟨rfl, fun h => h, Nat.le_refl _⟩
  | succ k ih =>
    intro ns p h
    have g := kid_gt lt x ns p
    rw [downF]; split
    · rename_i hc
      have l := kid_lt lt x ns p hc
      have := ih (ns.set p (ns.getD (kid lt x ns p) x)) (kid lt x ns p) (by simp only [List.length_set]; omega)
      simp only [List.length_set] at this
      exact ⟨this.1, fun _ => this.2.1 l, by omega⟩
    · exact ⟨rfl, fun h => h, Nat.le_refl _⟩
theorem getD_mem {ns : List α} {k : Nat} {x : α} (h : k < ns.length) : ns.getD k x ∈ ns := by
  rw [List.getD_eq_getElem?_getD, List.getElem?_eq_getElem h]; exact List.getElem_mem h
theorem mem_set {ns : List α} {k : Nat} {x y : α} (h : y ∈ ns.set k x) : y ∈ ns ∨ y = x := List.mem_or_eq_of_mem_set h

/-- what the code asks of the order -/
noncomputable def LtOn (σ : Hp) (a : Addr) (f : α → V) (lt : α → α → Bool) (P : α → Prop) : Prop :=
  ∀ x y, P x → P y → ∀ (ys : List V) (Q : V → Hp → Prop), Q (.bool (lt x y)) (upd σ a (.list ys)) → opCmp .Lt (f x) (f y) Q (upd σ a (.list ys))
theorem LtOn.upd {σ : Hp} {a : Addr} {f : α → V} {lt : α → α → Bool} {P : α → Prop} (h : LtOn σ a f lt P) (xs : List V) : LtOn (upd σ a (.list xs)) a f lt P := fun x y hx hy ys Q q => by
  rw [upd_upd] at q ⊢; exact h x y hx hy ys Q q
end

inductive siftdownC (args : List V) (Q : V → Hp → Prop) (σ : Hp) : Prop
  | mk (α : Type) (f : α → V) (lt : α → α → Bool) (P : α → Prop) (a : Addr) (ns : List α) (s p : Nat) (x : α) (h1 : args = [.ref a, .int s, .int p]) (h2 : σ a = some (.list (ns.map f))) (h3 : ns[p]? = some x) (h4 : (∀ y ∈ ns, P y)) (h5 : LtOn σ a f lt P) (h6 : Q .none (upd σ a (.list ((upF lt s x ns p).map f)))) : siftdownC args Q σ
inductive siftupC (args : List V) (Q : V → Hp → Prop) (σ : Hp) : Prop
  | mk (α : Type) (f : α → V) (lt : α → α → Bool) (P : α → Prop) (a : Addr) (ns : List α) (p : Nat) (x : α) (h1 : args = [.ref a, .int p]) (h2 : σ a = some (.list (ns.map f))) (h3 : ns[p]? = some x) (h4 : (∀ y ∈ ns, P y)) (h5 : LtOn σ a f lt P) (h6 : ns.length ≤ BIG) (h7 : Q .none (upd σ a (.list ((siftF lt ns p x).map f)))) : siftupC args Q σ

noncomputable def ps_siftdown : List PS := [.assign (.name 3) (.sub (.var 0) (.var 2)),
  .whil (.cmp .Gt (.var 2) (.var 1)) [.assign (.name 4) (.bin .RShift (.bin .Sub (.var 2) (.int 1)) (.int 1)), .assign (.name 5) (.sub (.var 0) (.var 4)), .ifs (.cmp .Lt (.var 5) (.var 3)) [.setitem (.var 0) (.var 2) (.var 5), .assign (.name 2) (.var 4), .cont] [], .brk],
  .setitem (.var 0) (.var 2) (.var 3)]
noncomputable def ps_siftup (i : Nat) : List PS := [.assign (.name 2) (.call .len [(.var 0)]),
  .assign (.name 3) (.var 1),
  .assign (.name 4) (.sub (.var 0) (.var 1)),
  .assign (.name 5) (.bin .Add (.bin .Mult (.int 2) (.var 1)) (.int 1)),
  .whil (.cmp .Lt (.var 5) (.var 2)) [.assign (.name 6) (.bin .Add (.var 5) (.int 1)), .ifs (.and (.cmp .Lt (.var 6) (.var 2)) (.not (.cmp .Lt (.sub (.var 0) (.var 6)) (.sub (.var 0) (.var 5))))) [.assign (.name 5) (.var 6)] [], .setitem (.var 0) (.var 1) (.sub (.var 0) (.var 5)), .assign (.name 1) (.var 5), .assign (.name 5) (.bin .Add (.bin .Mult (.int 2) (.var 1)) (.int 1))],
  .setitem (.var 0) (.var 1) (.var 4),
  .expr (.ucall i [(.var 0), (.var 3), (.var 1)])]

theorem nth_nat {xs : List V} {k : Nat} : nth xs (k : Int) = xs[k]? := by unfold nth; simp
theorem opSub_list {σ : Hp} {a : Addr} {xs : List V} {k : Nat} {x : V} {Q : V → Hp → Prop} (h : σ a = some (.list xs)) (e : xs[k]? = some x) (q : Q x σ) : opSub (.ref a) (.int k) Q σ :=
  sub_list (listAt_list h) (by rw [nth_nat]; exact e) q
theorem opSet_list {σ : Hp} {a : Addr} {xs : List V} {k : Nat} {v : V} {Q : Hp → Prop} (h : σ a = some (.list xs)) (e : k < xs.length) (q : Q (upd σ a (.list (xs.set k v)))) : opSet (.ref a) (.int k) v Q σ :=
  set_list h (by omega) (by omega) (by simpa using q)

/-! L2 -/
/-! the sift is a sink where all below is a heap -/
inductive Desc : Nat → Nat → Prop
  | refl (p : Nat) : Desc p p
  | left {p q : Nat} : Desc p q → Desc p (2 * q + 1)
  | right {p q : Nat} : Desc p q → Desc p (2 * q + 2)
theorem Desc.le {p q : Nat} (h : Desc p q) : p ≤ q := by induction h <;> omega
theorem Desc.trans {p q r : Nat} (h : Desc p q) (g : Desc q r) : Desc p r := by
  induction g with
  | refl => exact h
  | left _ ih => exact .left ih
  | right _ ih => exact .right ih
section
variable {α : Type} (lt : α → α → Bool)
/-- no item strictly below p is less than one below it -/
noncomputable def HB (ns : List α) (p : Nat) : Prop := ∀ q c a b, Desc p q → q ≠ p → (c = 2 * q + 1 ∨ c = 2 * q + 2) → ns[q]? = some a → ns[c]? = some b → lt a b = false
noncomputable def sinkF (v : α) (ns : List α) (p : Nat) : List α :=
  if h : 2 * p + 1 < ns.length then
    if lt (ns.getD (kid lt v ns p) v) v then ns.set p v else sinkF v (ns.set p (ns.getD (kid lt v ns p) v)) (kid lt v ns p)
  else ns.set p v
termination_by ns.length - p
decreasing_by
  have := kid_gt lt v ns p
  simp only [List.length_set]; omega

variable {lt}
theorem kid_cases (v : α) (ns : List α) (p : Nat) : kid lt v ns p = 2 * p + 1 ∨ kid lt v ns p = 2 * p + 2 := by unfold kid; split <;> simp
theorem kid_par (v : α) (ns : List α) (p : Nat) : (kid lt v ns p - 1) / 2 = p := by rcases kid_cases (lt := lt) v ns p with h | h <;> rw [h] <;> omega
theorem kid_desc (v : α) (ns : List α) (p : Nat) : Desc p (kid lt v ns p) := by
  rcases kid_cases (lt := lt) v ns p with h | h <;> rw [h]
  · exact .left (.refl p)
  · exact .right (.refl p)
theorem upF_set (s : Nat) (v w : α) (ns : List α) (p : Nat) : upF lt s v (ns.set p w) p = upF lt s v ns p := by
  rw [upF.eq_def lt s v (ns.set p w), upF.eq_def lt s v ns]
  split
  · rename_i h
    have e : (ns.set p w).getD ((p - 1) / 2) v = ns.getD ((p - 1) / 2) v := by
      simp only [List.getD_eq_getElem?_getD]; rw [List.getElem?_set_ne (by omega)]
    rw [e, List.set_set, List.set_set]
  · rw [List.set_set]
theorem getD_some {ns : List α} {k : Nat} {v : α} (h : k < ns.length) : ns[k]? = some (ns.getD k v) := by
  simp [List.getElem?_eq_getElem h]
theorem HB.sub {ns : List α} {p c : Nat} {w : α} (h : HB lt ns p) (hc : Desc p c) (hp : p < c) : HB lt (ns.set p w) c := fun q d a b hq hn hd ea eb => by
  have := hq.le
  rw [List.getElem?_set_ne (by omega)] at ea
  rw [List.getElem?_set_ne (by rcases hd with rfl | rfl <;> omega)] at eb
  exact h q d a b (hc.trans hq) (by omega) hd ea eb

theorem up_back (htr : ∀ a b c, lt a b = false → lt a c = true → lt b c = true) (v : α) (s : Nat) : ∀ (k : Nat) (ns : List α) (p : Nat), ns.length - p ≤ k → s ≤ p → p < ns.length → HB lt ns p → 
    (2 * p + 1 < ns.length → lt (ns.getD (kid lt v ns p) v) v = true) →
    upF lt s v ((downF lt v ns p).1.set (downF lt v ns p).2 v) (downF lt v ns p).2 = upF lt s v (ns.set p v) p := by
  intro k
  induction k with
  | zero => intro ns p h hs hp; omega
  | succ k ih =>
    intro ns p h hs hp hb hl
    by_cases hc : 2 * p + 1 < ns.length
    · have g := kid_gt lt v ns p
      have l := kid_lt lt v ns p hc
      have hv := hl hc
      have kp := kid_par (lt := lt) v ns p
      have kd := kid_desc (lt := lt) v ns p
      rw [downF.eq_def lt v ns p, dif_pos hc]
      generalize hcc : kid lt v ns p = c at *
      have hnc : (ns.set p (ns.getD c v)).getD c v = ns.getD c v := by
        simp only [List.getD_eq_getElem?_getD]; rw [List.getElem?_set_ne (Nat.ne_of_lt g)]
      rw [ih (ns.set p (ns.getD c v)) c (by simp only [List.length_set]; omega) (Nat.le_trans hs (Nat.le_of_lt g)) (by simpa using l) (hb.sub kd g) ?_]
      · rw [upF, dif_pos (Nat.lt_of_le_of_lt hs g), kp]
        have e1 : ((ns.set p (ns.getD c v)).set c v).getD p v = ns.getD c v := by
          simp only [List.getD_eq_getElem?_getD]
          rw [List.getElem?_set_ne (Nat.ne_of_gt g), List.getElem?_set_self hp]; rfl
        rw [e1, if_pos hv, List.set_set]
        have e2 : (ns.set p (ns.getD c v)).set c (ns.getD c v) = ns.set p (ns.getD c v) := by
          apply List.ext_getElem? ; intro i
          by_cases hi : i = c
          · subst hi; rw [List.getElem?_set_self (by simpa using l), List.getElem?_set_ne (Nat.ne_of_lt g)]; exact (getD_some l).symm
          · rw [List.getElem?_set_ne (Ne.symm hi)]
        rw [e2, upF_set, upF_set]
      · intro hd
        have l2 := kid_lt lt v (ns.set p (ns.getD c v)) c hd
        have g2 := kid_gt lt v (ns.set p (ns.getD c v)) c
        have kk := kid_cases (lt := lt) v (ns.set p (ns.getD c v)) c
        generalize kid lt v (ns.set p (ns.getD c v)) c = d at *
        simp only [List.length_set] at l2
        have e3 : (ns.set p (ns.getD c v)).getD d v = ns.getD d v := by
          simp only [List.getD_eq_getElem?_getD]; rw [List.getElem?_set_ne (Nat.ne_of_lt (Nat.lt_trans g g2))]
        rw [e3]
        exact htr _ _ _ (hb c d _ _ kd (Nat.ne_of_gt g) kk (getD_some l) (getD_some l2)) hv
    · rw [downF.eq_def lt v ns p, dif_neg hc]

theorem sift_sink_aux (htr : ∀ a b c, lt a b = false → lt a c = true → lt b c = true) (v : α) (s : Nat) : ∀ (k : Nat) (ns : List α) (p : Nat), ns.length - p ≤ k → s ≤ p → p < ns.length → HB lt ns p → 
    (s < p → lt (ns.getD ((p - 1) / 2) v) v = false) →
    upF lt s v ((downF lt v ns p).1.set (downF lt v ns p).2 v) (downF lt v ns p).2 = sinkF lt v ns p := by
  intro k
  induction k with
  | zero => intro ns p h hs hp; omega
  | succ k ih =>
    intro ns p h hs hp hb hl
    have fin : upF lt s v (ns.set p v) p = ns.set p v := by
      rw [upF_set, upF]
      split
      · rename_i hh; rw [if_neg]; rw [hl hh]; simp
      · rfl
    by_cases hc : 2 * p + 1 < ns.length
    · have g := kid_gt lt v ns p
      have l := kid_lt lt v ns p hc
      have kp := kid_par (lt := lt) v ns p
      have kd := kid_desc (lt := lt) v ns p
      rw [sinkF, dif_pos hc]
      split
      · rename_i hv
        rw [up_back htr v s (k + 1) ns p h hs hp hb (fun _ => hv), fin]
      · rename_i hv
        rw [downF.eq_def lt v ns p, dif_pos hc]
        generalize hcc : kid lt v ns p = c at *
        refine ih (ns.set p (ns.getD c v)) c (by simp only [List.length_set]; omega) (by omega) (by simpa using l) (hb.sub kd (by omega)) (fun _ => ?_)
        rw [kp]
        simp only [List.getD_eq_getElem?_getD]
        rw [List.getElem?_set_self (by omega)]
        simpa using hv
    · rw [downF.eq_def lt v ns p, dif_neg hc, sinkF, dif_neg hc, fin]

theorem sift_sink (htr : ∀ a b c, lt a b = false → lt a c = true → lt b c = true) (v : α) (ns : List α) (p : Nat) (hp : p < ns.length) (hb : HB lt ns p) : siftF lt ns p v = sinkF lt v ns p :=
  sift_sink_aux htr v p _ ns p (Nat.le_refl _) (Nat.le_refl _) hp hb (fun h => absurd h (Nat.lt_irrefl _))
end

/-! L3 -/
/-! heaps -/
section
variable {α : Type} {lt : α → α → Bool}
structure SW (lt : α → α → Bool) : Prop where
  asym : ∀ a b, lt a b = true → lt b a = false
  neg : ∀ a b c, lt a c = true → lt a b = true ∨ lt b c = true
theorem SW.irr (h : SW lt) (a : α) : lt a a = false := by
  cases q : lt a a with
  | false => rfl
  | true => have := h.asym _ _ q; rw [q] at this; cases this
theorem SW.le (h : SW lt) {a b c : α} (x : lt a b = false) (y : lt b c = false) : lt a c = false := by
  cases q : lt a c with
  | false => rfl
  | true => rcases h.neg a b c q with e | e
            · rw [x] at e; cases e
            · rw [y] at e; cases e
theorem SW.htr (h : SW lt) : ∀ a b c, lt a b = false → lt a c = true → lt b c = true := fun a b c x y => by
  rcases h.neg a b c y with e | e
  · rw [x] at e; cases e
  · exact e
noncomputable def siftAt (lt : α → α → Bool) (m : List α) (i : Nat) : List α := match m[i]? with | some x => siftF lt m i x | none => m
noncomputable def heapifyF (lt : α → α → Bool) (ns : List α) : List α := ((List.range (ns.length / 2)).reverse).foldl (siftAt lt) ns
/-- from p on none is less than one below it -/
noncomputable def HF (lt : α → α → Bool) (ns : List α) (p : Nat) : Prop := ∀ q c a b, p ≤ q → (c = 2 * q + 1 ∨ c = 2 * q + 2) → ns[q]? = some a → ns[c]? = some b → lt a b = false
theorem HF.hb {ns : List α} {p : Nat} (h : HF lt ns (p + 1)) : HB lt ns p := fun q c a b d n e => h q c a b (by have := d.le; omega) e
theorem sinkF_length (v : α) : ∀ (k : Nat) (ns : List α) (p : Nat), ns.length - p ≤ k → (sinkF lt v ns p).length = ns.length := by
  intro k
  induction k with
  | zero => intro ns p h; rw [sinkF, dif_neg (by omega)]; simp
  | succ k ih =>
    intro ns p h
    rw [sinkF]
    split
    · split
      · simp
      · have := kid_gt lt v ns p
        rw [ih _ _ (by simp only [List.length_set]; omega)]; simp
    · simp
theorem set_swap_perm {ns : List α} {p k : Nat} (v x : α) (hp : p < ns.length) (hk : k < ns.length) (hne : p ≠ k) (hx : ns[k]? = some x) : ((ns.set p x).set k v).Perm (ns.set p v) := by
  classical
  rw [List.perm_iff_count]
  intro b
  have hxk : ns[k] = x := by rw [List.getElem?_eq_getElem hk] at hx; exact Option.some.inj hx
  have c1 : 0 < List.count ns[k] ns := List.count_pos_iff.mpr (List.getElem_mem hk)
  have c2 : 0 < List.count ns[p] ns := List.count_pos_iff.mpr (List.getElem_mem hp)
  rw [List.count_set (by simpa using hk), List.count_set hp, List.count_set hp]
  rw [List.getElem_set_ne hne]
  rw [hxk]
  have : (if (x == b) = true then 1 else 0) ≤ (List.count b ns - if (ns[p] == b) = true then 1 else 0) + (if (x == b) = true then 1 else 0) := by omega
  omega
theorem sinkF_perm (v : α) : ∀ (k : Nat) (ns : List α) (p : Nat), ns.length - p ≤ k → p < ns.length → (sinkF lt v ns p).Perm (ns.set p v) := by
  intro k
  induction k with
  | zero => intro ns p h hp; omega
  | succ k ih =>
    intro ns p h hp
    rw [sinkF]
    split
    · rename_i hc
      split
      · exact .refl _
      · have g := kid_gt lt v ns p
        have l := kid_lt lt v ns p hc
        exact (ih _ _ (by simp only [List.length_set]; omega) (by simpa using l)).trans (set_swap_perm v _ hp l (by omega) (getD_some l))
    · exact .refl _
theorem kid_ne {q c : Nat} (h : c = 2 * q + 1 ∨ c = 2 * q + 2) : c ≠ q := by omega
theorem kid_over {q c : Nat} (h : c = 2 * q + 1 ∨ c = 2 * q + 2) : q < c := by omega
theorem kid_up {q c : Nat} (h : c = 2 * q + 1 ∨ c = 2 * q + 2) : (c - 1) / 2 = q := by omega
theorem sinkF_hf (S : SW lt) (v : α) (p0 : Nat) : ∀ (k : Nat) (ns : List α) (p : Nat), ns.length - p ≤ k → p < ns.length → p0 ≤ p →
    (∀ q c a b, p0 ≤ q → q ≠ p → c ≠ p → (c = 2 * q + 1 ∨ c = 2 * q + 2) → ns[q]? = some a → ns[c]? = some b → lt a b = false) →
    (∀ a, p0 < p → ns[(p - 1) / 2]? = some a → lt a v = false ∧ ∀ c b, (c = 2 * p + 1 ∨ c = 2 * p + 2) → ns[c]? = some b → lt a b = false) → p0 ≤ (p - 1) / 2 ∨ p = p0 →
    HF lt (sinkF lt v ns p) p0 := by
  intro k
  induction k with
  | zero => intro ns p h hp; omega
  | succ k ih =>
    intro ns p h hp h0 ha hb hpp
    have fin : (∀ c b, (c = 2 * p + 1 ∨ c = 2 * p + 2) → ns[c]? = some b → lt v b = false) → HF lt (ns.set p v) p0 := by
      intro hv q c a b hq hc ea eb
      by_cases e1 : q = p
      · subst e1
        rw [List.getElem?_set_self hp] at ea
        rw [List.getElem?_set_ne (kid_ne hc).symm] at eb
        cases ea
        exact hv c b hc eb
      · rw [List.getElem?_set_ne (Ne.symm e1)] at ea
        by_cases e2 : c = p
        · subst e2
          rw [List.getElem?_set_self hp] at eb
          cases eb
          exact (hb a (Nat.lt_of_le_of_lt hq (kid_over hc)) (by rw [kid_up hc]; exact ea)).1
        · rw [List.getElem?_set_ne (Ne.symm e2)] at eb
          exact ha q c a b hq e1 e2 hc ea eb
    rw [sinkF]
    split
    · rename_i hc
      have g := kid_gt lt v ns p
      have l := kid_lt lt v ns p hc
      have kp := kid_par (lt := lt) v ns p
      have kc := kid_cases (lt := lt) v ns p
      -- the kid is the greatest below
      have kmax : ∀ c b, (c = 2 * p + 1 ∨ c = 2 * p + 2) → ns[c]? = some b → lt (ns.getD (kid lt v ns p) v) b = false := by
        intro c b hcc eb
        have hcl := lt_len eb
        have eb' : ns.getD c v = b := by rw [List.getD_eq_getElem?_getD, eb]; rfl
        subst eb'
        unfold kid
        by_cases hr : 2 * p + 2 < ns.length ∧ lt (ns.getD (2 * p + 2) v) (ns.getD (2 * p + 1) v) = false
        · rw [if_pos hr]
          rcases hcc with rfl | rfl
          · exact hr.2
          · exact S.irr _
        · rw [if_neg hr]
          rcases hcc with rfl | rfl
          · exact S.irr _
          · have : lt (ns.getD (2 * p + 2) v) (ns.getD (2 * p + 1) v) = true := by
              cases q : lt (ns.getD (2 * p + 2) v) (ns.getD (2 * p + 1) v) with
              | true => rfl
              | false => exact absurd ⟨hcl, q⟩ hr
            exact S.asym _ _ this
      split
      · rename_i hv
        refine fin fun c b hcc eb => ?_
        exact S.le (S.asym _ _ hv) (kmax c b hcc eb)
      · rename_i hv
        have hv : lt (ns.getD (kid lt v ns p) v) v = false := by simpa using hv
        generalize kid lt v ns p = kk at *
        refine ih (ns.set p (ns.getD kk v)) kk (by simp only [List.length_set]; omega) (by simpa using l) (Nat.le_trans h0 (Nat.le_of_lt g)) ?_ ?_ (.inl (by rw [kp]; exact h0))
        · intro q c a b hq h1 h2 hcc ea eb
          by_cases e1 : q = p
          · subst e1
            rw [List.getElem?_set_self hp] at ea
            cases ea
            rw [List.getElem?_set_ne (kid_ne hcc).symm] at eb
            exact kmax c b hcc eb
          · rw [List.getElem?_set_ne (Ne.symm e1)] at ea
            by_cases e2 : c = p
            · subst e2
              rw [List.getElem?_set_self hp] at eb
              cases eb
              exact (hb a (Nat.lt_of_le_of_lt hq (kid_over hcc)) (by rw [kid_up hcc]; exact ea)).2 kk _ kc (getD_some l)
            · rw [List.getElem?_set_ne (Ne.symm e2)] at eb
              exact ha q c a b hq e1 e2 hcc ea eb
        · intro a _ ea
          rw [kp, List.getElem?_set_self hp] at ea
          cases ea
          refine ⟨hv, fun c b hcc eb => ?_⟩
          have pc := Nat.lt_trans g (kid_over hcc)
          rw [List.getElem?_set_ne (Nat.ne_of_lt pc)] at eb
          exact ha kk c _ b (Nat.le_trans h0 (Nat.le_of_lt g)) (Nat.ne_of_gt g) (Nat.ne_of_gt pc) hcc (getD_some l) eb
    · rename_i hc
      refine fin fun c b hcc eb => ?_
      have := lt_len eb
      omega
where
  lt_len {ns : List α} {c : Nat} {b : α} (e : ns[c]? = some b) : c < ns.length := (List.getElem?_eq_some_iff.mp e).1
theorem sift_hf (S : SW lt) {ns : List α} {p : Nat} {v : α} (hp : p < ns.length) (h : HF lt ns (p + 1)) : HF lt (siftF lt ns p v) p := by
  rw [sift_sink S.htr v ns p hp h.hb]
  exact sinkF_hf S v p _ ns p (Nat.le_refl _) hp (Nat.le_refl _) (fun q c a b hq h1 h2 hc ea eb => h q c a b (by omega) hc ea eb) (fun a hh => by omega) (.inr rfl)
theorem sift_perm (S : SW lt) {ns : List α} {p : Nat} {v : α} (hp : p < ns.length) (h : HF lt ns (p + 1)) : (siftF lt ns p v).Perm (ns.set p v) := by
  rw [sift_sink S.htr v ns p hp h.hb]; exact sinkF_perm v _ ns p (Nat.le_refl _) hp
theorem siftF_length (ns : List α) (p : Nat) (x : α) : (siftF lt ns p x).length = ns.length := by
  unfold siftF; rw [upF_length, List.length_set]; exact (downF_length lt x _ ns p (Nat.le_refl _)).1
theorem heapify_ok (S : SW lt) (ns : List α) : HF lt (heapifyF lt ns) 0 ∧ (heapifyF lt ns).Perm ns := by
  have key : ∀ (k : Nat) (m : List α), k ≤ ns.length / 2 → m.length = ns.length → HF lt m k → HF lt (((List.range k).reverse).foldl (siftAt lt) m) 0 ∧ (((List.range k).reverse).foldl (siftAt lt) m).Perm m := by
    intro k
    induction k with
    | zero => intro m _ _ h; exact ⟨h, .refl _⟩
    | succ k ih =>
      intro m hk hm h
      rw [List.range_succ, List.reverse_append]
      simp only [List.reverse_cons, List.reverse_nil, List.nil_append, List.cons_append, List.foldl_cons]
      have hkm : k < m.length := by omega
      have e : siftAt lt m k = siftF lt m k m[k] := by unfold siftAt; rw [List.getElem?_eq_getElem hkm]
      have pe := sift_perm S (v := m[k]) hkm h
      have se : m.set k m[k] = m := List.set_getElem_self hkm
      rw [se] at pe
      rw [e]
      obtain ⟨a, b⟩ := ih (siftF lt m k m[k]) (by omega) (by rw [siftF_length]; exact hm) (sift_hf S hkm h)
      exact ⟨a, b.trans pe⟩
  refine key _ ns (Nat.le_refl _) rfl fun q c a b hq hc ea eb => ?_
  have := (List.getElem?_eq_some_iff.mp eb).1
  omega
theorem HF.top (S : SW lt) {ns : List α} (h : HF lt ns 0) {t : α} (ht : ns[0]? = some t) : ∀ (i : Nat) x, ns[i]? = some x → lt t x = false := by
  intro i
  induction i using Nat.strongRecOn with
  | ind i ih =>
    intro x hx
    rcases Nat.eq_zero_or_pos i with e | e
    · subst e; rw [ht] at hx; cases hx; exact S.irr _
    · have hl := (List.getElem?_eq_some_iff.mp hx).1
      have hl' : (i - 1) / 2 < ns.length := by omega
      have := ih ((i - 1) / 2) (by omega) _ (List.getElem?_eq_getElem hl')
      exact S.le this (h ((i - 1) / 2) i _ x (by omega) (by omega) (List.getElem?_eq_getElem hl') hx)
theorem HF.top_mem (S : SW lt) {ns : List α} (h : HF lt ns 0) {t : α} (ht : ns[0]? = some t) : ∀ x ∈ ns, lt t x = false := fun x m => by
  obtain ⟨i, hi⟩ := List.getElem?_of_mem m
  exact h.top S ht i x hi
theorem HF.set0 {ns : List α} (h : HF lt ns 0) (v : α) : HF lt (ns.set 0 v) 1 := fun q c a b hq hc ea eb => by
  rw [List.getElem?_set_ne (by omega)] at ea
  rw [List.getElem?_set_ne (by omega)] at eb
  exact h q c a b (by omega) hc ea eb
/-- the top gives way -/
theorem replace_ok (S : SW lt) {ns : List α} (h : HF lt ns 0) (v : α) (hn : 0 < ns.length) : HF lt (siftF lt (ns.set 0 v) 0 v) 0 ∧ (siftF lt (ns.set 0 v) 0 v).Perm (ns.set 0 v) := by
  have hl : 0 < (ns.set 0 v).length := by simpa using hn
  refine ⟨sift_hf S hl (h.set0 v), ?_⟩
  have := sift_perm S (v := v) hl (h.set0 v)
  rwa [List.set_set] at this
end

/-! R1 -/
theorem r_next (Q : V → Hp → Prop) (F : Frm) (σ : Hp) : retV Q .next F σ = Q .none σ := rfl
theorem r_ret (Q : V → Hp → Prop) (F : Frm) (σ : Hp) (v : V) : retV Q (.ret v) F σ = Q v σ := rfl
theorem big_of {n : Nat} (h : n ≤ 1000) : n ≤ BIG := by unfold BIG; omega
theorem rok_of {b : Int} {a : Int} (h0 : 0 ≤ b) (h : b ≤ 1000) (h1 : 0 ≤ a) (h2 : a ≤ 1000) : rok a b 1 := ⟨.inl rfl, by omega, by omega⟩
/-! rules for loops -/
noncomputable def Ext (σ σ' : Hp) : Prop := ∀ a o, σ a = some o → σ' a = some o
theorem Ext.rfl {σ : Hp} : Ext σ σ := fun _ _ h => h
theorem Ext.trans {a b c : Hp} (h : Ext a b) (g : Ext b c) : Ext a c := fun x o e => g x o (h x o e)
theorem Ext.upd {σ : Hp} {a : Addr} (o : AObj) (h : σ a = none) : Ext σ (upd σ a o) := fun b p e => by
  unfold Mine.upd; split
  · rename_i q; subst q; rw [h] at e; cases e
  · exact e
theorem Ext.listAt {σ σ' : Hp} (h : Ext σ σ') {a : Addr} {xs : List V} (e : listAt σ a = some xs) : listAt σ' a = some xs := by
  unfold Mine.listAt at *
  split at e
  · rename_i q; rw [h _ _ q]; exact e
  · rename_i q; rw [h _ _ q]; exact e
  · cases e
theorem Ext.fresh {σ σ' : Hp} (h : Ext σ σ') {a : Addr} (e : σ' a = none) : σ a = none := by
  cases q : σ a with
  | none => rfl
  | some o => rw [h _ _ q] at e; cases e
/-- what an iterator gives, while the heap is in H -/
noncomputable def Yields (H : Hp → Prop) : It → List V → Prop
  | I, [] => ∀ σ, H σ → itNext I σ = some none
  | I, x :: xs => ∃ I', (∀ σ, H σ → itNext I σ = some (some (x, I'))) ∧ Yields H I' xs
theorem yields_rng (H : Hp → Prop) (c : Int) : ∀ (n : Nat) (x : Int), Yields H (.rng x n c) ((List.range n).map fun (i : Nat) => V.int (x + (i : Int) * c))
  | 0, x => fun _ _ => rfl
  | n + 1, x => by
    have := yields_rng H c n (x + c)
    rw [List.range_succ_eq_map, List.map_cons, List.map_map]
    have e : (fun (i : Nat) => V.int (x + (i : Int) * c)) ∘ Nat.succ = fun (i : Nat) => V.int (x + c + (i : Int) * c) := by
      funext i; simp only [Function.comp]; congr 1
      have : ((i.succ : Nat) : Int) = i + 1 := rfl
      rw [this, Int.add_mul]; omega
    rw [e]
    refine ⟨_, fun _ _ => ?_, this⟩
    simp [itNext]
theorem yields_lst {H : Hp → Prop} {a : Addr} {xs : List V} (h : ∀ σ, H σ → listAt σ a = some xs) : ∀ (k i : Nat), xs.length - i = k → Yields H (.lst a i) (xs.drop i) := by
  intro k
  induction k with
  | zero =>
    intro i hk
    rw [List.drop_eq_nil_of_le (by omega)]
    intro σ hs
    simp only [itNext, h σ hs]; rw [List.getElem?_eq_none (by omega)]
  | succ k ih =>
    intro i hk
    have hi : i < xs.length := by omega
    rw [List.drop_eq_getElem_cons hi]
    refine ⟨.lst a (i + 1), fun σ hs => ?_, ih (i + 1) (by omega)⟩
    simp only [itNext, h σ hs]; rw [List.getElem?_eq_getElem hi]
/-- a comprehension whose steps only add to the heap -/
theorem comp_rule {Φ : Fns} {ifs : List PE} {elt : PE} {t : Tgt} {F0 : Frm} {Q : V → Hp → Prop} {σ : Hp} {I : It} {xs : List V} (g : V → Option V) (hb : xs.length ≤ BIG) (hy : Yields (Ext σ) I xs)
    (step : ∀ x ∈ xs, ∀ σ', Ext σ σ' → ∀ (K : V → Hp → Prop) (N : Hp → Prop), (∀ y σ'', g x = some y → Ext σ' σ'' → K y σ'') → (g x = none → ∀ σ'', Ext σ' σ'' → N σ'') → bindT t x (fun F1 => vTs Φ ifs (fun b σ => if b then vE Φ elt K F1 σ else N σ) F1 σ') F0 σ')
    (q : ∀ σ', Ext σ σ' → ∀ a, σ' a = none → Q (.ref a) (upd σ' a (.list (xs.filterMap g)))) :
    CompG Φ ifs elt t F0 Q I σ := by
  refine ⟨fun n I acc τ => ∃ rest pre, rest.length = n ∧ xs = pre ++ rest ∧ Yields (Ext σ) I rest ∧ acc = pre.filterMap g ∧ Ext σ τ, ⟨_, xs, [], rfl, rfl, hy, rfl, .rfl⟩, ?_⟩
  rintro n I acc τ ⟨rest, pre, rfl, hx, hy, rfl, he⟩
  have la : (pre.filterMap g).length ≤ pre.length := List.length_filterMap_le ..
  cases rest with
  | nil =>
    rw [hy τ he]
    simp only [List.append_nil] at hx; subst hx
    exact ⟨Nat.le_trans la hb, q τ he⟩
  | cons x rest =>
    obtain ⟨I', e, hy'⟩ := hy
    rw [e τ he]
    have lx : pre.length + (rest.length + 1) ≤ BIG := by rw [hx] at hb; simpa using hb
    refine step x (by rw [hx]; simp) τ he _ _ (fun y τ' hg h => ⟨by omega, rest.length, by simp, rest, pre ++ [x], rfl, by rw [hx]; simp, hy', by simp [List.filterMap_append, hg], he.trans h⟩) (fun hg τ' h => ⟨rest.length, by simp, rest, pre ++ [x], rfl, by rw [hx]; simp, hy', by simp [List.filterMap_append, hg], he.trans h⟩)
/-- a loop over what is there -/
theorem for_rule {Φ : Fns} {b : List PS} {t : Tgt} {F : Frm} {Q : Fl → Frm → Hp → Prop} {σ : Hp} {I : It} {xs : List V} (J : Nat → Frm → Hp → Prop) (hy : Yields (fun τ => ∃ i F, J i F τ) I xs) (h0 : J 0 F σ)
    (step : ∀ i x F σ, xs[i]? = some x → J i F σ → ∀ K : Fl → Frm → Hp → Prop, (∀ F σ, J (i + 1) F σ → K .next F σ) → (∀ F σ, J (i + 1) F σ → K .cont F σ) → (∀ F σ, Q .next F σ → K .brk F σ) → (∀ v F σ, Q (.ret v) F σ → K (.ret v) F σ) → bindT t x (fun F1 => vSs Φ b K F1 σ) F σ)
    (fin : ∀ F σ, J xs.length F σ → Q .next F σ) :
    ForG Φ b t Q I F σ := by
  refine ⟨fun n I F τ => ∃ i, i + n = xs.length ∧ Yields (fun τ => ∃ i F, J i F τ) I (xs.drop i) ∧ J i F τ, ⟨xs.length, 0, by omega, by simpa using hy, h0⟩, ?_⟩
  rintro n I F τ ⟨i, hn, hy, hj⟩
  cases n with
  | zero =>
    rw [List.drop_eq_nil_of_le (by omega)] at hy
    rw [hy τ ⟨i, F, hj⟩]
    have : i = xs.length := by omega
    subst this; exact fin F τ hj
  | succ n =>
    have hi : i < xs.length := by omega
    rw [List.drop_eq_getElem_cons hi] at hy
    obtain ⟨I', e, hy'⟩ := hy
    rw [e τ ⟨i, F, hj⟩]
    exact step i _ F τ (List.getElem?_eq_getElem hi) hj _ (fun F' τ' h => ⟨n, by omega, i + 1, by omega, hy', h⟩) (fun F' τ' h => ⟨n, by omega, i + 1, by omega, hy', h⟩) (fun F' τ' h => h) (fun v F' τ' h => h)

/-! S1 -/
theorem while_rule {Φ : Fns} {c : PE} {b : List PS} {Q : Fl → Frm → Hp → Prop} {F : Frm} {σ : Hp} (Inv : Nat → Frm → Hp → Prop) (n : Nat) (h0 : Inv n F σ)
    (step : ∀ n F σ, Inv n F σ → ∀ K : Fl → Frm → Hp → Prop, (∀ m F σ, m < n → Inv m F σ → K .next F σ) → (∀ m F σ, m < n → Inv m F σ → K .cont F σ) → (∀ F σ, Q .next F σ → K .brk F σ) → (∀ v F σ, Q (.ret v) F σ → K (.ret v) F σ) →
      vT Φ c (fun t σ => if t then vSs Φ b K F σ else Q .next F σ) F σ) : WhileG Φ c b Q F σ :=
  ⟨Inv, ⟨n, h0⟩, fun n F σ h => step n F σ h _ (fun m F σ hm hi => ⟨m, hm, hi⟩) (fun m F σ hm hi => ⟨m, hm, hi⟩) (fun _ _ h => h) (fun _ _ _ h => h)⟩
theorem mul_l {x y : Int} (h : PySem.Builtin.Int.intBits x ≤ 64 := by decide) : IntMulOk x y := IntMulOk.of_left h
theorem lt_of_some {α : Type} {ns : List α} {p : Nat} {x : α} (hx : ns[p]? = some x) : p < ns.length := by
  rcases Nat.lt_or_ge p ns.length with h | h
  · exact h
  · rw [List.getElem?_eq_none h] at hx; cases hx
theorem map_at {α : Type} {f : α → V} {ns : List α} {k : Nat} (x : α) (h : k < ns.length) : (ns.map f)[k]? = some (f (ns.getD k x)) := by
  simp [List.getElem?_eq_getElem h]
theorem siftdown_v (Φ : Fns) (args : List V) (Q : V → Hp → Prop) (σ : Hp) (F : Frm) (h : siftdownC args Q σ) (hF : F = args.map some ++ [none, none, none]) : vSs Φ ps_siftdown (retV Q) F σ := by
  obtain ⟨α, f, lt, P, a, ns, s, p, x, rfl, hσ, hx, hP, hlt, q⟩ := h
  subst hF
  have hp : p < ns.length := lt_of_some hx
  have hx' : P x := hP _ (List.mem_of_getElem? hx)
  unfold ps_siftdown
  ((with_reducible refine go_cons ?_); ((try simp only [e_int, e_bool, e_none, e_str, e_var, e_bin, e_neg, n_int, e_not, e_cmp, e_and, e_or, e_ite, e_sub, e_slice, e_list, e_tuple, e_call, e_ucall, e_meth, e_comp, e_gfn, e_vcall, e_sortk, e_mink, e_ucalld, e_ucallk, s_forx, s_tryLen, s_zipc, t_not, t_and, t_or, t_cmp, t_var, t_sub, t_call, t_ucall, s_expr, s_assign, s_setitem, s_aug, s_augi, s_ifs, s_while, s_for, s_ret, s_brk, s_cont, ss_nil, c_range1, c_range2, c_range3, i_rng, i_ref, i_tup, i_enm, i_rev, bt_name, bt_tup, look_zero, look_succ, r_next, r_ret, sa_nil, sa_cons, es_nil, es_cons, o_none, o_some, ts_nil, ts_cons, c_lt, c_le, c_gt, c_ge, c_eq, c_ne, b_add, b_sub, b_mul, b_div, b_mod, b_pow, b_shr, a_add, a_mul, t_bool, t_int, List.map, List.cons_append, List.nil_append, List.getElem?_cons_succ, List.getElem?_cons_zero, List.set_cons_succ, List.set_cons_zero, frOf]); (repeat (first | with_reducible refine q_nextI ?_ | with_reducible refine q_retI ?_ | with_reducible refine q_contI ?_ | with_reducible refine q_brkI ?_ | with_reducible refine ss_nilI ?_ | rw [q_next] | rw [q_ret] | rw [q_cont] | rw [q_brk] | rw [ss_nil])); (try simp only [r_next, r_ret])))
  refine opSub_list hσ (x := f x) (by rw [List.getElem?_map, hx]; rfl) ?_
  ((try simp only [e_int, e_bool, e_none, e_str, e_var, e_bin, e_neg, n_int, e_not, e_cmp, e_and, e_or, e_ite, e_sub, e_slice, e_list, e_tuple, e_call, e_ucall, e_meth, e_comp, e_gfn, e_vcall, e_sortk, e_mink, e_ucalld, e_ucallk, s_forx, s_tryLen, s_zipc, t_not, t_and, t_or, t_cmp, t_var, t_sub, t_call, t_ucall, s_expr, s_assign, s_setitem, s_aug, s_augi, s_ifs, s_while, s_for, s_ret, s_brk, s_cont, ss_nil, c_range1, c_range2, c_range3, i_rng, i_ref, i_tup, i_enm, i_rev, bt_name, bt_tup, look_zero, look_succ, r_next, r_ret, sa_nil, sa_cons, es_nil, es_cons, o_none, o_some, ts_nil, ts_cons, c_lt, c_le, c_gt, c_ge, c_eq, c_ne, b_add, b_sub, b_mul, b_div, b_mod, b_pow, b_shr, a_add, a_mul, t_bool, t_int, List.map, List.cons_append, List.nil_append, List.getElem?_cons_succ, List.getElem?_cons_zero, List.set_cons_succ, List.set_cons_zero, frOf]); (repeat (first | with_reducible refine q_nextI ?_ | with_reducible refine q_retI ?_ | with_reducible refine q_contI ?_ | with_reducible refine q_brkI ?_ | with_reducible refine ss_nilI ?_ | rw [q_next] | rw [q_ret] | rw [q_cont] | rw [q_brk] | rw [ss_nil])); (try simp only [r_next, r_ret]))
  ((with_reducible refine go_cons ?_); ((try simp only [e_int, e_bool, e_none, e_str, e_var, e_bin, e_neg, n_int, e_not, e_cmp, e_and, e_or, e_ite, e_sub, e_slice, e_list, e_tuple, e_call, e_ucall, e_meth, e_comp, e_gfn, e_vcall, e_sortk, e_mink, e_ucalld, e_ucallk, s_forx, s_tryLen, s_zipc, t_not, t_and, t_or, t_cmp, t_var, t_sub, t_call, t_ucall, s_expr, s_assign, s_setitem, s_aug, s_augi, s_ifs, s_while, s_for, s_ret, s_brk, s_cont, ss_nil, c_range1, c_range2, c_range3, i_rng, i_ref, i_tup, i_enm, i_rev, bt_name, bt_tup, look_zero, look_succ, r_next, r_ret, sa_nil, sa_cons, es_nil, es_cons, o_none, o_some, ts_nil, ts_cons, c_lt, c_le, c_gt, c_ge, c_eq, c_ne, b_add, b_sub, b_mul, b_div, b_mod, b_pow, b_shr, a_add, a_mul, t_bool, t_int, List.map, List.cons_append, List.nil_append, List.getElem?_cons_succ, List.getElem?_cons_zero, List.set_cons_succ, List.set_cons_zero, frOf]); (repeat (first | with_reducible refine q_nextI ?_ | with_reducible refine q_retI ?_ | with_reducible refine q_contI ?_ | with_reducible refine q_brkI ?_ | with_reducible refine ss_nilI ?_ | rw [q_next] | rw [q_ret] | rw [q_cont] | rw [q_brk] | rw [ss_nil])); (try simp only [r_next, r_ret])))
  refine while_rule (fun n F τ => ∃ ns' e4 e5, F = [some (.ref a), some (.int s), some (.int (n : Nat)), some (f x), e4, e5] ∧ τ = upd σ a (.list (ns'.map f)) ∧ ns'.length = ns.length ∧ n < ns.length ∧ (∀ y ∈ ns', P y) ∧ upF lt s x ns' n = upF lt s x ns p) p ⟨ns, none, none, rfl, (upd_id hσ).symm, rfl, hp, hP, rfl⟩ ?_
  rintro p' F τ ⟨ns', e4, e5, rfl, rfl, hl, hp', hP', eq⟩ K k1 k2 k3 k4
  ((try simp only [e_int, e_bool, e_none, e_str, e_var, e_bin, e_neg, n_int, e_not, e_cmp, e_and, e_or, e_ite, e_sub, e_slice, e_list, e_tuple, e_call, e_ucall, e_meth, e_comp, e_gfn, e_vcall, e_sortk, e_mink, e_ucalld, e_ucallk, s_forx, s_tryLen, s_zipc, t_not, t_and, t_or, t_cmp, t_var, t_sub, t_call, t_ucall, s_expr, s_assign, s_setitem, s_aug, s_augi, s_ifs, s_while, s_for, s_ret, s_brk, s_cont, ss_nil, c_range1, c_range2, c_range3, i_rng, i_ref, i_tup, i_enm, i_rev, bt_name, bt_tup, look_zero, look_succ, r_next, r_ret, sa_nil, sa_cons, es_nil, es_cons, o_none, o_some, ts_nil, ts_cons, c_lt, c_le, c_gt, c_ge, c_eq, c_ne, b_add, b_sub, b_mul, b_div, b_mod, b_pow, b_shr, a_add, a_mul, t_bool, t_int, List.map, List.cons_append, List.nil_append, List.getElem?_cons_succ, List.getElem?_cons_zero, List.set_cons_succ, List.set_cons_zero, frOf]); (repeat (first | with_reducible refine q_nextI ?_ | with_reducible refine q_retI ?_ | with_reducible refine q_contI ?_ | with_reducible refine q_brkI ?_ | with_reducible refine ss_nilI ?_ | rw [q_next] | rw [q_ret] | rw [q_cont] | rw [q_brk] | rw [ss_nil])); (try simp only [r_next, r_ret]))
  have fin : upF lt s x ns' p' = ns'.set p' x → vSs Φ [.setitem (.var 0) (.var 2) (.var 3)] (retV Q) [some (.ref a), some (.int s), some (.int (p' : Nat)), some (f x), e4, e5] (upd σ a (.list (ns'.map f))) := fun e => by
    ((with_reducible refine go_cons ?_); ((try simp only [e_int, e_bool, e_none, e_str, e_var, e_bin, e_neg, n_int, e_not, e_cmp, e_and, e_or, e_ite, e_sub, e_slice, e_list, e_tuple, e_call, e_ucall, e_meth, e_comp, e_gfn, e_vcall, e_sortk, e_mink, e_ucalld, e_ucallk, s_forx, s_tryLen, s_zipc, t_not, t_and, t_or, t_cmp, t_var, t_sub, t_call, t_ucall, s_expr, s_assign, s_setitem, s_aug, s_augi, s_ifs, s_while, s_for, s_ret, s_brk, s_cont, ss_nil, c_range1, c_range2, c_range3, i_rng, i_ref, i_tup, i_enm, i_rev, bt_name, bt_tup, look_zero, look_succ, r_next, r_ret, sa_nil, sa_cons, es_nil, es_cons, o_none, o_some, ts_nil, ts_cons, c_lt, c_le, c_gt, c_ge, c_eq, c_ne, b_add, b_sub, b_mul, b_div, b_mod, b_pow, b_shr, a_add, a_mul, t_bool, t_int, List.map, List.cons_append, List.nil_append, List.getElem?_cons_succ, List.getElem?_cons_zero, List.set_cons_succ, List.set_cons_zero, frOf]); (repeat (first | with_reducible refine q_nextI ?_ | with_reducible refine q_retI ?_ | with_reducible refine q_contI ?_ | with_reducible refine q_brkI ?_ | with_reducible refine ss_nilI ?_ | rw [q_next] | rw [q_ret] | rw [q_cont] | rw [q_brk] | rw [ss_nil])); (try simp only [r_next, r_ret])))
    refine opSet_list (upd_same _ _ _) (by rw [List.length_map]; omega) ?_
    rw [upd_upd]
    ((try simp only [e_int, e_bool, e_none, e_str, e_var, e_bin, e_neg, n_int, e_not, e_cmp, e_and, e_or, e_ite, e_sub, e_slice, e_list, e_tuple, e_call, e_ucall, e_meth, e_comp, e_gfn, e_vcall, e_sortk, e_mink, e_ucalld, e_ucallk, s_forx, s_tryLen, s_zipc, t_not, t_and, t_or, t_cmp, t_var, t_sub, t_call, t_ucall, s_expr, s_assign, s_setitem, s_aug, s_augi, s_ifs, s_while, s_for, s_ret, s_brk, s_cont, ss_nil, c_range1, c_range2, c_range3, i_rng, i_ref, i_tup, i_enm, i_rev, bt_name, bt_tup, look_zero, look_succ, r_next, r_ret, sa_nil, sa_cons, es_nil, es_cons, o_none, o_some, ts_nil, ts_cons, c_lt, c_le, c_gt, c_ge, c_eq, c_ne, b_add, b_sub, b_mul, b_div, b_mod, b_pow, b_shr, a_add, a_mul, t_bool, t_int, List.map, List.cons_append, List.nil_append, List.getElem?_cons_succ, List.getElem?_cons_zero, List.set_cons_succ, List.set_cons_zero, frOf]); (repeat (first | with_reducible refine q_nextI ?_ | with_reducible refine q_retI ?_ | with_reducible refine q_contI ?_ | with_reducible refine q_brkI ?_ | with_reducible refine ss_nilI ?_ | rw [q_next] | rw [q_ret] | rw [q_cont] | rw [q_brk] | rw [ss_nil])); (try simp only [r_next, r_ret]))
    rw [← eq, e] at q
    rw [← List.map_set]; exact q
  by_cases hgt : s < p'
  · rw [decide_eq_true (by omega), if_pos rfl]
    ((with_reducible refine go_cons ?_); ((try simp only [e_int, e_bool, e_none, e_str, e_var, e_bin, e_neg, n_int, e_not, e_cmp, e_and, e_or, e_ite, e_sub, e_slice, e_list, e_tuple, e_call, e_ucall, e_meth, e_comp, e_gfn, e_vcall, e_sortk, e_mink, e_ucalld, e_ucallk, s_forx, s_tryLen, s_zipc, t_not, t_and, t_or, t_cmp, t_var, t_sub, t_call, t_ucall, s_expr, s_assign, s_setitem, s_aug, s_augi, s_ifs, s_while, s_for, s_ret, s_brk, s_cont, ss_nil, c_range1, c_range2, c_range3, i_rng, i_ref, i_tup, i_enm, i_rev, bt_name, bt_tup, look_zero, look_succ, r_next, r_ret, sa_nil, sa_cons, es_nil, es_cons, o_none, o_some, ts_nil, ts_cons, c_lt, c_le, c_gt, c_ge, c_eq, c_ne, b_add, b_sub, b_mul, b_div, b_mod, b_pow, b_shr, a_add, a_mul, t_bool, t_int, List.map, List.cons_append, List.nil_append, List.getElem?_cons_succ, List.getElem?_cons_zero, List.set_cons_succ, List.set_cons_zero, frOf]); (repeat (first | with_reducible refine q_nextI ?_ | with_reducible refine q_retI ?_ | with_reducible refine q_contI ?_ | with_reducible refine q_brkI ?_ | with_reducible refine ss_nilI ?_ | rw [q_next] | rw [q_ret] | rw [q_cont] | rw [q_brk] | rw [ss_nil])); (try simp only [r_next, r_ret])))
    refine ⟨by omega, trivial, ?_⟩
    have e1 : ((p' : Int) - 1) / 2 = ((p' - 1) / 2 : Nat) := by omega
    rw [e1]
    have hq : (p' - 1) / 2 < ns'.length := by omega
    ((with_reducible refine go_cons ?_); ((try simp only [e_int, e_bool, e_none, e_str, e_var, e_bin, e_neg, n_int, e_not, e_cmp, e_and, e_or, e_ite, e_sub, e_slice, e_list, e_tuple, e_call, e_ucall, e_meth, e_comp, e_gfn, e_vcall, e_sortk, e_mink, e_ucalld, e_ucallk, s_forx, s_tryLen, s_zipc, t_not, t_and, t_or, t_cmp, t_var, t_sub, t_call, t_ucall, s_expr, s_assign, s_setitem, s_aug, s_augi, s_ifs, s_while, s_for, s_ret, s_brk, s_cont, ss_nil, c_range1, c_range2, c_range3, i_rng, i_ref, i_tup, i_enm, i_rev, bt_name, bt_tup, look_zero, look_succ, r_next, r_ret, sa_nil, sa_cons, es_nil, es_cons, o_none, o_some, ts_nil, ts_cons, c_lt, c_le, c_gt, c_ge, c_eq, c_ne, b_add, b_sub, b_mul, b_div, b_mod, b_pow, b_shr, a_add, a_mul, t_bool, t_int, List.map, List.cons_append, List.nil_append, List.getElem?_cons_succ, List.getElem?_cons_zero, List.set_cons_succ, List.set_cons_zero, frOf]); (repeat (first | with_reducible refine q_nextI ?_ | with_reducible refine q_retI ?_ | with_reducible refine q_contI ?_ | with_reducible refine q_brkI ?_ | with_reducible refine ss_nilI ?_ | rw [q_next] | rw [q_ret] | rw [q_cont] | rw [q_brk] | rw [ss_nil])); (try simp only [r_next, r_ret])))
    refine opSub_list (upd_same _ _ _) (map_at x hq) ?_
    ((try simp only [e_int, e_bool, e_none, e_str, e_var, e_bin, e_neg, n_int, e_not, e_cmp, e_and, e_or, e_ite, e_sub, e_slice, e_list, e_tuple, e_call, e_ucall, e_meth, e_comp, e_gfn, e_vcall, e_sortk, e_mink, e_ucalld, e_ucallk, s_forx, s_tryLen, s_zipc, t_not, t_and, t_or, t_cmp, t_var, t_sub, t_call, t_ucall, s_expr, s_assign, s_setitem, s_aug, s_augi, s_ifs, s_while, s_for, s_ret, s_brk, s_cont, ss_nil, c_range1, c_range2, c_range3, i_rng, i_ref, i_tup, i_enm, i_rev, bt_name, bt_tup, look_zero, look_succ, r_next, r_ret, sa_nil, sa_cons, es_nil, es_cons, o_none, o_some, ts_nil, ts_cons, c_lt, c_le, c_gt, c_ge, c_eq, c_ne, b_add, b_sub, b_mul, b_div, b_mod, b_pow, b_shr, a_add, a_mul, t_bool, t_int, List.map, List.cons_append, List.nil_append, List.getElem?_cons_succ, List.getElem?_cons_zero, List.set_cons_succ, List.set_cons_zero, frOf]); (repeat (first | with_reducible refine q_nextI ?_ | with_reducible refine q_retI ?_ | with_reducible refine q_contI ?_ | with_reducible refine q_brkI ?_ | with_reducible refine ss_nilI ?_ | rw [q_next] | rw [q_ret] | rw [q_cont] | rw [q_brk] | rw [ss_nil])); (try simp only [r_next, r_ret]))
    have hm : ns'.getD ((p' - 1) / 2) x ∈ ns' := getD_mem hq
    ((with_reducible refine go_cons ?_); ((try simp only [e_int, e_bool, e_none, e_str, e_var, e_bin, e_neg, n_int, e_not, e_cmp, e_and, e_or, e_ite, e_sub, e_slice, e_list, e_tuple, e_call, e_ucall, e_meth, e_comp, e_gfn, e_vcall, e_sortk, e_mink, e_ucalld, e_ucallk, s_forx, s_tryLen, s_zipc, t_not, t_and, t_or, t_cmp, t_var, t_sub, t_call, t_ucall, s_expr, s_assign, s_setitem, s_aug, s_augi, s_ifs, s_while, s_for, s_ret, s_brk, s_cont, ss_nil, c_range1, c_range2, c_range3, i_rng, i_ref, i_tup, i_enm, i_rev, bt_name, bt_tup, look_zero, look_succ, r_next, r_ret, sa_nil, sa_cons, es_nil, es_cons, o_none, o_some, ts_nil, ts_cons, c_lt, c_le, c_gt, c_ge, c_eq, c_ne, b_add, b_sub, b_mul, b_div, b_mod, b_pow, b_shr, a_add, a_mul, t_bool, t_int, List.map, List.cons_append, List.nil_append, List.getElem?_cons_succ, List.getElem?_cons_zero, List.set_cons_succ, List.set_cons_zero, frOf]); (repeat (first | with_reducible refine q_nextI ?_ | with_reducible refine q_retI ?_ | with_reducible refine q_contI ?_ | with_reducible refine q_brkI ?_ | with_reducible refine ss_nilI ?_ | rw [q_next] | rw [q_ret] | rw [q_cont] | rw [q_brk] | rw [ss_nil])); (try simp only [r_next, r_ret])))
    refine hlt _ _ (hP' _ hm) hx' _ _ ?_
    ((try simp only [e_int, e_bool, e_none, e_str, e_var, e_bin, e_neg, n_int, e_not, e_cmp, e_and, e_or, e_ite, e_sub, e_slice, e_list, e_tuple, e_call, e_ucall, e_meth, e_comp, e_gfn, e_vcall, e_sortk, e_mink, e_ucalld, e_ucallk, s_forx, s_tryLen, s_zipc, t_not, t_and, t_or, t_cmp, t_var, t_sub, t_call, t_ucall, s_expr, s_assign, s_setitem, s_aug, s_augi, s_ifs, s_while, s_for, s_ret, s_brk, s_cont, ss_nil, c_range1, c_range2, c_range3, i_rng, i_ref, i_tup, i_enm, i_rev, bt_name, bt_tup, look_zero, look_succ, r_next, r_ret, sa_nil, sa_cons, es_nil, es_cons, o_none, o_some, ts_nil, ts_cons, c_lt, c_le, c_gt, c_ge, c_eq, c_ne, b_add, b_sub, b_mul, b_div, b_mod, b_pow, b_shr, a_add, a_mul, t_bool, t_int, List.map, List.cons_append, List.nil_append, List.getElem?_cons_succ, List.getElem?_cons_zero, List.set_cons_succ, List.set_cons_zero, frOf]); (repeat (first | with_reducible refine q_nextI ?_ | with_reducible refine q_retI ?_ | with_reducible refine q_contI ?_ | with_reducible refine q_brkI ?_ | with_reducible refine ss_nilI ?_ | rw [q_next] | rw [q_ret] | rw [q_cont] | rw [q_brk] | rw [ss_nil])); (try simp only [r_next, r_ret]))
    by_cases c : lt (ns'.getD ((p' - 1) / 2) x) x = true
    · rw [c, if_pos rfl]
      ((with_reducible refine go_cons ?_); ((try simp only [e_int, e_bool, e_none, e_str, e_var, e_bin, e_neg, n_int, e_not, e_cmp, e_and, e_or, e_ite, e_sub, e_slice, e_list, e_tuple, e_call, e_ucall, e_meth, e_comp, e_gfn, e_vcall, e_sortk, e_mink, e_ucalld, e_ucallk, s_forx, s_tryLen, s_zipc, t_not, t_and, t_or, t_cmp, t_var, t_sub, t_call, t_ucall, s_expr, s_assign, s_setitem, s_aug, s_augi, s_ifs, s_while, s_for, s_ret, s_brk, s_cont, ss_nil, c_range1, c_range2, c_range3, i_rng, i_ref, i_tup, i_enm, i_rev, bt_name, bt_tup, look_zero, look_succ, r_next, r_ret, sa_nil, sa_cons, es_nil, es_cons, o_none, o_some, ts_nil, ts_cons, c_lt, c_le, c_gt, c_ge, c_eq, c_ne, b_add, b_sub, b_mul, b_div, b_mod, b_pow, b_shr, a_add, a_mul, t_bool, t_int, List.map, List.cons_append, List.nil_append, List.getElem?_cons_succ, List.getElem?_cons_zero, List.set_cons_succ, List.set_cons_zero, frOf]); (repeat (first | with_reducible refine q_nextI ?_ | with_reducible refine q_retI ?_ | with_reducible refine q_contI ?_ | with_reducible refine q_brkI ?_ | with_reducible refine ss_nilI ?_ | rw [q_next] | rw [q_ret] | rw [q_cont] | rw [q_brk] | rw [ss_nil])); (try simp only [r_next, r_ret])))
      refine opSet_list (upd_same _ _ _) (by rw [List.length_map]; omega) ?_
      rw [upd_upd]
      ((try simp only [e_int, e_bool, e_none, e_str, e_var, e_bin, e_neg, n_int, e_not, e_cmp, e_and, e_or, e_ite, e_sub, e_slice, e_list, e_tuple, e_call, e_ucall, e_meth, e_comp, e_gfn, e_vcall, e_sortk, e_mink, e_ucalld, e_ucallk, s_forx, s_tryLen, s_zipc, t_not, t_and, t_or, t_cmp, t_var, t_sub, t_call, t_ucall, s_expr, s_assign, s_setitem, s_aug, s_augi, s_ifs, s_while, s_for, s_ret, s_brk, s_cont, ss_nil, c_range1, c_range2, c_range3, i_rng, i_ref, i_tup, i_enm, i_rev, bt_name, bt_tup, look_zero, look_succ, r_next, r_ret, sa_nil, sa_cons, es_nil, es_cons, o_none, o_some, ts_nil, ts_cons, c_lt, c_le, c_gt, c_ge, c_eq, c_ne, b_add, b_sub, b_mul, b_div, b_mod, b_pow, b_shr, a_add, a_mul, t_bool, t_int, List.map, List.cons_append, List.nil_append, List.getElem?_cons_succ, List.getElem?_cons_zero, List.set_cons_succ, List.set_cons_zero, frOf]); (repeat (first | with_reducible refine q_nextI ?_ | with_reducible refine q_retI ?_ | with_reducible refine q_contI ?_ | with_reducible refine q_brkI ?_ | with_reducible refine ss_nilI ?_ | rw [q_next] | rw [q_ret] | rw [q_cont] | rw [q_brk] | rw [ss_nil])); (try simp only [r_next, r_ret]))
      ((with_reducible refine go_cons ?_); ((try simp only [e_int, e_bool, e_none, e_str, e_var, e_bin, e_neg, n_int, e_not, e_cmp, e_and, e_or, e_ite, e_sub, e_slice, e_list, e_tuple, e_call, e_ucall, e_meth, e_comp, e_gfn, e_vcall, e_sortk, e_mink, e_ucalld, e_ucallk, s_forx, s_tryLen, s_zipc, t_not, t_and, t_or, t_cmp, t_var, t_sub, t_call, t_ucall, s_expr, s_assign, s_setitem, s_aug, s_augi, s_ifs, s_while, s_for, s_ret, s_brk, s_cont, ss_nil, c_range1, c_range2, c_range3, i_rng, i_ref, i_tup, i_enm, i_rev, bt_name, bt_tup, look_zero, look_succ, r_next, r_ret, sa_nil, sa_cons, es_nil, es_cons, o_none, o_some, ts_nil, ts_cons, c_lt, c_le, c_gt, c_ge, c_eq, c_ne, b_add, b_sub, b_mul, b_div, b_mod, b_pow, b_shr, a_add, a_mul, t_bool, t_int, List.map, List.cons_append, List.nil_append, List.getElem?_cons_succ, List.getElem?_cons_zero, List.set_cons_succ, List.set_cons_zero, frOf]); (repeat (first | with_reducible refine q_nextI ?_ | with_reducible refine q_retI ?_ | with_reducible refine q_contI ?_ | with_reducible refine q_brkI ?_ | with_reducible refine ss_nilI ?_ | rw [q_next] | rw [q_ret] | rw [q_cont] | rw [q_brk] | rw [ss_nil])); (try simp only [r_next, r_ret])))
      ((with_reducible refine go_cons ?_); ((try simp only [e_int, e_bool, e_none, e_str, e_var, e_bin, e_neg, n_int, e_not, e_cmp, e_and, e_or, e_ite, e_sub, e_slice, e_list, e_tuple, e_call, e_ucall, e_meth, e_comp, e_gfn, e_vcall, e_sortk, e_mink, e_ucalld, e_ucallk, s_forx, s_tryLen, s_zipc, t_not, t_and, t_or, t_cmp, t_var, t_sub, t_call, t_ucall, s_expr, s_assign, s_setitem, s_aug, s_augi, s_ifs, s_while, s_for, s_ret, s_brk, s_cont, ss_nil, c_range1, c_range2, c_range3, i_rng, i_ref, i_tup, i_enm, i_rev, bt_name, bt_tup, look_zero, look_succ, r_next, r_ret, sa_nil, sa_cons, es_nil, es_cons, o_none, o_some, ts_nil, ts_cons, c_lt, c_le, c_gt, c_ge, c_eq, c_ne, b_add, b_sub, b_mul, b_div, b_mod, b_pow, b_shr, a_add, a_mul, t_bool, t_int, List.map, List.cons_append, List.nil_append, List.getElem?_cons_succ, List.getElem?_cons_zero, List.set_cons_succ, List.set_cons_zero, frOf]); (repeat (first | with_reducible refine q_nextI ?_ | with_reducible refine q_retI ?_ | with_reducible refine q_contI ?_ | with_reducible refine q_brkI ?_ | with_reducible refine ss_nilI ?_ | rw [q_next] | rw [q_ret] | rw [q_cont] | rw [q_brk] | rw [ss_nil])); (try simp only [r_next, r_ret])))
      refine k2 ((p' - 1) / 2) _ _ (by omega) ⟨ns'.set p' (ns'.getD ((p' - 1) / 2) x), _, _, rfl, by rw [List.map_set], by rw [List.length_set, hl], by omega, ?_, ?_⟩
      · intro y hy
        rcases mem_set hy with h | rfl
        · exact hP' _ h
        · exact hP' _ hm
      · rw [← eq, upF.eq_def lt s x ns' p', dif_pos hgt, if_pos c]
    · rw [Bool.eq_false_iff.mpr c, if_neg (by decide)]
      ((try simp only [e_int, e_bool, e_none, e_str, e_var, e_bin, e_neg, n_int, e_not, e_cmp, e_and, e_or, e_ite, e_sub, e_slice, e_list, e_tuple, e_call, e_ucall, e_meth, e_comp, e_gfn, e_vcall, e_sortk, e_mink, e_ucalld, e_ucallk, s_forx, s_tryLen, s_zipc, t_not, t_and, t_or, t_cmp, t_var, t_sub, t_call, t_ucall, s_expr, s_assign, s_setitem, s_aug, s_augi, s_ifs, s_while, s_for, s_ret, s_brk, s_cont, ss_nil, c_range1, c_range2, c_range3, i_rng, i_ref, i_tup, i_enm, i_rev, bt_name, bt_tup, look_zero, look_succ, r_next, r_ret, sa_nil, sa_cons, es_nil, es_cons, o_none, o_some, ts_nil, ts_cons, c_lt, c_le, c_gt, c_ge, c_eq, c_ne, b_add, b_sub, b_mul, b_div, b_mod, b_pow, b_shr, a_add, a_mul, t_bool, t_int, List.map, List.cons_append, List.nil_append, List.getElem?_cons_succ, List.getElem?_cons_zero, List.set_cons_succ, List.set_cons_zero, frOf]); (repeat (first | with_reducible refine q_nextI ?_ | with_reducible refine q_retI ?_ | with_reducible refine q_contI ?_ | with_reducible refine q_brkI ?_ | with_reducible refine ss_nilI ?_ | rw [q_next] | rw [q_ret] | rw [q_cont] | rw [q_brk] | rw [ss_nil])); (try simp only [r_next, r_ret]))
      ((with_reducible refine go_cons ?_); ((try simp only [e_int, e_bool, e_none, e_str, e_var, e_bin, e_neg, n_int, e_not, e_cmp, e_and, e_or, e_ite, e_sub, e_slice, e_list, e_tuple, e_call, e_ucall, e_meth, e_comp, e_gfn, e_vcall, e_sortk, e_mink, e_ucalld, e_ucallk, s_forx, s_tryLen, s_zipc, t_not, t_and, t_or, t_cmp, t_var, t_sub, t_call, t_ucall, s_expr, s_assign, s_setitem, s_aug, s_augi, s_ifs, s_while, s_for, s_ret, s_brk, s_cont, ss_nil, c_range1, c_range2, c_range3, i_rng, i_ref, i_tup, i_enm, i_rev, bt_name, bt_tup, look_zero, look_succ, r_next, r_ret, sa_nil, sa_cons, es_nil, es_cons, o_none, o_some, ts_nil, ts_cons, c_lt, c_le, c_gt, c_ge, c_eq, c_ne, b_add, b_sub, b_mul, b_div, b_mod, b_pow, b_shr, a_add, a_mul, t_bool, t_int, List.map, List.cons_append, List.nil_append, List.getElem?_cons_succ, List.getElem?_cons_zero, List.set_cons_succ, List.set_cons_zero, frOf]); (repeat (first | with_reducible refine q_nextI ?_ | with_reducible refine q_retI ?_ | with_reducible refine q_contI ?_ | with_reducible refine q_brkI ?_ | with_reducible refine ss_nilI ?_ | rw [q_next] | rw [q_ret] | rw [q_cont] | rw [q_brk] | rw [ss_nil])); (try simp only [r_next, r_ret])))
      refine k3 _ _ ?_
      ((try simp only [e_int, e_bool, e_none, e_str, e_var, e_bin, e_neg, n_int, e_not, e_cmp, e_and, e_or, e_ite, e_sub, e_slice, e_list, e_tuple, e_call, e_ucall, e_meth, e_comp, e_gfn, e_vcall, e_sortk, e_mink, e_ucalld, e_ucallk, s_forx, s_tryLen, s_zipc, t_not, t_and, t_or, t_cmp, t_var, t_sub, t_call, t_ucall, s_expr, s_assign, s_setitem, s_aug, s_augi, s_ifs, s_while, s_for, s_ret, s_brk, s_cont, ss_nil, c_range1, c_range2, c_range3, i_rng, i_ref, i_tup, i_enm, i_rev, bt_name, bt_tup, look_zero, look_succ, r_next, r_ret, sa_nil, sa_cons, es_nil, es_cons, o_none, o_some, ts_nil, ts_cons, c_lt, c_le, c_gt, c_ge, c_eq, c_ne, b_add, b_sub, b_mul, b_div, b_mod, b_pow, b_shr, a_add, a_mul, t_bool, t_int, List.map, List.cons_append, List.nil_append, List.getElem?_cons_succ, List.getElem?_cons_zero, List.set_cons_succ, List.set_cons_zero, frOf]); (repeat (first | with_reducible refine q_nextI ?_ | with_reducible refine q_retI ?_ | with_reducible refine q_contI ?_ | with_reducible refine q_brkI ?_ | with_reducible refine ss_nilI ?_ | rw [q_next] | rw [q_ret] | rw [q_cont] | rw [q_brk] | rw [ss_nil])); (try simp only [r_next, r_ret]))
      rw [upF, dif_pos hgt, if_neg c] at fin
      ((with_reducible refine go_cons ?_); ((try simp only [e_int, e_bool, e_none, e_str, e_var, e_bin, e_neg, n_int, e_not, e_cmp, e_and, e_or, e_ite, e_sub, e_slice, e_list, e_tuple, e_call, e_ucall, e_meth, e_comp, e_gfn, e_vcall, e_sortk, e_mink, e_ucalld, e_ucallk, s_forx, s_tryLen, s_zipc, t_not, t_and, t_or, t_cmp, t_var, t_sub, t_call, t_ucall, s_expr, s_assign, s_setitem, s_aug, s_augi, s_ifs, s_while, s_for, s_ret, s_brk, s_cont, ss_nil, c_range1, c_range2, c_range3, i_rng, i_ref, i_tup, i_enm, i_rev, bt_name, bt_tup, look_zero, look_succ, r_next, r_ret, sa_nil, sa_cons, es_nil, es_cons, o_none, o_some, ts_nil, ts_cons, c_lt, c_le, c_gt, c_ge, c_eq, c_ne, b_add, b_sub, b_mul, b_div, b_mod, b_pow, b_shr, a_add, a_mul, t_bool, t_int, List.map, List.cons_append, List.nil_append, List.getElem?_cons_succ, List.getElem?_cons_zero, List.set_cons_succ, List.set_cons_zero, frOf]); (repeat (first | with_reducible refine q_nextI ?_ | with_reducible refine q_retI ?_ | with_reducible refine q_contI ?_ | with_reducible refine q_brkI ?_ | with_reducible refine ss_nilI ?_ | rw [q_next] | rw [q_ret] | rw [q_cont] | rw [q_brk] | rw [ss_nil])); (try simp only [r_next, r_ret])))
      refine opSet_list (upd_same _ _ _) (by rw [List.length_map]; omega) ?_
      rw [upd_upd]
      ((try simp only [e_int, e_bool, e_none, e_str, e_var, e_bin, e_neg, n_int, e_not, e_cmp, e_and, e_or, e_ite, e_sub, e_slice, e_list, e_tuple, e_call, e_ucall, e_meth, e_comp, e_gfn, e_vcall, e_sortk, e_mink, e_ucalld, e_ucallk, s_forx, s_tryLen, s_zipc, t_not, t_and, t_or, t_cmp, t_var, t_sub, t_call, t_ucall, s_expr, s_assign, s_setitem, s_aug, s_augi, s_ifs, s_while, s_for, s_ret, s_brk, s_cont, ss_nil, c_range1, c_range2, c_range3, i_rng, i_ref, i_tup, i_enm, i_rev, bt_name, bt_tup, look_zero, look_succ, r_next, r_ret, sa_nil, sa_cons, es_nil, es_cons, o_none, o_some, ts_nil, ts_cons, c_lt, c_le, c_gt, c_ge, c_eq, c_ne, b_add, b_sub, b_mul, b_div, b_mod, b_pow, b_shr, a_add, a_mul, t_bool, t_int, List.map, List.cons_append, List.nil_append, List.getElem?_cons_succ, List.getElem?_cons_zero, List.set_cons_succ, List.set_cons_zero, frOf]); (repeat (first | with_reducible refine q_nextI ?_ | with_reducible refine q_retI ?_ | with_reducible refine q_contI ?_ | with_reducible refine q_brkI ?_ | with_reducible refine ss_nilI ?_ | rw [q_next] | rw [q_ret] | rw [q_cont] | rw [q_brk] | rw [ss_nil])); (try simp only [r_next, r_ret]))
      rw [← eq, upF, dif_pos hgt, if_neg c] at q
      rw [← List.map_set]; exact q
  · rw [decide_eq_false (by omega), if_neg (by decide)]
    ((try simp only [e_int, e_bool, e_none, e_str, e_var, e_bin, e_neg, n_int, e_not, e_cmp, e_and, e_or, e_ite, e_sub, e_slice, e_list, e_tuple, e_call, e_ucall, e_meth, e_comp, e_gfn, e_vcall, e_sortk, e_mink, e_ucalld, e_ucallk, s_forx, s_tryLen, s_zipc, t_not, t_and, t_or, t_cmp, t_var, t_sub, t_call, t_ucall, s_expr, s_assign, s_setitem, s_aug, s_augi, s_ifs, s_while, s_for, s_ret, s_brk, s_cont, ss_nil, c_range1, c_range2, c_range3, i_rng, i_ref, i_tup, i_enm, i_rev, bt_name, bt_tup, look_zero, look_succ, r_next, r_ret, sa_nil, sa_cons, es_nil, es_cons, o_none, o_some, ts_nil, ts_cons, c_lt, c_le, c_gt, c_ge, c_eq, c_ne, b_add, b_sub, b_mul, b_div, b_mod, b_pow, b_shr, a_add, a_mul, t_bool, t_int, List.map, List.cons_append, List.nil_append, List.getElem?_cons_succ, List.getElem?_cons_zero, List.set_cons_succ, List.set_cons_zero, frOf]); (repeat (first | with_reducible refine q_nextI ?_ | with_reducible refine q_retI ?_ | with_reducible refine q_contI ?_ | with_reducible refine q_brkI ?_ | with_reducible refine ss_nilI ?_ | rw [q_next] | rw [q_ret] | rw [q_cont] | rw [q_brk] | rw [ss_nil])); (try simp only [r_next, r_ret]))
    exact fin (by rw [upF, dif_neg hgt])
theorem siftup_v (Φ : Fns) (i : Nat) (hΦ : ∀ args Q σ, siftdownC args Q σ → Φ i args Q σ) (args : List V) (Q : V → Hp → Prop) (σ : Hp) (F : Frm) (h : siftupC args Q σ) (hF : F = args.map some ++ [none, none, none, none, none]) : vSs Φ (ps_siftup i) (retV Q) F σ := by
  obtain ⟨α, f, lt, P, a, ns, p, x, rfl, hσ, hx, hP, hlt, hbig, q⟩ := h
  subst hF
  have hp : p < ns.length := lt_of_some hx
  have hx' : P x := hP _ (List.mem_of_getElem? hx)
  unfold ps_siftup
  ((with_reducible refine go_cons ?_); ((try simp only [e_int, e_bool, e_none, e_str, e_var, e_bin, e_neg, n_int, e_not, e_cmp, e_and, e_or, e_ite, e_sub, e_slice, e_list, e_tuple, e_call, e_ucall, e_meth, e_comp, e_gfn, e_vcall, e_sortk, e_mink, e_ucalld, e_ucallk, s_forx, s_tryLen, s_zipc, t_not, t_and, t_or, t_cmp, t_var, t_sub, t_call, t_ucall, s_expr, s_assign, s_setitem, s_aug, s_augi, s_ifs, s_while, s_for, s_ret, s_brk, s_cont, ss_nil, c_range1, c_range2, c_range3, i_rng, i_ref, i_tup, i_enm, i_rev, bt_name, bt_tup, look_zero, look_succ, r_next, r_ret, sa_nil, sa_cons, es_nil, es_cons, o_none, o_some, ts_nil, ts_cons, c_lt, c_le, c_gt, c_ge, c_eq, c_ne, b_add, b_sub, b_mul, b_div, b_mod, b_pow, b_shr, a_add, a_mul, t_bool, t_int, List.map, List.cons_append, List.nil_append, List.getElem?_cons_succ, List.getElem?_cons_zero, List.set_cons_succ, List.set_cons_zero, frOf]); (repeat (first | with_reducible refine q_nextI ?_ | with_reducible refine q_retI ?_ | with_reducible refine q_contI ?_ | with_reducible refine q_brkI ?_ | with_reducible refine ss_nilI ?_ | rw [q_next] | rw [q_ret] | rw [q_cont] | rw [q_brk] | rw [ss_nil])); (try simp only [r_next, r_ret])))
  refine call_len (listAt_list hσ) ?_
  rw [List.length_map]
  ((try simp only [e_int, e_bool, e_none, e_str, e_var, e_bin, e_neg, n_int, e_not, e_cmp, e_and, e_or, e_ite, e_sub, e_slice, e_list, e_tuple, e_call, e_ucall, e_meth, e_comp, e_gfn, e_vcall, e_sortk, e_mink, e_ucalld, e_ucallk, s_forx, s_tryLen, s_zipc, t_not, t_and, t_or, t_cmp, t_var, t_sub, t_call, t_ucall, s_expr, s_assign, s_setitem, s_aug, s_augi, s_ifs, s_while, s_for, s_ret, s_brk, s_cont, ss_nil, c_range1, c_range2, c_range3, i_rng, i_ref, i_tup, i_enm, i_rev, bt_name, bt_tup, look_zero, look_succ, r_next, r_ret, sa_nil, sa_cons, es_nil, es_cons, o_none, o_some, ts_nil, ts_cons, c_lt, c_le, c_gt, c_ge, c_eq, c_ne, b_add, b_sub, b_mul, b_div, b_mod, b_pow, b_shr, a_add, a_mul, t_bool, t_int, List.map, List.cons_append, List.nil_append, List.getElem?_cons_succ, List.getElem?_cons_zero, List.set_cons_succ, List.set_cons_zero, frOf]); (repeat (first | with_reducible refine q_nextI ?_ | with_reducible refine q_retI ?_ | with_reducible refine q_contI ?_ | with_reducible refine q_brkI ?_ | with_reducible refine ss_nilI ?_ | rw [q_next] | rw [q_ret] | rw [q_cont] | rw [q_brk] | rw [ss_nil])); (try simp only [r_next, r_ret]))
  ((with_reducible refine go_cons ?_); ((try simp only [e_int, e_bool, e_none, e_str, e_var, e_bin, e_neg, n_int, e_not, e_cmp, e_and, e_or, e_ite, e_sub, e_slice, e_list, e_tuple, e_call, e_ucall, e_meth, e_comp, e_gfn, e_vcall, e_sortk, e_mink, e_ucalld, e_ucallk, s_forx, s_tryLen, s_zipc, t_not, t_and, t_or, t_cmp, t_var, t_sub, t_call, t_ucall, s_expr, s_assign, s_setitem, s_aug, s_augi, s_ifs, s_while, s_for, s_ret, s_brk, s_cont, ss_nil, c_range1, c_range2, c_range3, i_rng, i_ref, i_tup, i_enm, i_rev, bt_name, bt_tup, look_zero, look_succ, r_next, r_ret, sa_nil, sa_cons, es_nil, es_cons, o_none, o_some, ts_nil, ts_cons, c_lt, c_le, c_gt, c_ge, c_eq, c_ne, b_add, b_sub, b_mul, b_div, b_mod, b_pow, b_shr, a_add, a_mul, t_bool, t_int, List.map, List.cons_append, List.nil_append, List.getElem?_cons_succ, List.getElem?_cons_zero, List.set_cons_succ, List.set_cons_zero, frOf]); (repeat (first | with_reducible refine q_nextI ?_ | with_reducible refine q_retI ?_ | with_reducible refine q_contI ?_ | with_reducible refine q_brkI ?_ | with_reducible refine ss_nilI ?_ | rw [q_next] | rw [q_ret] | rw [q_cont] | rw [q_brk] | rw [ss_nil])); (try simp only [r_next, r_ret])))
  ((with_reducible refine go_cons ?_); ((try simp only [e_int, e_bool, e_none, e_str, e_var, e_bin, e_neg, n_int, e_not, e_cmp, e_and, e_or, e_ite, e_sub, e_slice, e_list, e_tuple, e_call, e_ucall, e_meth, e_comp, e_gfn, e_vcall, e_sortk, e_mink, e_ucalld, e_ucallk, s_forx, s_tryLen, s_zipc, t_not, t_and, t_or, t_cmp, t_var, t_sub, t_call, t_ucall, s_expr, s_assign, s_setitem, s_aug, s_augi, s_ifs, s_while, s_for, s_ret, s_brk, s_cont, ss_nil, c_range1, c_range2, c_range3, i_rng, i_ref, i_tup, i_enm, i_rev, bt_name, bt_tup, look_zero, look_succ, r_next, r_ret, sa_nil, sa_cons, es_nil, es_cons, o_none, o_some, ts_nil, ts_cons, c_lt, c_le, c_gt, c_ge, c_eq, c_ne, b_add, b_sub, b_mul, b_div, b_mod, b_pow, b_shr, a_add, a_mul, t_bool, t_int, List.map, List.cons_append, List.nil_append, List.getElem?_cons_succ, List.getElem?_cons_zero, List.set_cons_succ, List.set_cons_zero, frOf]); (repeat (first | with_reducible refine q_nextI ?_ | with_reducible refine q_retI ?_ | with_reducible refine q_contI ?_ | with_reducible refine q_brkI ?_ | with_reducible refine ss_nilI ?_ | rw [q_next] | rw [q_ret] | rw [q_cont] | rw [q_brk] | rw [ss_nil])); (try simp only [r_next, r_ret])))
  refine opSub_list hσ (x := f x) (by rw [List.getElem?_map, hx]; rfl) ?_
  ((try simp only [e_int, e_bool, e_none, e_str, e_var, e_bin, e_neg, n_int, e_not, e_cmp, e_and, e_or, e_ite, e_sub, e_slice, e_list, e_tuple, e_call, e_ucall, e_meth, e_comp, e_gfn, e_vcall, e_sortk, e_mink, e_ucalld, e_ucallk, s_forx, s_tryLen, s_zipc, t_not, t_and, t_or, t_cmp, t_var, t_sub, t_call, t_ucall, s_expr, s_assign, s_setitem, s_aug, s_augi, s_ifs, s_while, s_for, s_ret, s_brk, s_cont, ss_nil, c_range1, c_range2, c_range3, i_rng, i_ref, i_tup, i_enm, i_rev, bt_name, bt_tup, look_zero, look_succ, r_next, r_ret, sa_nil, sa_cons, es_nil, es_cons, o_none, o_some, ts_nil, ts_cons, c_lt, c_le, c_gt, c_ge, c_eq, c_ne, b_add, b_sub, b_mul, b_div, b_mod, b_pow, b_shr, a_add, a_mul, t_bool, t_int, List.map, List.cons_append, List.nil_append, List.getElem?_cons_succ, List.getElem?_cons_zero, List.set_cons_succ, List.set_cons_zero, frOf]); (repeat (first | with_reducible refine q_nextI ?_ | with_reducible refine q_retI ?_ | with_reducible refine q_contI ?_ | with_reducible refine q_brkI ?_ | with_reducible refine ss_nilI ?_ | rw [q_next] | rw [q_ret] | rw [q_cont] | rw [q_brk] | rw [ss_nil])); (try simp only [r_next, r_ret]))
  ((with_reducible refine go_cons ?_); ((try simp only [e_int, e_bool, e_none, e_str, e_var, e_bin, e_neg, n_int, e_not, e_cmp, e_and, e_or, e_ite, e_sub, e_slice, e_list, e_tuple, e_call, e_ucall, e_meth, e_comp, e_gfn, e_vcall, e_sortk, e_mink, e_ucalld, e_ucallk, s_forx, s_tryLen, s_zipc, t_not, t_and, t_or, t_cmp, t_var, t_sub, t_call, t_ucall, s_expr, s_assign, s_setitem, s_aug, s_augi, s_ifs, s_while, s_for, s_ret, s_brk, s_cont, ss_nil, c_range1, c_range2, c_range3, i_rng, i_ref, i_tup, i_enm, i_rev, bt_name, bt_tup, look_zero, look_succ, r_next, r_ret, sa_nil, sa_cons, es_nil, es_cons, o_none, o_some, ts_nil, ts_cons, c_lt, c_le, c_gt, c_ge, c_eq, c_ne, b_add, b_sub, b_mul, b_div, b_mod, b_pow, b_shr, a_add, a_mul, t_bool, t_int, List.map, List.cons_append, List.nil_append, List.getElem?_cons_succ, List.getElem?_cons_zero, List.set_cons_succ, List.set_cons_zero, frOf]); (repeat (first | with_reducible refine q_nextI ?_ | with_reducible refine q_retI ?_ | with_reducible refine q_contI ?_ | with_reducible refine q_brkI ?_ | with_reducible refine ss_nilI ?_ | rw [q_next] | rw [q_ret] | rw [q_cont] | rw [q_brk] | rw [ss_nil])); (try simp only [r_next, r_ret])))
  refine ⟨mul_l, ?_⟩
  ((with_reducible refine go_cons ?_); ((try simp only [e_int, e_bool, e_none, e_str, e_var, e_bin, e_neg, n_int, e_not, e_cmp, e_and, e_or, e_ite, e_sub, e_slice, e_list, e_tuple, e_call, e_ucall, e_meth, e_comp, e_gfn, e_vcall, e_sortk, e_mink, e_ucalld, e_ucallk, s_forx, s_tryLen, s_zipc, t_not, t_and, t_or, t_cmp, t_var, t_sub, t_call, t_ucall, s_expr, s_assign, s_setitem, s_aug, s_augi, s_ifs, s_while, s_for, s_ret, s_brk, s_cont, ss_nil, c_range1, c_range2, c_range3, i_rng, i_ref, i_tup, i_enm, i_rev, bt_name, bt_tup, look_zero, look_succ, r_next, r_ret, sa_nil, sa_cons, es_nil, es_cons, o_none, o_some, ts_nil, ts_cons, c_lt, c_le, c_gt, c_ge, c_eq, c_ne, b_add, b_sub, b_mul, b_div, b_mod, b_pow, b_shr, a_add, a_mul, t_bool, t_int, List.map, List.cons_append, List.nil_append, List.getElem?_cons_succ, List.getElem?_cons_zero, List.set_cons_succ, List.set_cons_zero, frOf]); (repeat (first | with_reducible refine q_nextI ?_ | with_reducible refine q_retI ?_ | with_reducible refine q_contI ?_ | with_reducible refine q_brkI ?_ | with_reducible refine ss_nilI ?_ | rw [q_next] | rw [q_ret] | rw [q_cont] | rw [q_brk] | rw [ss_nil])); (try simp only [r_next, r_ret])))
  refine while_rule (fun n F τ => ∃ ns' p' e6, ns.length - p' = n ∧ F = [some (.ref a), some (.int (p' : Nat)), some (.int ns.length), some (.int p), some (f x), some (.int (2 * p' + 1 : Nat)), e6] ∧ τ = upd σ a (.list (ns'.map f)) ∧ ns'.length = ns.length ∧ p' < ns.length ∧ (∀ y ∈ ns', P y) ∧ downF lt x ns' p' = downF lt x ns p) _ ⟨ns, p, none, rfl, rfl, (upd_id hσ).symm, rfl, hp, hP, rfl⟩ ?_
  rintro n F τ ⟨ns', p', e6, rfl, rfl, rfl, hl, hp', hP', eq⟩ K k1 k2 k3 k4
  ((try simp only [e_int, e_bool, e_none, e_str, e_var, e_bin, e_neg, n_int, e_not, e_cmp, e_and, e_or, e_ite, e_sub, e_slice, e_list, e_tuple, e_call, e_ucall, e_meth, e_comp, e_gfn, e_vcall, e_sortk, e_mink, e_ucalld, e_ucallk, s_forx, s_tryLen, s_zipc, t_not, t_and, t_or, t_cmp, t_var, t_sub, t_call, t_ucall, s_expr, s_assign, s_setitem, s_aug, s_augi, s_ifs, s_while, s_for, s_ret, s_brk, s_cont, ss_nil, c_range1, c_range2, c_range3, i_rng, i_ref, i_tup, i_enm, i_rev, bt_name, bt_tup, look_zero, look_succ, r_next, r_ret, sa_nil, sa_cons, es_nil, es_cons, o_none, o_some, ts_nil, ts_cons, c_lt, c_le, c_gt, c_ge, c_eq, c_ne, b_add, b_sub, b_mul, b_div, b_mod, b_pow, b_shr, a_add, a_mul, t_bool, t_int, List.map, List.cons_append, List.nil_append, List.getElem?_cons_succ, List.getElem?_cons_zero, List.set_cons_succ, List.set_cons_zero, frOf]); (repeat (first | with_reducible refine q_nextI ?_ | with_reducible refine q_retI ?_ | with_reducible refine q_contI ?_ | with_reducible refine q_brkI ?_ | with_reducible refine ss_nilI ?_ | rw [q_next] | rw [q_ret] | rw [q_cont] | rw [q_brk] | rw [ss_nil])); (try simp only [r_next, r_ret]))
  by_cases hc : 2 * p' + 1 < ns'.length
  · rw [decide_eq_true (by omega), if_pos rfl]
    have g1 := kid_gt lt x ns' p'
    have g2 := kid_lt lt x ns' p' hc
    have fin : ∀ e6, vSs Φ [.setitem (.var 0) (.var 1) (.sub (.var 0) (.var 5)), .assign (.name 1) (.var 5), .assign (.name 5) (.bin .Add (.bin .Mult (.int 2) (.var 1)) (.int 1))] K [some (.ref a), some (.int (p' : Nat)), some (.int ns.length), some (.int p), some (f x), some (.int (kid lt x ns' p' : Nat)), e6] (upd σ a (.list (ns'.map f))) := fun e6 => by
      ((with_reducible refine go_cons ?_); ((try simp only [e_int, e_bool, e_none, e_str, e_var, e_bin, e_neg, n_int, e_not, e_cmp, e_and, e_or, e_ite, e_sub, e_slice, e_list, e_tuple, e_call, e_ucall, e_meth, e_comp, e_gfn, e_vcall, e_sortk, e_mink, e_ucalld, e_ucallk, s_forx, s_tryLen, s_zipc, t_not, t_and, t_or, t_cmp, t_var, t_sub, t_call, t_ucall, s_expr, s_assign, s_setitem, s_aug, s_augi, s_ifs, s_while, s_for, s_ret, s_brk, s_cont, ss_nil, c_range1, c_range2, c_range3, i_rng, i_ref, i_tup, i_enm, i_rev, bt_name, bt_tup, look_zero, look_succ, r_next, r_ret, sa_nil, sa_cons, es_nil, es_cons, o_none, o_some, ts_nil, ts_cons, c_lt, c_le, c_gt, c_ge, c_eq, c_ne, b_add, b_sub, b_mul, b_div, b_mod, b_pow, b_shr, a_add, a_mul, t_bool, t_int, List.map, List.cons_append, List.nil_append, List.getElem?_cons_succ, List.getElem?_cons_zero, List.set_cons_succ, List.set_cons_zero, frOf]); (repeat (first | with_reducible refine q_nextI ?_ | with_reducible refine q_retI ?_ | with_reducible refine q_contI ?_ | with_reducible refine q_brkI ?_ | with_reducible refine ss_nilI ?_ | rw [q_next] | rw [q_ret] | rw [q_cont] | rw [q_brk] | rw [ss_nil])); (try simp only [r_next, r_ret])))
      refine opSub_list (upd_same _ _ _) (map_at x g2) ?_
      refine opSet_list (upd_same _ _ _) (by rw [List.length_map]; omega) ?_
      rw [upd_upd]
      ((try simp only [e_int, e_bool, e_none, e_str, e_var, e_bin, e_neg, n_int, e_not, e_cmp, e_and, e_or, e_ite, e_sub, e_slice, e_list, e_tuple, e_call, e_ucall, e_meth, e_comp, e_gfn, e_vcall, e_sortk, e_mink, e_ucalld, e_ucallk, s_forx, s_tryLen, s_zipc, t_not, t_and, t_or, t_cmp, t_var, t_sub, t_call, t_ucall, s_expr, s_assign, s_setitem, s_aug, s_augi, s_ifs, s_while, s_for, s_ret, s_brk, s_cont, ss_nil, c_range1, c_range2, c_range3, i_rng, i_ref, i_tup, i_enm, i_rev, bt_name, bt_tup, look_zero, look_succ, r_next, r_ret, sa_nil, sa_cons, es_nil, es_cons, o_none, o_some, ts_nil, ts_cons, c_lt, c_le, c_gt, c_ge, c_eq, c_ne, b_add, b_sub, b_mul, b_div, b_mod, b_pow, b_shr, a_add, a_mul, t_bool, t_int, List.map, List.cons_append, List.nil_append, List.getElem?_cons_succ, List.getElem?_cons_zero, List.set_cons_succ, List.set_cons_zero, frOf]); (repeat (first | with_reducible refine q_nextI ?_ | with_reducible refine q_retI ?_ | with_reducible refine q_contI ?_ | with_reducible refine q_brkI ?_ | with_reducible refine ss_nilI ?_ | rw [q_next] | rw [q_ret] | rw [q_cont] | rw [q_brk] | rw [ss_nil])); (try simp only [r_next, r_ret]))
      ((with_reducible refine go_cons ?_); ((try simp only [e_int, e_bool, e_none, e_str, e_var, e_bin, e_neg, n_int, e_not, e_cmp, e_and, e_or, e_ite, e_sub, e_slice, e_list, e_tuple, e_call, e_ucall, e_meth, e_comp, e_gfn, e_vcall, e_sortk, e_mink, e_ucalld, e_ucallk, s_forx, s_tryLen, s_zipc, t_not, t_and, t_or, t_cmp, t_var, t_sub, t_call, t_ucall, s_expr, s_assign, s_setitem, s_aug, s_augi, s_ifs, s_while, s_for, s_ret, s_brk, s_cont, ss_nil, c_range1, c_range2, c_range3, i_rng, i_ref, i_tup, i_enm, i_rev, bt_name, bt_tup, look_zero, look_succ, r_next, r_ret, sa_nil, sa_cons, es_nil, es_cons, o_none, o_some, ts_nil, ts_cons, c_lt, c_le, c_gt, c_ge, c_eq, c_ne, b_add, b_sub, b_mul, b_div, b_mod, b_pow, b_shr, a_add, a_mul, t_bool, t_int, List.map, List.cons_append, List.nil_append, List.getElem?_cons_succ, List.getElem?_cons_zero, List.set_cons_succ, List.set_cons_zero, frOf]); (repeat (first | with_reducible refine q_nextI ?_ | with_reducible refine q_retI ?_ | with_reducible refine q_contI ?_ | with_reducible refine q_brkI ?_ | with_reducible refine ss_nilI ?_ | rw [q_next] | rw [q_ret] | rw [q_cont] | rw [q_brk] | rw [ss_nil])); (try simp only [r_next, r_ret])))
      ((with_reducible refine go_cons ?_); ((try simp only [e_int, e_bool, e_none, e_str, e_var, e_bin, e_neg, n_int, e_not, e_cmp, e_and, e_or, e_ite, e_sub, e_slice, e_list, e_tuple, e_call, e_ucall, e_meth, e_comp, e_gfn, e_vcall, e_sortk, e_mink, e_ucalld, e_ucallk, s_forx, s_tryLen, s_zipc, t_not, t_and, t_or, t_cmp, t_var, t_sub, t_call, t_ucall, s_expr, s_assign, s_setitem, s_aug, s_augi, s_ifs, s_while, s_for, s_ret, s_brk, s_cont, ss_nil, c_range1, c_range2, c_range3, i_rng, i_ref, i_tup, i_enm, i_rev, bt_name, bt_tup, look_zero, look_succ, r_next, r_ret, sa_nil, sa_cons, es_nil, es_cons, o_none, o_some, ts_nil, ts_cons, c_lt, c_le, c_gt, c_ge, c_eq, c_ne, b_add, b_sub, b_mul, b_div, b_mod, b_pow, b_shr, a_add, a_mul, t_bool, t_int, List.map, List.cons_append, List.nil_append, List.getElem?_cons_succ, List.getElem?_cons_zero, List.set_cons_succ, List.set_cons_zero, frOf]); (repeat (first | with_reducible refine q_nextI ?_ | with_reducible refine q_retI ?_ | with_reducible refine q_contI ?_ | with_reducible refine q_brkI ?_ | with_reducible refine ss_nilI ?_ | rw [q_next] | rw [q_ret] | rw [q_cont] | rw [q_brk] | rw [ss_nil])); (try simp only [r_next, r_ret])))
      refine ⟨mul_l, k1 (ns.length - kid lt x ns' p') _ _ (by omega) ⟨ns'.set p' (ns'.getD (kid lt x ns' p') x), kid lt x ns' p', e6, rfl, rfl, by rw [List.map_set], by rw [List.length_set, hl], by omega, ?_, ?_⟩⟩
      · intro y hy
        rcases mem_set hy with h | rfl
        · exact hP' _ h
        · exact hP' _ (getD_mem g2)
      · rw [← eq, downF.eq_def lt x ns' p', dif_pos hc]
    ((with_reducible refine go_cons ?_); ((try simp only [e_int, e_bool, e_none, e_str, e_var, e_bin, e_neg, n_int, e_not, e_cmp, e_and, e_or, e_ite, e_sub, e_slice, e_list, e_tuple, e_call, e_ucall, e_meth, e_comp, e_gfn, e_vcall, e_sortk, e_mink, e_ucalld, e_ucallk, s_forx, s_tryLen, s_zipc, t_not, t_and, t_or, t_cmp, t_var, t_sub, t_call, t_ucall, s_expr, s_assign, s_setitem, s_aug, s_augi, s_ifs, s_while, s_for, s_ret, s_brk, s_cont, ss_nil, c_range1, c_range2, c_range3, i_rng, i_ref, i_tup, i_enm, i_rev, bt_name, bt_tup, look_zero, look_succ, r_next, r_ret, sa_nil, sa_cons, es_nil, es_cons, o_none, o_some, ts_nil, ts_cons, c_lt, c_le, c_gt, c_ge, c_eq, c_ne, b_add, b_sub, b_mul, b_div, b_mod, b_pow, b_shr, a_add, a_mul, t_bool, t_int, List.map, List.cons_append, List.nil_append, List.getElem?_cons_succ, List.getElem?_cons_zero, List.set_cons_succ, List.set_cons_zero, frOf]); (repeat (first | with_reducible refine q_nextI ?_ | with_reducible refine q_retI ?_ | with_reducible refine q_contI ?_ | with_reducible refine q_brkI ?_ | with_reducible refine ss_nilI ?_ | rw [q_next] | rw [q_ret] | rw [q_cont] | rw [q_brk] | rw [ss_nil])); (try simp only [r_next, r_ret])))
    have e1 : ((2 * p' + 1 : Nat) : Int) + 1 = (2 * p' + 2 : Nat) := by omega
    rw [e1]
    ((with_reducible refine go_cons ?_); ((try simp only [e_int, e_bool, e_none, e_str, e_var, e_bin, e_neg, n_int, e_not, e_cmp, e_and, e_or, e_ite, e_sub, e_slice, e_list, e_tuple, e_call, e_ucall, e_meth, e_comp, e_gfn, e_vcall, e_sortk, e_mink, e_ucalld, e_ucallk, s_forx, s_tryLen, s_zipc, t_not, t_and, t_or, t_cmp, t_var, t_sub, t_call, t_ucall, s_expr, s_assign, s_setitem, s_aug, s_augi, s_ifs, s_while, s_for, s_ret, s_brk, s_cont, ss_nil, c_range1, c_range2, c_range3, i_rng, i_ref, i_tup, i_enm, i_rev, bt_name, bt_tup, look_zero, look_succ, r_next, r_ret, sa_nil, sa_cons, es_nil, es_cons, o_none, o_some, ts_nil, ts_cons, c_lt, c_le, c_gt, c_ge, c_eq, c_ne, b_add, b_sub, b_mul, b_div, b_mod, b_pow, b_shr, a_add, a_mul, t_bool, t_int, List.map, List.cons_append, List.nil_append, List.getElem?_cons_succ, List.getElem?_cons_zero, List.set_cons_succ, List.set_cons_zero, frOf]); (repeat (first | with_reducible refine q_nextI ?_ | with_reducible refine q_retI ?_ | with_reducible refine q_contI ?_ | with_reducible refine q_brkI ?_ | with_reducible refine ss_nilI ?_ | rw [q_next] | rw [q_ret] | rw [q_cont] | rw [q_brk] | rw [ss_nil])); (try simp only [r_next, r_ret])))
    by_cases hr : 2 * p' + 2 < ns'.length
    · rw [decide_eq_true (by omega), if_pos rfl]
      refine opSub_list (upd_same _ _ _) (map_at x hr) ?_
      refine opSub_list (upd_same _ _ _) (map_at x hc) ?_
      refine hlt _ _ (hP' _ (getD_mem hr)) (hP' _ (getD_mem hc)) _ _ ?_
      ((try simp only [e_int, e_bool, e_none, e_str, e_var, e_bin, e_neg, n_int, e_not, e_cmp, e_and, e_or, e_ite, e_sub, e_slice, e_list, e_tuple, e_call, e_ucall, e_meth, e_comp, e_gfn, e_vcall, e_sortk, e_mink, e_ucalld, e_ucallk, s_forx, s_tryLen, s_zipc, t_not, t_and, t_or, t_cmp, t_var, t_sub, t_call, t_ucall, s_expr, s_assign, s_setitem, s_aug, s_augi, s_ifs, s_while, s_for, s_ret, s_brk, s_cont, ss_nil, c_range1, c_range2, c_range3, i_rng, i_ref, i_tup, i_enm, i_rev, bt_name, bt_tup, look_zero, look_succ, r_next, r_ret, sa_nil, sa_cons, es_nil, es_cons, o_none, o_some, ts_nil, ts_cons, c_lt, c_le, c_gt, c_ge, c_eq, c_ne, b_add, b_sub, b_mul, b_div, b_mod, b_pow, b_shr, a_add, a_mul, t_bool, t_int, List.map, List.cons_append, List.nil_append, List.getElem?_cons_succ, List.getElem?_cons_zero, List.set_cons_succ, List.set_cons_zero, frOf]); (repeat (first | with_reducible refine q_nextI ?_ | with_reducible refine q_retI ?_ | with_reducible refine q_contI ?_ | with_reducible refine q_brkI ?_ | with_reducible refine ss_nilI ?_ | rw [q_next] | rw [q_ret] | rw [q_cont] | rw [q_brk] | rw [ss_nil])); (try simp only [r_next, r_ret]))
      by_cases c : lt (ns'.getD (2 * p' + 2) x) (ns'.getD (2 * p' + 1) x) = true
      · have ke : kid lt x ns' p' = 2 * p' + 1 := by unfold kid; rw [if_neg]; rintro ⟨_, h⟩; rw [c] at h; cases h
        rw [ke] at fin
        rw [c, if_neg (by decide)]
        ((try simp only [e_int, e_bool, e_none, e_str, e_var, e_bin, e_neg, n_int, e_not, e_cmp, e_and, e_or, e_ite, e_sub, e_slice, e_list, e_tuple, e_call, e_ucall, e_meth, e_comp, e_gfn, e_vcall, e_sortk, e_mink, e_ucalld, e_ucallk, s_forx, s_tryLen, s_zipc, t_not, t_and, t_or, t_cmp, t_var, t_sub, t_call, t_ucall, s_expr, s_assign, s_setitem, s_aug, s_augi, s_ifs, s_while, s_for, s_ret, s_brk, s_cont, ss_nil, c_range1, c_range2, c_range3, i_rng, i_ref, i_tup, i_enm, i_rev, bt_name, bt_tup, look_zero, look_succ, r_next, r_ret, sa_nil, sa_cons, es_nil, es_cons, o_none, o_some, ts_nil, ts_cons, c_lt, c_le, c_gt, c_ge, c_eq, c_ne, b_add, b_sub, b_mul, b_div, b_mod, b_pow, b_shr, a_add, a_mul, t_bool, t_int, List.map, List.cons_append, List.nil_append, List.getElem?_cons_succ, List.getElem?_cons_zero, List.set_cons_succ, List.set_cons_zero, frOf]); (repeat (first | with_reducible refine q_nextI ?_ | with_reducible refine q_retI ?_ | with_reducible refine q_contI ?_ | with_reducible refine q_brkI ?_ | with_reducible refine ss_nilI ?_ | rw [q_next] | rw [q_ret] | rw [q_cont] | rw [q_brk] | rw [ss_nil])); (try simp only [r_next, r_ret]))
        exact fin _
      · have c := Bool.eq_false_iff.mpr c
        have ke : kid lt x ns' p' = 2 * p' + 2 := by unfold kid; rw [if_pos ⟨hr, c⟩]
        rw [ke] at fin
        rw [c, if_pos (by decide)]
        ((with_reducible refine go_cons ?_); ((try simp only [e_int, e_bool, e_none, e_str, e_var, e_bin, e_neg, n_int, e_not, e_cmp, e_and, e_or, e_ite, e_sub, e_slice, e_list, e_tuple, e_call, e_ucall, e_meth, e_comp, e_gfn, e_vcall, e_sortk, e_mink, e_ucalld, e_ucallk, s_forx, s_tryLen, s_zipc, t_not, t_and, t_or, t_cmp, t_var, t_sub, t_call, t_ucall, s_expr, s_assign, s_setitem, s_aug, s_augi, s_ifs, s_while, s_for, s_ret, s_brk, s_cont, ss_nil, c_range1, c_range2, c_range3, i_rng, i_ref, i_tup, i_enm, i_rev, bt_name, bt_tup, look_zero, look_succ, r_next, r_ret, sa_nil, sa_cons, es_nil, es_cons, o_none, o_some, ts_nil, ts_cons, c_lt, c_le, c_gt, c_ge, c_eq, c_ne, b_add, b_sub, b_mul, b_div, b_mod, b_pow, b_shr, a_add, a_mul, t_bool, t_int, List.map, List.cons_append, List.nil_append, List.getElem?_cons_succ, List.getElem?_cons_zero, List.set_cons_succ, List.set_cons_zero, frOf]); (repeat (first | with_reducible refine q_nextI ?_ | with_reducible refine q_retI ?_ | with_reducible refine q_contI ?_ | with_reducible refine q_brkI ?_ | with_reducible refine ss_nilI ?_ | rw [q_next] | rw [q_ret] | rw [q_cont] | rw [q_brk] | rw [ss_nil])); (try simp only [r_next, r_ret])))
        exact fin _
    · rw [decide_eq_false (by omega), if_neg (by decide), if_neg (by decide)]
      ((try simp only [e_int, e_bool, e_none, e_str, e_var, e_bin, e_neg, n_int, e_not, e_cmp, e_and, e_or, e_ite, e_sub, e_slice, e_list, e_tuple, e_call, e_ucall, e_meth, e_comp, e_gfn, e_vcall, e_sortk, e_mink, e_ucalld, e_ucallk, s_forx, s_tryLen, s_zipc, t_not, t_and, t_or, t_cmp, t_var, t_sub, t_call, t_ucall, s_expr, s_assign, s_setitem, s_aug, s_augi, s_ifs, s_while, s_for, s_ret, s_brk, s_cont, ss_nil, c_range1, c_range2, c_range3, i_rng, i_ref, i_tup, i_enm, i_rev, bt_name, bt_tup, look_zero, look_succ, r_next, r_ret, sa_nil, sa_cons, es_nil, es_cons, o_none, o_some, ts_nil, ts_cons, c_lt, c_le, c_gt, c_ge, c_eq, c_ne, b_add, b_sub, b_mul, b_div, b_mod, b_pow, b_shr, a_add, a_mul, t_bool, t_int, List.map, List.cons_append, List.nil_append, List.getElem?_cons_succ, List.getElem?_cons_zero, List.set_cons_succ, List.set_cons_zero, frOf]); (repeat (first | with_reducible refine q_nextI ?_ | with_reducible refine q_retI ?_ | with_reducible refine q_contI ?_ | with_reducible refine q_brkI ?_ | with_reducible refine ss_nilI ?_ | rw [q_next] | rw [q_ret] | rw [q_cont] | rw [q_brk] | rw [ss_nil])); (try simp only [r_next, r_ret]))
      have ke : kid lt x ns' p' = 2 * p' + 1 := by unfold kid; rw [if_neg]; exact fun h => hr h.1
      rw [ke] at fin
      exact fin _
  · rw [decide_eq_false (by omega), if_neg (by decide)]
    ((try simp only [e_int, e_bool, e_none, e_str, e_var, e_bin, e_neg, n_int, e_not, e_cmp, e_and, e_or, e_ite, e_sub, e_slice, e_list, e_tuple, e_call, e_ucall, e_meth, e_comp, e_gfn, e_vcall, e_sortk, e_mink, e_ucalld, e_ucallk, s_forx, s_tryLen, s_zipc, t_not, t_and, t_or, t_cmp, t_var, t_sub, t_call, t_ucall, s_expr, s_assign, s_setitem, s_aug, s_augi, s_ifs, s_while, s_for, s_ret, s_brk, s_cont, ss_nil, c_range1, c_range2, c_range3, i_rng, i_ref, i_tup, i_enm, i_rev, bt_name, bt_tup, look_zero, look_succ, r_next, r_ret, sa_nil, sa_cons, es_nil, es_cons, o_none, o_some, ts_nil, ts_cons, c_lt, c_le, c_gt, c_ge, c_eq, c_ne, b_add, b_sub, b_mul, b_div, b_mod, b_pow, b_shr, a_add, a_mul, t_bool, t_int, List.map, List.cons_append, List.nil_append, List.getElem?_cons_succ, List.getElem?_cons_zero, List.set_cons_succ, List.set_cons_zero, frOf]); (repeat (first | with_reducible refine q_nextI ?_ | with_reducible refine q_retI ?_ | with_reducible refine q_contI ?_ | with_reducible refine q_brkI ?_ | with_reducible refine ss_nilI ?_ | rw [q_next] | rw [q_ret] | rw [q_cont] | rw [q_brk] | rw [ss_nil])); (try simp only [r_next, r_ret]))
    ((with_reducible refine go_cons ?_); ((try simp only [e_int, e_bool, e_none, e_str, e_var, e_bin, e_neg, n_int, e_not, e_cmp, e_and, e_or, e_ite, e_sub, e_slice, e_list, e_tuple, e_call, e_ucall, e_meth, e_comp, e_gfn, e_vcall, e_sortk, e_mink, e_ucalld, e_ucallk, s_forx, s_tryLen, s_zipc, t_not, t_and, t_or, t_cmp, t_var, t_sub, t_call, t_ucall, s_expr, s_assign, s_setitem, s_aug, s_augi, s_ifs, s_while, s_for, s_ret, s_brk, s_cont, ss_nil, c_range1, c_range2, c_range3, i_rng, i_ref, i_tup, i_enm, i_rev, bt_name, bt_tup, look_zero, look_succ, r_next, r_ret, sa_nil, sa_cons, es_nil, es_cons, o_none, o_some, ts_nil, ts_cons, c_lt, c_le, c_gt, c_ge, c_eq, c_ne, b_add, b_sub, b_mul, b_div, b_mod, b_pow, b_shr, a_add, a_mul, t_bool, t_int, List.map, List.cons_append, List.nil_append, List.getElem?_cons_succ, List.getElem?_cons_zero, List.set_cons_succ, List.set_cons_zero, frOf]); (repeat (first | with_reducible refine q_nextI ?_ | with_reducible refine q_retI ?_ | with_reducible refine q_contI ?_ | with_reducible refine q_brkI ?_ | with_reducible refine ss_nilI ?_ | rw [q_next] | rw [q_ret] | rw [q_cont] | rw [q_brk] | rw [ss_nil])); (try simp only [r_next, r_ret])))
    refine opSet_list (upd_same _ _ _) (by rw [List.length_map]; omega) ?_
    rw [upd_upd]
    ((try simp only [e_int, e_bool, e_none, e_str, e_var, e_bin, e_neg, n_int, e_not, e_cmp, e_and, e_or, e_ite, e_sub, e_slice, e_list, e_tuple, e_call, e_ucall, e_meth, e_comp, e_gfn, e_vcall, e_sortk, e_mink, e_ucalld, e_ucallk, s_forx, s_tryLen, s_zipc, t_not, t_and, t_or, t_cmp, t_var, t_sub, t_call, t_ucall, s_expr, s_assign, s_setitem, s_aug, s_augi, s_ifs, s_while, s_for, s_ret, s_brk, s_cont, ss_nil, c_range1, c_range2, c_range3, i_rng, i_ref, i_tup, i_enm, i_rev, bt_name, bt_tup, look_zero, look_succ, r_next, r_ret, sa_nil, sa_cons, es_nil, es_cons, o_none, o_some, ts_nil, ts_cons, c_lt, c_le, c_gt, c_ge, c_eq, c_ne, b_add, b_sub, b_mul, b_div, b_mod, b_pow, b_shr, a_add, a_mul, t_bool, t_int, List.map, List.cons_append, List.nil_append, List.getElem?_cons_succ, List.getElem?_cons_zero, List.set_cons_succ, List.set_cons_zero, frOf]); (repeat (first | with_reducible refine q_nextI ?_ | with_reducible refine q_retI ?_ | with_reducible refine q_contI ?_ | with_reducible refine q_brkI ?_ | with_reducible refine ss_nilI ?_ | rw [q_next] | rw [q_ret] | rw [q_cont] | rw [q_brk] | rw [ss_nil])); (try simp only [r_next, r_ret]))
    ((with_reducible refine go_cons ?_); ((try simp only [e_int, e_bool, e_none, e_str, e_var, e_bin, e_neg, n_int, e_not, e_cmp, e_and, e_or, e_ite, e_sub, e_slice, e_list, e_tuple, e_call, e_ucall, e_meth, e_comp, e_gfn, e_vcall, e_sortk, e_mink, e_ucalld, e_ucallk, s_forx, s_tryLen, s_zipc, t_not, t_and, t_or, t_cmp, t_var, t_sub, t_call, t_ucall, s_expr, s_assign, s_setitem, s_aug, s_augi, s_ifs, s_while, s_for, s_ret, s_brk, s_cont, ss_nil, c_range1, c_range2, c_range3, i_rng, i_ref, i_tup, i_enm, i_rev, bt_name, bt_tup, look_zero, look_succ, r_next, r_ret, sa_nil, sa_cons, es_nil, es_cons, o_none, o_some, ts_nil, ts_cons, c_lt, c_le, c_gt, c_ge, c_eq, c_ne, b_add, b_sub, b_mul, b_div, b_mod, b_pow, b_shr, a_add, a_mul, t_bool, t_int, List.map, List.cons_append, List.nil_append, List.getElem?_cons_succ, List.getElem?_cons_zero, List.set_cons_succ, List.set_cons_zero, frOf]); (repeat (first | with_reducible refine q_nextI ?_ | with_reducible refine q_retI ?_ | with_reducible refine q_contI ?_ | with_reducible refine q_brkI ?_ | with_reducible refine ss_nilI ?_ | rw [q_next] | rw [q_ret] | rw [q_cont] | rw [q_brk] | rw [ss_nil])); (try simp only [r_next, r_ret])))
    have de : downF lt x ns p = (ns', p') := by rw [← eq, downF, dif_neg hc]
    refine hΦ _ _ _ ⟨α, f, lt, P, a, ns'.set p' x, p, p', x, rfl, by rw [upd_same, List.map_set], by rw [List.getElem?_set_self (by omega)], ?_, hlt.upd _, ?_⟩
    · intro y hy
      rcases mem_set hy with h | rfl
      · exact hP' _ h
      · exact hx'
    · rw [upd_upd]
      ((try simp only [e_int, e_bool, e_none, e_str, e_var, e_bin, e_neg, n_int, e_not, e_cmp, e_and, e_or, e_ite, e_sub, e_slice, e_list, e_tuple, e_call, e_ucall, e_meth, e_comp, e_gfn, e_vcall, e_sortk, e_mink, e_ucalld, e_ucallk, s_forx, s_tryLen, s_zipc, t_not, t_and, t_or, t_cmp, t_var, t_sub, t_call, t_ucall, s_expr, s_assign, s_setitem, s_aug, s_augi, s_ifs, s_while, s_for, s_ret, s_brk, s_cont, ss_nil, c_range1, c_range2, c_range3, i_rng, i_ref, i_tup, i_enm, i_rev, bt_name, bt_tup, look_zero, look_succ, r_next, r_ret, sa_nil, sa_cons, es_nil, es_cons, o_none, o_some, ts_nil, ts_cons, c_lt, c_le, c_gt, c_ge, c_eq, c_ne, b_add, b_sub, b_mul, b_div, b_mod, b_pow, b_shr, a_add, a_mul, t_bool, t_int, List.map, List.cons_append, List.nil_append, List.getElem?_cons_succ, List.getElem?_cons_zero, List.set_cons_succ, List.set_cons_zero, frOf]); (repeat (first | with_reducible refine q_nextI ?_ | with_reducible refine q_retI ?_ | with_reducible refine q_contI ?_ | with_reducible refine q_brkI ?_ | with_reducible refine ss_nilI ?_ | rw [q_next] | rw [q_ret] | rw [q_cont] | rw [q_brk] | rw [ss_nil])); (try simp only [r_next, r_ret]))
      unfold siftF at q
      rw [de] at q
      exact q

/-! H1 -/
inductive heapreplaceC (args : List V) (Q : V → Hp → Prop) (σ : Hp) : Prop
  | mk (α : Type) (f : α → V) (lt : α → α → Bool) (P : α → Prop) (a : Addr) (ns : List α) (x y : α) (h1 : args = [.ref a, f y]) (h2 : σ a = some (.list (ns.map f))) (h3 : ns[0]? = some x) (h4 : P y) (h5 : (∀ z ∈ ns, P z)) (h6 : LtOn σ a f lt P) (h7 : ns.length ≤ BIG) (h8 : Q (f x) (upd σ a (.list ((siftF lt (ns.set 0 y) 0 y).map f)))) : heapreplaceC args Q σ
inductive heapifyC (args : List V) (Q : V → Hp → Prop) (σ : Hp) : Prop
  | mk (α : Type) (f : α → V) (lt : α → α → Bool) (P : α → Prop) (a : Addr) (ns : List α) (h1 : args = [.ref a]) (h2 : σ a = some (.list (ns.map f))) (h3 : (∀ z ∈ ns, P z)) (h4 : LtOn σ a f lt P) (h5 : ns.length ≤ BIG) (h6 : Q .none (upd σ a (.list ((heapifyF lt ns).map f)))) : heapifyC args Q σ
noncomputable def ps_heapreplace (i : Nat) : List PS := [.assign (.name 2) (.sub (.var 0) (.int 0)), .setitem (.var 0) (.int 0) (.var 1), .expr (.ucall i [(.var 0), (.int 0)]), .ret (.var 2)]
noncomputable def ps_heapify (i : Nat) : List PS := [.assign (.name 1) (.call .len [(.var 0)]), .for (.name 2) .rev (.call .range [(.bin .FloorDiv (.var 1) (.int 2))]) [.expr (.ucall i [(.var 0), (.var 2)])]]
theorem heapreplace_v (Φ : Fns) (i : Nat) (hΦ : ∀ args Q σ, siftupC args Q σ → Φ i args Q σ) (args : List V) (Q : V → Hp → Prop) (σ : Hp) (F : Frm) (h : heapreplaceC args Q σ) (hF : F = args.map some ++ [none]) : vSs Φ (ps_heapreplace i) (retV Q) F σ := by
  obtain ⟨α, f, lt, P, a, ns, x, y, rfl, hσ, hx, hy, hP, hlt, hbig, q⟩ := h
  subst hF
  have hp : 0 < ns.length := lt_of_some hx
  unfold ps_heapreplace
  ((with_reducible refine go_cons ?_); ((try simp only [e_int, e_bool, e_none, e_str, e_var, e_bin, e_neg, n_int, e_not, e_cmp, e_and, e_or, e_ite, e_sub, e_slice, e_list, e_tuple, e_call, e_ucall, e_meth, e_comp, e_gfn, e_vcall, e_sortk, e_mink, e_ucalld, e_ucallk, s_forx, s_tryLen, s_zipc, t_not, t_and, t_or, t_cmp, t_var, t_sub, t_call, t_ucall, s_expr, s_assign, s_setitem, s_aug, s_augi, s_ifs, s_while, s_for, s_ret, s_brk, s_cont, ss_nil, c_range1, c_range2, c_range3, i_rng, i_ref, i_tup, i_enm, i_rev, bt_name, bt_tup, look_zero, look_succ, r_next, r_ret, sa_nil, sa_cons, es_nil, es_cons, o_none, o_some, ts_nil, ts_cons, c_lt, c_le, c_gt, c_ge, c_eq, c_ne, b_add, b_sub, b_mul, b_div, b_mod, b_pow, b_shr, a_add, a_mul, t_bool, t_int, List.map, List.cons_append, List.nil_append, List.getElem?_cons_succ, List.getElem?_cons_zero, List.set_cons_succ, List.set_cons_zero, frOf]); (repeat (first | with_reducible refine q_nextI ?_ | with_reducible refine q_retI ?_ | with_reducible refine q_contI ?_ | with_reducible refine q_brkI ?_ | with_reducible refine ss_nilI ?_ | rw [q_next] | rw [q_ret] | rw [q_cont] | rw [q_brk] | rw [ss_nil])); (try simp only [r_next, r_ret])))
  refine opSub_list (k := 0) hσ (x := f x) (by rw [List.getElem?_map, hx]; rfl) ?_
  ((try simp only [e_int, e_bool, e_none, e_str, e_var, e_bin, e_neg, n_int, e_not, e_cmp, e_and, e_or, e_ite, e_sub, e_slice, e_list, e_tuple, e_call, e_ucall, e_meth, e_comp, e_gfn, e_vcall, e_sortk, e_mink, e_ucalld, e_ucallk, s_forx, s_tryLen, s_zipc, t_not, t_and, t_or, t_cmp, t_var, t_sub, t_call, t_ucall, s_expr, s_assign, s_setitem, s_aug, s_augi, s_ifs, s_while, s_for, s_ret, s_brk, s_cont, ss_nil, c_range1, c_range2, c_range3, i_rng, i_ref, i_tup, i_enm, i_rev, bt_name, bt_tup, look_zero, look_succ, r_next, r_ret, sa_nil, sa_cons, es_nil, es_cons, o_none, o_some, ts_nil, ts_cons, c_lt, c_le, c_gt, c_ge, c_eq, c_ne, b_add, b_sub, b_mul, b_div, b_mod, b_pow, b_shr, a_add, a_mul, t_bool, t_int, List.map, List.cons_append, List.nil_append, List.getElem?_cons_succ, List.getElem?_cons_zero, List.set_cons_succ, List.set_cons_zero, frOf]); (repeat (first | with_reducible refine q_nextI ?_ | with_reducible refine q_retI ?_ | with_reducible refine q_contI ?_ | with_reducible refine q_brkI ?_ | with_reducible refine ss_nilI ?_ | rw [q_next] | rw [q_ret] | rw [q_cont] | rw [q_brk] | rw [ss_nil])); (try simp only [r_next, r_ret]))
  ((with_reducible refine go_cons ?_); ((try simp only [e_int, e_bool, e_none, e_str, e_var, e_bin, e_neg, n_int, e_not, e_cmp, e_and, e_or, e_ite, e_sub, e_slice, e_list, e_tuple, e_call, e_ucall, e_meth, e_comp, e_gfn, e_vcall, e_sortk, e_mink, e_ucalld, e_ucallk, s_forx, s_tryLen, s_zipc, t_not, t_and, t_or, t_cmp, t_var, t_sub, t_call, t_ucall, s_expr, s_assign, s_setitem, s_aug, s_augi, s_ifs, s_while, s_for, s_ret, s_brk, s_cont, ss_nil, c_range1, c_range2, c_range3, i_rng, i_ref, i_tup, i_enm, i_rev, bt_name, bt_tup, look_zero, look_succ, r_next, r_ret, sa_nil, sa_cons, es_nil, es_cons, o_none, o_some, ts_nil, ts_cons, c_lt, c_le, c_gt, c_ge, c_eq, c_ne, b_add, b_sub, b_mul, b_div, b_mod, b_pow, b_shr, a_add, a_mul, t_bool, t_int, List.map, List.cons_append, List.nil_append, List.getElem?_cons_succ, List.getElem?_cons_zero, List.set_cons_succ, List.set_cons_zero, frOf]); (repeat (first | with_reducible refine q_nextI ?_ | with_reducible refine q_retI ?_ | with_reducible refine q_contI ?_ | with_reducible refine q_brkI ?_ | with_reducible refine ss_nilI ?_ | rw [q_next] | rw [q_ret] | rw [q_cont] | rw [q_brk] | rw [ss_nil])); (try simp only [r_next, r_ret])))
  refine opSet_list (k := 0) hσ (by rw [List.length_map]; omega) ?_
  ((try simp only [e_int, e_bool, e_none, e_str, e_var, e_bin, e_neg, n_int, e_not, e_cmp, e_and, e_or, e_ite, e_sub, e_slice, e_list, e_tuple, e_call, e_ucall, e_meth, e_comp, e_gfn, e_vcall, e_sortk, e_mink, e_ucalld, e_ucallk, s_forx, s_tryLen, s_zipc, t_not, t_and, t_or, t_cmp, t_var, t_sub, t_call, t_ucall, s_expr, s_assign, s_setitem, s_aug, s_augi, s_ifs, s_while, s_for, s_ret, s_brk, s_cont, ss_nil, c_range1, c_range2, c_range3, i_rng, i_ref, i_tup, i_enm, i_rev, bt_name, bt_tup, look_zero, look_succ, r_next, r_ret, sa_nil, sa_cons, es_nil, es_cons, o_none, o_some, ts_nil, ts_cons, c_lt, c_le, c_gt, c_ge, c_eq, c_ne, b_add, b_sub, b_mul, b_div, b_mod, b_pow, b_shr, a_add, a_mul, t_bool, t_int, List.map, List.cons_append, List.nil_append, List.getElem?_cons_succ, List.getElem?_cons_zero, List.set_cons_succ, List.set_cons_zero, frOf]); (repeat (first | with_reducible refine q_nextI ?_ | with_reducible refine q_retI ?_ | with_reducible refine q_contI ?_ | with_reducible refine q_brkI ?_ | with_reducible refine ss_nilI ?_ | rw [q_next] | rw [q_ret] | rw [q_cont] | rw [q_brk] | rw [ss_nil])); (try simp only [r_next, r_ret]))
  ((with_reducible refine go_cons ?_); ((try simp only [e_int, e_bool, e_none, e_str, e_var, e_bin, e_neg, n_int, e_not, e_cmp, e_and, e_or, e_ite, e_sub, e_slice, e_list, e_tuple, e_call, e_ucall, e_meth, e_comp, e_gfn, e_vcall, e_sortk, e_mink, e_ucalld, e_ucallk, s_forx, s_tryLen, s_zipc, t_not, t_and, t_or, t_cmp, t_var, t_sub, t_call, t_ucall, s_expr, s_assign, s_setitem, s_aug, s_augi, s_ifs, s_while, s_for, s_ret, s_brk, s_cont, ss_nil, c_range1, c_range2, c_range3, i_rng, i_ref, i_tup, i_enm, i_rev, bt_name, bt_tup, look_zero, look_succ, r_next, r_ret, sa_nil, sa_cons, es_nil, es_cons, o_none, o_some, ts_nil, ts_cons, c_lt, c_le, c_gt, c_ge, c_eq, c_ne, b_add, b_sub, b_mul, b_div, b_mod, b_pow, b_shr, a_add, a_mul, t_bool, t_int, List.map, List.cons_append, List.nil_append, List.getElem?_cons_succ, List.getElem?_cons_zero, List.set_cons_succ, List.set_cons_zero, frOf]); (repeat (first | with_reducible refine q_nextI ?_ | with_reducible refine q_retI ?_ | with_reducible refine q_contI ?_ | with_reducible refine q_brkI ?_ | with_reducible refine ss_nilI ?_ | rw [q_next] | rw [q_ret] | rw [q_cont] | rw [q_brk] | rw [ss_nil])); (try simp only [r_next, r_ret])))
  refine hΦ _ _ _ ⟨α, f, lt, P, a, ns.set 0 y, 0, y, rfl, by rw [upd_same, List.map_set], by rw [List.getElem?_set_self hp], ?_, hlt.upd _, by rw [List.length_set]; exact hbig, ?_⟩
  · intro z hz
    rcases mem_set hz with h | rfl
    · exact hP _ h
    · exact hy
  · rw [upd_upd]
    ((try simp only [e_int, e_bool, e_none, e_str, e_var, e_bin, e_neg, n_int, e_not, e_cmp, e_and, e_or, e_ite, e_sub, e_slice, e_list, e_tuple, e_call, e_ucall, e_meth, e_comp, e_gfn, e_vcall, e_sortk, e_mink, e_ucalld, e_ucallk, s_forx, s_tryLen, s_zipc, t_not, t_and, t_or, t_cmp, t_var, t_sub, t_call, t_ucall, s_expr, s_assign, s_setitem, s_aug, s_augi, s_ifs, s_while, s_for, s_ret, s_brk, s_cont, ss_nil, c_range1, c_range2, c_range3, i_rng, i_ref, i_tup, i_enm, i_rev, bt_name, bt_tup, look_zero, look_succ, r_next, r_ret, sa_nil, sa_cons, es_nil, es_cons, o_none, o_some, ts_nil, ts_cons, c_lt, c_le, c_gt, c_ge, c_eq, c_ne, b_add, b_sub, b_mul, b_div, b_mod, b_pow, b_shr, a_add, a_mul, t_bool, t_int, List.map, List.cons_append, List.nil_append, List.getElem?_cons_succ, List.getElem?_cons_zero, List.set_cons_succ, List.set_cons_zero, frOf]); (repeat (first | with_reducible refine q_nextI ?_ | with_reducible refine q_retI ?_ | with_reducible refine q_contI ?_ | with_reducible refine q_brkI ?_ | with_reducible refine ss_nilI ?_ | rw [q_next] | rw [q_ret] | rw [q_cont] | rw [q_brk] | rw [ss_nil])); (try simp only [r_next, r_ret]))
    ((with_reducible refine go_cons ?_); ((try simp only [e_int, e_bool, e_none, e_str, e_var, e_bin, e_neg, n_int, e_not, e_cmp, e_and, e_or, e_ite, e_sub, e_slice, e_list, e_tuple, e_call, e_ucall, e_meth, e_comp, e_gfn, e_vcall, e_sortk, e_mink, e_ucalld, e_ucallk, s_forx, s_tryLen, s_zipc, t_not, t_and, t_or, t_cmp, t_var, t_sub, t_call, t_ucall, s_expr, s_assign, s_setitem, s_aug, s_augi, s_ifs, s_while, s_for, s_ret, s_brk, s_cont, ss_nil, c_range1, c_range2, c_range3, i_rng, i_ref, i_tup, i_enm, i_rev, bt_name, bt_tup, look_zero, look_succ, r_next, r_ret, sa_nil, sa_cons, es_nil, es_cons, o_none, o_some, ts_nil, ts_cons, c_lt, c_le, c_gt, c_ge, c_eq, c_ne, b_add, b_sub, b_mul, b_div, b_mod, b_pow, b_shr, a_add, a_mul, t_bool, t_int, List.map, List.cons_append, List.nil_append, List.getElem?_cons_succ, List.getElem?_cons_zero, List.set_cons_succ, List.set_cons_zero, frOf]); (repeat (first | with_reducible refine q_nextI ?_ | with_reducible refine q_retI ?_ | with_reducible refine q_contI ?_ | with_reducible refine q_brkI ?_ | with_reducible refine ss_nilI ?_ | rw [q_next] | rw [q_ret] | rw [q_cont] | rw [q_brk] | rw [ss_nil])); (try simp only [r_next, r_ret])))
    exact q
theorem siftAt_mem {α : Type} {lt : α → α → Bool} {ns : List α} {p : Nat} {y : α} (h : y ∈ siftAt lt ns p) : y ∈ ns := by
  unfold siftAt at h
  split at h
  · rename_i x hx
    have hxm := List.mem_of_getElem? hx
    have up : ∀ (s p : Nat) (ns' : List α), (∀ z ∈ ns', z ∈ ns) → ∀ z ∈ upF lt s x ns' p, z ∈ ns := by
      intro s p
      induction p using Nat.strongRecOn with
      | ind p ih =>
        intro ns' hn z hz
        rw [upF] at hz
        split at hz
        · split at hz
          · refine ih _ (by omega) _ (fun u hu => ?_) z hz
            rcases mem_set hu with h | rfl
            · exact hn _ h
            · rcases Nat.lt_or_ge ((p - 1) / 2) ns'.length with hl | hl
              · exact hn _ (getD_mem hl)
              · rw [List.getD_eq_getElem?_getD, List.getElem?_eq_none hl]; exact hxm
          · rcases mem_set hz with h | rfl
            · exact hn _ h
            · exact hxm
        · rcases mem_set hz with h | rfl
          · exact hn _ h
          · exact hxm
    have dn : ∀ (k : Nat) (ns' : List α) (p : Nat), ns'.length - p ≤ k → (∀ z ∈ ns', z ∈ ns) → ∀ z ∈ (downF lt x ns' p).1, z ∈ ns := by
      intro k
      induction k with
      | zero => intro ns' p hk hn z hz; rw [downF, dif_neg (by omega)] at hz; exact hn z hz
      | succ k ih =>
        intro ns' p hk hn z hz
        rw [downF] at hz
        split at hz
        · rename_i hc
          have g := kid_gt lt x ns' p
          refine ih _ _ (by simp only [List.length_set]; omega) (fun u hu => ?_) z hz
          rcases mem_set hu with h | rfl
          · exact hn _ h
          · exact hn _ (getD_mem (kid_lt lt x ns' p hc))
        · exact hn z hz
    refine up _ _ _ (fun u hu => ?_) y h
    rcases mem_set hu with h | rfl
    · exact dn _ _ _ (Nat.le_refl _) (fun _ h => h) _ h
    · exact hxm
  · exact h
theorem heapify_v (Φ : Fns) (i : Nat) (hΦ : ∀ args Q σ, siftupC args Q σ → Φ i args Q σ) (args : List V) (Q : V → Hp → Prop) (σ : Hp) (F : Frm) (h : heapifyC args Q σ) (hF : F = args.map some ++ [none, none]) : vSs Φ (ps_heapify i) (retV Q) F σ := by
  obtain ⟨α, f, lt, P, a, ns, rfl, hσ, hP, hlt, hbig, q⟩ := h
  subst hF
  have hb := hbig
  unfold BIG at hb
  unfold ps_heapify
  ((with_reducible refine go_cons ?_); ((try simp only [e_int, e_bool, e_none, e_str, e_var, e_bin, e_neg, n_int, e_not, e_cmp, e_and, e_or, e_ite, e_sub, e_slice, e_list, e_tuple, e_call, e_ucall, e_meth, e_comp, e_gfn, e_vcall, e_sortk, e_mink, e_ucalld, e_ucallk, s_forx, s_tryLen, s_zipc, t_not, t_and, t_or, t_cmp, t_var, t_sub, t_call, t_ucall, s_expr, s_assign, s_setitem, s_aug, s_augi, s_ifs, s_while, s_for, s_ret, s_brk, s_cont, ss_nil, c_range1, c_range2, c_range3, i_rng, i_ref, i_tup, i_enm, i_rev, bt_name, bt_tup, look_zero, look_succ, r_next, r_ret, sa_nil, sa_cons, es_nil, es_cons, o_none, o_some, ts_nil, ts_cons, c_lt, c_le, c_gt, c_ge, c_eq, c_ne, b_add, b_sub, b_mul, b_div, b_mod, b_pow, b_shr, a_add, a_mul, t_bool, t_int, List.map, List.cons_append, List.nil_append, List.getElem?_cons_succ, List.getElem?_cons_zero, List.set_cons_succ, List.set_cons_zero, frOf]); (repeat (first | with_reducible refine q_nextI ?_ | with_reducible refine q_retI ?_ | with_reducible refine q_contI ?_ | with_reducible refine q_brkI ?_ | with_reducible refine ss_nilI ?_ | rw [q_next] | rw [q_ret] | rw [q_cont] | rw [q_brk] | rw [ss_nil])); (try simp only [r_next, r_ret])))
  refine call_len (listAt_list hσ) ?_
  rw [List.length_map]
  ((try simp only [e_int, e_bool, e_none, e_str, e_var, e_bin, e_neg, n_int, e_not, e_cmp, e_and, e_or, e_ite, e_sub, e_slice, e_list, e_tuple, e_call, e_ucall, e_meth, e_comp, e_gfn, e_vcall, e_sortk, e_mink, e_ucalld, e_ucallk, s_forx, s_tryLen, s_zipc, t_not, t_and, t_or, t_cmp, t_var, t_sub, t_call, t_ucall, s_expr, s_assign, s_setitem, s_aug, s_augi, s_ifs, s_while, s_for, s_ret, s_brk, s_cont, ss_nil, c_range1, c_range2, c_range3, i_rng, i_ref, i_tup, i_enm, i_rev, bt_name, bt_tup, look_zero, look_succ, r_next, r_ret, sa_nil, sa_cons, es_nil, es_cons, o_none, o_some, ts_nil, ts_cons, c_lt, c_le, c_gt, c_ge, c_eq, c_ne, b_add, b_sub, b_mul, b_div, b_mod, b_pow, b_shr, a_add, a_mul, t_bool, t_int, List.map, List.cons_append, List.nil_append, List.getElem?_cons_succ, List.getElem?_cons_zero, List.set_cons_succ, List.set_cons_zero, frOf]); (repeat (first | with_reducible refine q_nextI ?_ | with_reducible refine q_retI ?_ | with_reducible refine q_contI ?_ | with_reducible refine q_brkI ?_ | with_reducible refine ss_nilI ?_ | rw [q_next] | rw [q_ret] | rw [q_cont] | rw [q_brk] | rw [ss_nil])); (try simp only [r_next, r_ret]))
  ((with_reducible refine go_cons ?_); ((try simp only [e_int, e_bool, e_none, e_str, e_var, e_bin, e_neg, n_int, e_not, e_cmp, e_and, e_or, e_ite, e_sub, e_slice, e_list, e_tuple, e_call, e_ucall, e_meth, e_comp, e_gfn, e_vcall, e_sortk, e_mink, e_ucalld, e_ucallk, s_forx, s_tryLen, s_zipc, t_not, t_and, t_or, t_cmp, t_var, t_sub, t_call, t_ucall, s_expr, s_assign, s_setitem, s_aug, s_augi, s_ifs, s_while, s_for, s_ret, s_brk, s_cont, ss_nil, c_range1, c_range2, c_range3, i_rng, i_ref, i_tup, i_enm, i_rev, bt_name, bt_tup, look_zero, look_succ, r_next, r_ret, sa_nil, sa_cons, es_nil, es_cons, o_none, o_some, ts_nil, ts_cons, c_lt, c_le, c_gt, c_ge, c_eq, c_ne, b_add, b_sub, b_mul, b_div, b_mod, b_pow, b_shr, a_add, a_mul, t_bool, t_int, List.map, List.cons_append, List.nil_append, List.getElem?_cons_succ, List.getElem?_cons_zero, List.set_cons_succ, List.set_cons_zero, frOf]); (repeat (first | with_reducible refine q_nextI ?_ | with_reducible refine q_retI ?_ | with_reducible refine q_contI ?_ | with_reducible refine q_brkI ?_ | with_reducible refine ss_nilI ?_ | rw [q_next] | rw [q_ret] | rw [q_cont] | rw [q_brk] | rw [ss_nil])); (try simp only [r_next, r_ret])))
  refine ⟨by decide, ?_⟩
  have e2 : (ns.length : Int).fdiv 2 = (ns.length / 2 : Nat) := by rw [Int.fdiv_eq_ediv_of_nonneg _ (by omega)]; omega
  rw [e2]
  refine ⟨trivial, trivial, by omega, by omega, ?_⟩
  have e3 : ((ns.length / 2 : Nat) : Int).toNat = ns.length / 2 := by omega
  rw [e3]
  refine for_rule (xs := (List.range (ns.length / 2)).map fun (k : Nat) => V.int (((ns.length / 2 : Nat) : Int) - 1 + (k : Int) * (-1)))
    (fun k F τ => ∃ m e2, F = [some (.ref a), some (.int ns.length), e2] ∧ τ = upd σ a (.list (m.map f)) ∧ m.length = ns.length ∧ (∀ z ∈ m, P z) ∧ ((List.range (ns.length / 2 - k)).reverse).foldl (siftAt lt) m = heapifyF lt ns) (yields_rng _ _ _ _) ?_ ?_ ?_
  · exact ⟨ns, none, rfl, (upd_id hσ).symm, rfl, hP, rfl⟩
  · rintro k x F τ hx ⟨m, e2, rfl, rfl, hm, hPm, he⟩ K k1 k2 k3 k4
    have hk : k < ns.length / 2 := by have := lt_of_some hx; simpa using this
    have hx' : x = .int (ns.length / 2 - 1 - k : Nat) := by
      simp [hk] at hx; rw [← hx]; congr 1; omega
    subst hx'
    ((try simp only [e_int, e_bool, e_none, e_str, e_var, e_bin, e_neg, n_int, e_not, e_cmp, e_and, e_or, e_ite, e_sub, e_slice, e_list, e_tuple, e_call, e_ucall, e_meth, e_comp, e_gfn, e_vcall, e_sortk, e_mink, e_ucalld, e_ucallk, s_forx, s_tryLen, s_zipc, t_not, t_and, t_or, t_cmp, t_var, t_sub, t_call, t_ucall, s_expr, s_assign, s_setitem, s_aug, s_augi, s_ifs, s_while, s_for, s_ret, s_brk, s_cont, ss_nil, c_range1, c_range2, c_range3, i_rng, i_ref, i_tup, i_enm, i_rev, bt_name, bt_tup, look_zero, look_succ, r_next, r_ret, sa_nil, sa_cons, es_nil, es_cons, o_none, o_some, ts_nil, ts_cons, c_lt, c_le, c_gt, c_ge, c_eq, c_ne, b_add, b_sub, b_mul, b_div, b_mod, b_pow, b_shr, a_add, a_mul, t_bool, t_int, List.map, List.cons_append, List.nil_append, List.getElem?_cons_succ, List.getElem?_cons_zero, List.set_cons_succ, List.set_cons_zero, frOf]); (repeat (first | with_reducible refine q_nextI ?_ | with_reducible refine q_retI ?_ | with_reducible refine q_contI ?_ | with_reducible refine q_brkI ?_ | with_reducible refine ss_nilI ?_ | rw [q_next] | rw [q_ret] | rw [q_cont] | rw [q_brk] | rw [ss_nil])); (try simp only [r_next, r_ret]))
    ((with_reducible refine go_cons ?_); ((try simp only [e_int, e_bool, e_none, e_str, e_var, e_bin, e_neg, n_int, e_not, e_cmp, e_and, e_or, e_ite, e_sub, e_slice, e_list, e_tuple, e_call, e_ucall, e_meth, e_comp, e_gfn, e_vcall, e_sortk, e_mink, e_ucalld, e_ucallk, s_forx, s_tryLen, s_zipc, t_not, t_and, t_or, t_cmp, t_var, t_sub, t_call, t_ucall, s_expr, s_assign, s_setitem, s_aug, s_augi, s_ifs, s_while, s_for, s_ret, s_brk, s_cont, ss_nil, c_range1, c_range2, c_range3, i_rng, i_ref, i_tup, i_enm, i_rev, bt_name, bt_tup, look_zero, look_succ, r_next, r_ret, sa_nil, sa_cons, es_nil, es_cons, o_none, o_some, ts_nil, ts_cons, c_lt, c_le, c_gt, c_ge, c_eq, c_ne, b_add, b_sub, b_mul, b_div, b_mod, b_pow, b_shr, a_add, a_mul, t_bool, t_int, List.map, List.cons_append, List.nil_append, List.getElem?_cons_succ, List.getElem?_cons_zero, List.set_cons_succ, List.set_cons_zero, frOf]); (repeat (first | with_reducible refine q_nextI ?_ | with_reducible refine q_retI ?_ | with_reducible refine q_contI ?_ | with_reducible refine q_brkI ?_ | with_reducible refine ss_nilI ?_ | rw [q_next] | rw [q_ret] | rw [q_cont] | rw [q_brk] | rw [ss_nil])); (try simp only [r_next, r_ret])))
    generalize hj : ns.length / 2 - 1 - k = j at *
    have hjm : j < m.length := by omega
    have ee : siftAt lt m j = siftF lt m j m[j] := by unfold siftAt; rw [List.getElem?_eq_getElem hjm]
    refine hΦ _ _ _ ⟨α, f, lt, P, a, m, j, m[j], rfl, upd_same _ _ _, List.getElem?_eq_getElem hjm, hPm, hlt.upd _, by omega, ?_⟩
    rw [upd_upd]
    ((try simp only [e_int, e_bool, e_none, e_str, e_var, e_bin, e_neg, n_int, e_not, e_cmp, e_and, e_or, e_ite, e_sub, e_slice, e_list, e_tuple, e_call, e_ucall, e_meth, e_comp, e_gfn, e_vcall, e_sortk, e_mink, e_ucalld, e_ucallk, s_forx, s_tryLen, s_zipc, t_not, t_and, t_or, t_cmp, t_var, t_sub, t_call, t_ucall, s_expr, s_assign, s_setitem, s_aug, s_augi, s_ifs, s_while, s_for, s_ret, s_brk, s_cont, ss_nil, c_range1, c_range2, c_range3, i_rng, i_ref, i_tup, i_enm, i_rev, bt_name, bt_tup, look_zero, look_succ, r_next, r_ret, sa_nil, sa_cons, es_nil, es_cons, o_none, o_some, ts_nil, ts_cons, c_lt, c_le, c_gt, c_ge, c_eq, c_ne, b_add, b_sub, b_mul, b_div, b_mod, b_pow, b_shr, a_add, a_mul, t_bool, t_int, List.map, List.cons_append, List.nil_append, List.getElem?_cons_succ, List.getElem?_cons_zero, List.set_cons_succ, List.set_cons_zero, frOf]); (repeat (first | with_reducible refine q_nextI ?_ | with_reducible refine q_retI ?_ | with_reducible refine q_contI ?_ | with_reducible refine q_brkI ?_ | with_reducible refine ss_nilI ?_ | rw [q_next] | rw [q_ret] | rw [q_cont] | rw [q_brk] | rw [ss_nil])); (try simp only [r_next, r_ret]))
    refine k1 _ _ ⟨siftF lt m j m[j], _, rfl, rfl, by rw [siftF_length]; exact hm, fun z hz => ?_, ?_⟩
    · rw [← ee] at hz; exact hPm z (siftAt_mem hz)
    · rw [← he]
      have : ns.length / 2 - k = j + 1 := by omega
      rw [this, List.range_succ, List.reverse_append]
      simp only [List.reverse_cons, List.reverse_nil, List.nil_append, List.cons_append, List.foldl_cons]
      rw [ee]
      have : ns.length / 2 - (k + 1) = j := by omega
      rw [this]
  · rintro F τ ⟨m, e2, rfl, rfl, hm, hPm, he⟩
    ((try simp only [e_int, e_bool, e_none, e_str, e_var, e_bin, e_neg, n_int, e_not, e_cmp, e_and, e_or, e_ite, e_sub, e_slice, e_list, e_tuple, e_call, e_ucall, e_meth, e_comp, e_gfn, e_vcall, e_sortk, e_mink, e_ucalld, e_ucallk, s_forx, s_tryLen, s_zipc, t_not, t_and, t_or, t_cmp, t_var, t_sub, t_call, t_ucall, s_expr, s_assign, s_setitem, s_aug, s_augi, s_ifs, s_while, s_for, s_ret, s_brk, s_cont, ss_nil, c_range1, c_range2, c_range3, i_rng, i_ref, i_tup, i_enm, i_rev, bt_name, bt_tup, look_zero, look_succ, r_next, r_ret, sa_nil, sa_cons, es_nil, es_cons, o_none, o_some, ts_nil, ts_cons, c_lt, c_le, c_gt, c_ge, c_eq, c_ne, b_add, b_sub, b_mul, b_div, b_mod, b_pow, b_shr, a_add, a_mul, t_bool, t_int, List.map, List.cons_append, List.nil_append, List.getElem?_cons_succ, List.getElem?_cons_zero, List.set_cons_succ, List.set_cons_zero, frOf]); (repeat (first | with_reducible refine q_nextI ?_ | with_reducible refine q_retI ?_ | with_reducible refine q_contI ?_ | with_reducible refine q_brkI ?_ | with_reducible refine ss_nilI ?_ | rw [q_next] | rw [q_ret] | rw [q_cont] | rw [q_brk] | rw [ss_nil])); (try simp only [r_next, r_ret]))
    have : ns.length / 2 - ((List.range (ns.length / 2)).map fun (k : Nat) => V.int (((ns.length / 2 : Nat) : Int) - 1 + (k : Int) * (-1))).length = 0 := by simp
    rw [this] at he
    simp at he
    rw [he]; exact q

/-! T1 -/
/-! tools for the laws -/
theorem newL_of {xs : List V} {Q : V → Hp → Prop} {σ : Hp} (hb : xs.length ≤ BIG) (q : ∀ a τ, Ext σ τ → σ a = none → τ a = some (.list xs) → Q (.ref a) τ) : newL xs Q σ := ⟨hb, fun a h => q a _ (Ext.upd _ h) h (upd_same _ _ _)⟩
noncomputable def pickI {α : Type} (xs : List α) (lo hi st : Option Int) : List α :=
  (sliceRange (sliceBounds lo hi st xs.length).1 (sliceBounds lo hi st xs.length).2.1 (sliceBounds lo hi st xs.length).2.2).filterMap (xs[·]?)
theorem pick_map {α : Type} (f : α → V) (xs : List α) (lo hi st : Option Int) : pickL (xs.map f) lo hi st = (pickI xs lo hi st).map f := by
  unfold pickL pickI
  rw [List.length_map]
  generalize sliceRange _ _ _ = ks
  induction ks with
  | nil => rfl
  | cons k ks ih =>
    simp only [List.filterMap_cons, List.getElem?_map]
    cases xs[k]? with
    | none => simpa using ih
    | some x => simpa using ih
theorem pick_len {α : Type} (xs : List α) (k : Int) (s : Int) (hk : 0 ≤ k) (hs : 0 < s) : (pickI xs (some k) none (some s)).length ≤ xs.length := by
  unfold pickI
  refine Nat.le_trans (List.length_filterMap_le ..) ?_
  simp only [sliceBounds, sliceRange, Option.getD_some, List.length_map, List.length_range]
  have h1 : s > 0 := hs
  have h2 : ¬ k < 0 := by omega
  simp only [h1, h2, if_true, if_false]
  split
  · rename_i h
    have : ((xs.length : Int) - max 0 (min k (xs.length : Int)) + s - 1) / s ≤ xs.length := by
      have h0 : 0 ≤ max 0 (min k (xs.length : Int)) := by omega
      generalize max 0 (min k (xs.length : Int)) = b at *
      refine Int.ediv_le_of_le_mul hs ?_
      have : 0 ≤ ((xs.length : Int) - 1) * (s - 1) := Int.mul_nonneg (by omega) (by omega)
      have e : ((xs.length : Int) - 1) * (s - 1) = (xs.length : Int) * s - xs.length - s + 1 := by rw [Int.sub_mul, Int.mul_sub]; omega
      omega
    omega
  · simp
theorem fm_some {α β : Type} {g : α → Option β} {f : α → β} : ∀ (l : List α), (∀ x ∈ l, g x = some (f x)) → l.filterMap g = l.map f
  | [], _ => rfl
  | x :: t, h => by rw [List.filterMap_cons_some (h x (.head _)), List.map_cons, fm_some t fun y hy => h y (.tail _ hy)]
/-- a sum over every so many-th number -/
theorem slice_sum {σ : Hp} {l : Addr} {ns : List Int} {k s : Int} {Q : V → Hp → Prop} (h : listAt σ l = some (ns.map .int)) (hb : ns.length ≤ BIG) (hk : 0 ≤ k) (hs : 0 < s) (q : ∀ τ, Ext σ τ → Q (.int (pickI ns (some k) none (some s)).sum) τ) :
    opSlice (.ref l) (.int k) .none (.int s) (fun v τ => opCall .sum [v] Q τ) σ := by
  refine ⟨_, h, ?_⟩
  show some s ≠ some 0 ∧ newL (pickL (ns.map V.int) (some k) none (some s)) _ σ
  refine ⟨by simp; omega, ?_⟩
  rw [pick_map]
  refine newL_of (by rw [List.length_map]; exact Nat.le_trans (pick_len ns k s hk hs) hb) fun b τ x f g => ?_
  exact call_sum (listAt_list g) (q τ x)
/-- data -/
structure IsDat {α : Type} (f : α → V) (dat : α → PyData) : Prop where
  d : ∀ σ x, Dat σ (f x) (dat x)
  depth : ∀ x, (dat x).depth ≤ 40
noncomputable def tupV (x : List Int) : V := .tup (x.map .int)
theorem isDat_int : IsDat V.int PyData.int := ⟨fun σ x => .int x, fun x => by simp [PyData.depth]⟩
section
variable {α : Type} {f : α → V} {dat : α → PyData}
theorem IsDat.ds (D : IsDat f dat) (σ : Hp) : ∀ xs : List α, Dats σ (xs.map f) (xs.map dat)
  | [] => .nil
  | x :: xs => .cons (D.d σ x) (D.ds σ xs)
theorem IsDat.depths (D : IsDat f dat) : ∀ xs : List α, PyData.depthAll (xs.map dat) ≤ 40
  | [] => by simp [PyData.depthAll]
  | x :: xs => by have := D.depths xs; have := D.depth x; simp [PyData.depthAll]; omega
theorem IsDat.eq (D : IsDat f dat) {σ : Hp} {a b : Addr} {xs : List α} {Q : V → Hp → Prop} (ha : listAt σ a = some (xs.map f)) (hb : listAt σ b = some (xs.map f)) (q : Q (.bool true) σ) : opCmp .Eq (.ref a) (.ref b) Q σ := by
  refine eq_dat (d := .list (xs.map dat)) (e := .list (xs.map dat)) (.list ha (D.ds σ xs)) (.list hb (D.ds σ xs)) (by have := D.depths xs; simp only [PyData.depth]; omega) ?_
  rw [PySem.SeqAt.eqv_refl _ (Dat.lay (σ := σ) (.list ha (D.ds σ xs)))]; exact q
theorem IsDat.ne (D : IsDat f dat) {σ : Hp} {a b : Addr} {xs : List α} {Q : V → Hp → Prop} (ha : listAt σ a = some (xs.map f)) (hb : listAt σ b = some (xs.map f)) (q : Q (.bool false) σ) : opCmp .NotEq (.ref a) (.ref b) Q σ := by
  refine ne_dat (d := .list (xs.map dat)) (e := .list (xs.map dat)) (.list ha (D.ds σ xs)) (.list hb (D.ds σ xs)) (by have := D.depths xs; simp only [PyData.depth]; omega) ?_
  rw [PySem.SeqAt.eqv_refl _ (Dat.lay (σ := σ) (.list ha (D.ds σ xs)))]; exact q
end
/-! the order of tuples -/
theorem ltI_asym : ∀ a b : List Int, ltI a b = true → ltI b a = false
  | [], [], h => by simp [ltI] at h
  | [], _ :: _, _ => rfl
  | _ :: _, [], h => by simp [ltI] at h
  | x :: xs, y :: ys, h => by
    simp only [ltI] at h ⊢
    by_cases e : x = y
    · rw [if_pos e] at h; rw [if_pos e.symm]; exact ltI_asym xs ys h
    · rw [if_neg e] at h; rw [if_neg (fun q => e q.symm)]; simp at h ⊢; omega
theorem ltI_neg : ∀ a b c : List Int, ltI a c = true → ltI a b = true ∨ ltI b c = true
  | [], [], _, h => .inr h
  | [], _ :: _, _, _ => .inl rfl
  | _ :: _, _, [], h => by simp [ltI] at h
  | x :: xs, [], z :: zs, _ => .inr rfl
  | x :: xs, y :: ys, z :: zs, h => by
    simp only [ltI] at h ⊢
    by_cases e1 : x = y
    · subst e1
      by_cases e2 : x = z
      · rw [if_pos e2] at h; rw [if_pos rfl, if_pos e2]; exact ltI_neg xs ys zs h
      · rw [if_neg e2] at h; rw [if_pos rfl, if_neg e2]; exact .inr h
    · rw [if_neg e1]
      by_cases e2 : y = z
      · subst e2; rw [if_neg e1] at h; exact .inl h
      · rw [if_neg e2]
        by_cases e3 : x = z
        · rw [if_pos e3] at h; simp; omega
        · rw [if_neg e3] at h; simp at h ⊢; omega
theorem ltI_sw : SW ltI := ⟨ltI_asym, ltI_neg⟩
theorem SW.weak {α : Type} {lt : α → α → Bool} (S : SW lt) (g : Nat → α) : Weak (fun i j => lt (g i) (g j)) := ⟨fun a b h => S.asym _ _ h, fun a b c h => S.neg _ _ _ h⟩
theorem up_pairs {lt : Nat → Nat → Bool} {p : Array Nat} {n : Nat} (hs : p.size = n) (u : Up lt p n) : p.toList.Pairwise (R lt) := by
  rw [List.pairwise_iff_getElem]
  intro i j hi hj hij
  have hj' : j < n := by simpa [hs] using hj
  have := u i j hij hj'
  have g : ∀ k (hk : k < p.toList.length), p.toList[k] = G p k := fun k hk => by
    have hk' : k < p.size := by simpa using hk
    unfold G; simp [hk']
  rw [g i hi, g j hj]; exact this
/-! X9 -/
section
variable {σ : Hp} {Q : V → Hp → Prop}
theorem max_ints {a : Addr} {xs : List Int} (e : listAt σ a = some (xs.map .int)) (h0 : 0 < xs.length) (q : ∀ x ∈ xs, (∀ y ∈ xs, y ≤ x) → Q (.int x) σ) : opCall .max [.ref a] Q σ := by
  have hb := argBest_le (fun i j => decide (xs.getD j 0 < xs.getD i 0)) (xs.length - 1)
  have hb' : argBest (fun i j => decide (xs.getD j 0 < xs.getD i 0)) (xs.length - 1) < xs.length := by omega
  have gm : ∀ i, i < xs.length → xs.getD i 0 ∈ xs := fun i hi => by rw [List.getD_eq_getElem?_getD, List.getElem?_eq_getElem hi]; exact List.getElem_mem hi
  refine call_max (fun i j => decide (xs.getD j 0 < xs.getD i 0)) e (by simpa using h0) (x := V.int (xs.getD (argBest (fun i j => decide (xs.getD j 0 < xs.getD i 0)) (xs.length - 1)) 0)) ?_ ?_ ?_
  · rw [List.length_map]
    generalize argBest _ (xs.length - 1) = b at *
    simp [hb']
  · intro h₀ h vs hw r A s' i j vi vj hu k e1 e2
    have hlen := r.length
    simp only [List.length_map] at hlen
    have at' : ∀ k' v, vs[k']? = some v → ∃ t, v = Value.int (xs.getD k' 0) t := fun k' v ev => by
      have hk : k' < vs.length := (List.getElem?_eq_some_iff.mp ev).1
      have hk' : k' < xs.length := by omega
      obtain ⟨v', e1, rv⟩ := r.get (i := k') (x := V.int (xs.getD k' 0)) (by simp [hk'])
      rw [ev] at e1; cases e1
      exact rv.iint
    obtain ⟨t1, rfl⟩ := at' i vi e1
    obtain ⟨t2, rfl⟩ := at' j vj e2
    exact GtAt.int _ _ _ _
  · refine q _ (gm _ hb') fun y hy => ?_
    obtain ⟨i, hi, rfl⟩ := List.getElem_of_mem hy
    have := argBest_ok (gt := fun i j => decide (xs.getD j 0 < xs.getD i 0)) (fun a b c h g => by simp at h g ⊢; omega) (fun a => by simp) (fun a b h => by simp at h ⊢; omega) (xs.length - 1) i (by omega)
    have e3 : xs.getD i 0 = xs[i] := by simp [hi]
    rw [← e3]
    have := of_decide_eq_false this
    omega
end

/-! X10 -/
/-! comprehensions with two for clauses -/
/-- the inner turns -/
noncomputable def InG (Φ : Fns) (elt : PE) (j : Nat) (F1 : Frm) (K : List V → Hp → Prop) (J : It) (acc : List V) (σ : Hp) : Prop :=
  ∃ Inv : Nat → It → List V → Hp → Prop, (∃ m, Inv m J acc σ) ∧ ∀ m J acc σ, Inv m J acc σ →
    match itNext J σ with
    | none => False
    | some none => K acc σ
    | some (some (z, J')) => vE Φ elt (fun u σ => acc.length < BIG ∧ ∃ m', m' < m ∧ Inv m' J' (acc ++ [u]) σ) (F1.set j (some z)) σ
noncomputable def CompG2 (Φ : Fns) (elt : PE) (i j : Nat) (b2 : PE) (F0 : Frm) (Q : V → Hp → Prop) (I : It) (σ : Hp) : Prop :=
  ∃ Inv : Nat → It → List V → Hp → Prop, (∃ n, Inv n I [] σ) ∧ ∀ n I acc σ, Inv n I acc σ →
    match itNext I σ with
    | none => False
    | some none => newL acc Q σ
    | some (some (x, I')) => vE Φ b2 (fun y σ => itStart .plain y (fun J σ => InG Φ elt j (F0.set i (some x)) (fun acc σ => ∃ n', n' < n ∧ Inv n' I' acc σ) J acc σ) σ) (F0.set i (some x)) σ
noncomputable def PE.comp2 (fm : List (Option Nat)) (elt : PE) (i : Nat) (b1 : PE) (j : Nat) (b2 : PE) : PE := .of fun Φ Q F σ => vE Φ b1 (fun x σ => itStart .plain x (fun I σ => CompG2 Φ elt i j b2 (frOf fm F) Q I σ) σ) F σ
section
variable {prog : Program} {w : World} {A : Around} {R : Result → Shared → Prop} {s : Shared} {elt t1 t2 it1 it2 : Expr} {scope : Scope} {pos : Pos} {acc iv : Value} {env : Env}
end
section
variable {prog : Program} {w : World} {A : Around} {s : Shared} {c : Cfg} {env : Env} {Cs : List Addr} {D : Addr} {as bs : List Addr} {P P' : Heap → Prop} {F0 F1 : Frm} {h₀ : Heap} {σb σ σ' : Hp} {hb h h' : Heap} {acc : List V}
end
section
variable {c : Cfg} {p q p1 p2 : Pos} {elt it1 it2 : Expr} {x1 x2 : Str} {scope : Scope} {a b1 b2 : PE} {i j : Nat} {fm : List (Option Nat)}
end

/-! X11 -/
section
variable {σ : Hp} {Q : V → Hp → Prop} {a b : Addr} {xs : List V}
end
theorem fm_range {α : Type} (xs : List α) : ∀ (m a : Nat), (((List.range m).map fun (k : Nat) => a + k).filterMap (xs[·]?)) = (xs.drop a).take m
  | 0, a => by simp
  | m + 1, a => by
    rw [List.range_succ, List.map_append, List.filterMap_append, fm_range xs m a, List.take_add_one, List.getElem?_drop]
    simp only [List.map_cons, List.map_nil, List.filterMap_cons, List.filterMap_nil]
    cases xs[a + m]? <;> rfl
theorem pick_take {α : Type} (xs : List α) (k : Nat) : pickI xs none (some (k : Int)) none = xs.take k := by
  unfold pickI
  have h1 : ¬ ((k : Int) < 0) := by omega
  simp only [sliceBounds, sliceRange, Option.getD_none, h1, if_false, show (1 : Int) > 0 by decide, if_true]
  have e : (List.map (fun (j : Nat) => ((0 : Int) + 1 * (j : Int)).toNat) (List.range (if max 0 (min (k : Int) xs.length) > 0 then (max 0 (min (k : Int) xs.length) - 0 + 1 - 1) / 1 else 0).toNat)) = (List.range (min k xs.length)).map fun j => 0 + j := by
    have : (if max 0 (min (k : Int) xs.length) > 0 then (max 0 (min (k : Int) xs.length) - 0 + 1 - 1) / 1 else 0).toNat = min k xs.length := by
      rw [Int.ediv_one]; split <;> omega
    rw [this]
    refine List.map_congr_left fun j _ => ?_
    omega
  first
    | rw [e]
    | (simp only [Int.zero_add] at e ⊢; rw [e])
  rw [fm_range, List.drop_zero]
  rcases Nat.le_total k xs.length with h | h
  · rw [Nat.min_eq_left h]
  · rw [Nat.min_eq_right h, List.take_length, List.take_of_length_le h]
theorem pick_mapV (xs : List V) (lo hi st : Option Int) : pickL xs lo hi st = pickI xs lo hi st := rfl
theorem slice_take {σ : Hp} {Q : V → Hp → Prop} {a : Addr} {xs : List V} {k : Nat} (e : listAt σ a = some xs) (hb : xs.length ≤ BIG) (q : newL (xs.take k) Q σ) : opSlice (.ref a) .none (.int (k : Int)) .none Q σ := by
  refine ⟨_, e, ?_⟩
  show none ≠ some (0 : Int) ∧ newL (pickL xs none (some (k : Int)) none) _ σ
  refine ⟨by simp, ?_⟩
  rw [pick_mapV, pick_take]; exact q
/-! Np1 -/
/-! the first so many of a stable sort, as the heap finds them -/
section
variable {α β : Type} (lt : β → β → Bool) (kf : α → β)
noncomputable def leK (a b : α) : Bool := !lt (kf b) (kf a)
noncomputable def stab (xs : List α) : List α := xs.mergeSort (leK lt kf)
/-- the one comes ahead of the other: by the key, of like ones by the place -/
noncomputable def RI (a b : α × Nat) : Prop := lt (kf b.1) (kf a.1) = false ∧ (lt (kf a.1) (kf b.1) = false → a.2 < b.2)
variable {lt kf}
theorem stab_length (xs : List α) : (stab lt kf xs).length = xs.length := List.length_mergeSort ..
theorem stab_perm (xs : List α) : (stab lt kf xs).Perm xs := List.mergeSort_perm ..
theorem SW.le_tot (S : SW lt) (a b : β) : (!lt b a || !lt a b) = true := by
  cases h : lt b a with
  | false => rfl
  | true => rw [S.asym _ _ h]; rfl
theorem leK_trans (S : SW lt) (a b c : α) (x : leK lt kf a b = true) (y : leK lt kf b c = true) : leK lt kf a c = true := by
  unfold leK at *
  simp only [Bool.not_eq_true'] at *
  exact S.le y x
theorem leK_tot (S : SW lt) (a b : α) : (leK lt kf a b || leK lt kf b a) = true := S.le_tot _ _
theorem stab_up (S : SW lt) (xs : List α) : (stab lt kf xs).Pairwise fun a b => lt (kf b) (kf a) = false :=
  (List.pairwise_mergeSort (leK_trans S) (leK_tot S) xs).imp fun h => by unfold leK at h; simpa using h
theorem zip_trans (S : SW lt) (a b c : α × Nat) (x : List.zipIdxLE (leK lt kf) a b = true) (y : List.zipIdxLE (leK lt kf) b c = true) : List.zipIdxLE (leK lt kf) a c = true := by
  unfold List.zipIdxLE leK at *
  simp only [Bool.not_eq_true', Bool.if_false_right, Bool.if_true_right, Bool.and_eq_true, Bool.or_eq_true, decide_eq_true_eq] at *
  obtain ⟨x1, x2⟩ := x
  obtain ⟨y1, y2⟩ := y
  refine ⟨S.le y1 x1, ?_⟩
  cases h : lt (kf a.fst) (kf c.fst) with
  | true => simp
  | false =>
    have q1 : lt (kf b.fst) (kf c.fst) = false := S.le x1 h
    have q2 : lt (kf a.fst) (kf b.fst) = false := S.le h y1
    simp_all
    omega
theorem zip_tot (S : SW lt) (a b : α × Nat) : (List.zipIdxLE (leK lt kf) a b || List.zipIdxLE (leK lt kf) b a) = true := by
  unfold List.zipIdxLE leK
  cases h : lt (kf b.1) (kf a.1) <;> cases g : lt (kf a.1) (kf b.1) <;> simp
  · omega
  · rw [S.asym _ _ h] at g; cases g
theorem zip_idx_mem {xs : List α} {a : α × Nat} (m : a ∈ xs.zipIdx) : xs[a.2]? = some a.1 := by
  obtain ⟨x, i⟩ := a
  simpa [List.mem_zipIdx_iff_getElem?] using m
theorem zip_idx_eq {xs : List α} {a b : α × Nat} (m : a ∈ xs.zipIdx) (n : b ∈ xs.zipIdx) (e : a.2 = b.2) : a = b := by
  have h1 := zip_idx_mem m
  have h2 := zip_idx_mem n
  rw [e, h2] at h1
  cases a; cases b; simp_all
theorem RI.zip {a b : α × Nat} (h : RI lt kf a b) : List.zipIdxLE (leK lt kf) a b = true := by
  unfold List.zipIdxLE leK
  rw [h.1]
  simp
  cases g : lt (kf a.1) (kf b.1) with
  | true => simp
  | false => have := h.2 g; simp; omega
/-- what is sorted so and stands ahead of the rest is the start of the stable sort -/
theorem stab_take (S : SW lt) {xs : List α} {r rest : List (α × Nat)} (p : (r ++ rest).Perm xs.zipIdx) (up : r.Pairwise (RI lt kf)) (ab : ∀ a ∈ r, ∀ b ∈ rest, RI lt kf a b) : r.map (·.1) = (stab lt kf xs).take r.length := by
  have e : xs.zipIdx.mergeSort (List.zipIdxLE (leK lt kf)) = r ++ rest.mergeSort (List.zipIdxLE (leK lt kf)) := by
    refine List.Perm.eq_of_pairwise (le := fun a b => List.zipIdxLE (leK lt kf) a b = true) (fun a b ma mb h g => ?_) (List.pairwise_mergeSort (zip_trans S) (zip_tot S) _) ?_ ?_
    · refine zip_idx_eq ((List.mergeSort_perm _ _).mem_iff.mp ma) (p.mem_iff.mp ?_) ?_
      · rcases List.mem_append.mp mb with m | m
        · exact List.mem_append_left _ m
        · exact List.mem_append_right _ ((List.mergeSort_perm _ _).mem_iff.mp m)
      · unfold List.zipIdxLE at h g
        split at h
        · rename_i h1
          split at g
          · rename_i g1
            simp_all; omega
          · simp_all
        · simp_all
    · rw [List.pairwise_append]
      refine ⟨up.imp RI.zip, List.pairwise_mergeSort (zip_trans S) (zip_tot S) _, fun a ma b mb => (ab a ma b ((List.mergeSort_perm _ _).mem_iff.mp mb)).zip⟩
    · exact (List.mergeSort_perm _ _).trans (p.symm.trans (List.Perm.append_left _ (List.mergeSort_perm _ _).symm))
  have e2 := List.mergeSort_zipIdx (le := leK lt kf) (l := xs)
  rw [e, List.map_append] at e2
  unfold stab
  rw [← e2, List.take_append_of_le_length (by simp), ← List.map_take, List.take_length]
theorem RI.of {a b : α × Nat} (S : SW lt) (h : lt (kf a.1) (kf b.1) = true) : RI lt kf a b := ⟨S.asym _ _ h, fun e => by rw [h] at e; cases e⟩
theorem RI.eq {a b : α × Nat} (h : lt (kf b.1) (kf a.1) = false) (g : a.2 < b.2) : RI lt kf a b := ⟨h, fun _ => g⟩
theorem RI.less {a b c : α × Nat} (S : SW lt) (h : lt (kf a.1) (kf b.1) = true) (g : RI lt kf b c) : RI lt kf a c := by
  rcases S.neg _ (kf c.1) _ h with q | q
  · exact .of S q
  · rw [g.1] at q; cases q
/-- an entry of the heap: key, order, thing, and the thing's place in the row -/
structure Ent (α β : Type) where
  k : β
  o : Nat
  x : α
  i : Nat
noncomputable def Ent.pr (e : Ent α β) : α × Nat := (e.x, e.i)
/-- how entries are held against each other -/
structure EntLt (lt : β → β → Bool) (ltT : Ent α β → Ent α β → Bool) : Prop where
  sw : SW ltT
  key : ∀ a b : Ent α β, lt a.k b.k = true → ltT a b = true
  ord : ∀ a b : Ent α β, lt a.k b.k = false → lt b.k a.k = false → a.o < b.o → ltT a b = true
structure HSt (lt : β → β → Bool) (kf : α → β) (ltT : Ent α β → Ent α β → Bool) (xs : List α) (m nx : Nat) (hs : List (Ent α β)) : Prop where
  ex : ∃ rest : List (α × Nat), (hs.map Ent.pr ++ rest).Perm (xs.take m).zipIdx ∧ ∀ e ∈ hs, ∀ b ∈ rest, RI lt kf e.pr b
  ok : ∀ e ∈ hs, e.k = kf e.x ∧ e.o < nx
  mono : ∀ e ∈ hs, ∀ e' ∈ hs, e.i < e'.i → e.o < e'.o
  hf : HF ltT hs 0
variable {ltT : Ent α β → Ent α β → Bool} {xs : List α}
theorem zip_idx_lt {n : Nat} {a : α × Nat} (m : a ∈ (xs.take n).zipIdx) : a.2 < n := by
  have h := zip_idx_mem m
  have := (List.getElem?_eq_some_iff.mp h).1
  simp at this; omega
theorem zip_idx_nodup : (xs.zipIdx.map (·.2)).Nodup := by
  rw [show (fun x : α × Nat => x.2) = Prod.snd from rfl, List.zipIdx_map_snd]
  exact List.nodup_range'
theorem HSt.idx {m nx : Nat} {hs : List (Ent α β)} (H : HSt lt kf ltT xs m nx hs) : (hs.map Ent.i).Nodup ∧ ∀ e ∈ hs, e.i < m := by
  obtain ⟨rest, p, _⟩ := H.ex
  have h1 : ((hs.map Ent.pr ++ rest).map (·.2)).Nodup := (p.map _).nodup_iff.mpr zip_idx_nodup
  rw [List.map_append, List.map_map] at h1
  refine ⟨(List.nodup_append.mp h1).1, fun e me => ?_⟩
  exact zip_idx_lt (a := e.pr) (p.mem_iff.mp (List.mem_append_left _ (List.mem_map_of_mem me)))
theorem HSt.start {n : Nat} (L : EntLt lt ltT) {hs : List (Ent α β)} (hm : hs.map Ent.pr = (xs.take n).zipIdx) (ok : ∀ e ∈ hs, e.k = kf e.x ∧ e.o = e.i) : HSt lt kf ltT xs n n (heapifyF ltT hs) := by
  obtain ⟨h1, h2⟩ := heapify_ok L.sw hs
  have hi : ∀ e ∈ heapifyF ltT hs, e.i < n := fun e me => by
    have : e.pr ∈ hs.map Ent.pr := List.mem_map_of_mem (h2.mem_iff.mp me)
    rw [hm] at this
    exact zip_idx_lt this
  refine ⟨⟨[], ?_, fun e _ b m => by cases m⟩, fun e me => ⟨(ok e (h2.mem_iff.mp me)).1, ?_⟩, fun e me e' me' h => ?_, h1⟩
  · rw [List.append_nil, ← hm]; exact h2.map _
  · rw [(ok e (h2.mem_iff.mp me)).2]; exact hi e me
  · rw [(ok e (h2.mem_iff.mp me)).2, (ok e' (h2.mem_iff.mp me')).2]; exact h
theorem HSt.top {m nx : Nat} {hs : List (Ent α β)} (S : SW lt) (L : EntLt lt ltT) (H : HSt lt kf ltT xs m nx hs) {t : Ent α β} {l : List (Ent α β)} (e : hs = t :: l) : ∀ e ∈ l, RI lt kf e.pr t.pr := by
  subst e
  intro e me
  have h1 := H.hf.top_mem L.sw (t := t) rfl e (.tail _ me)
  have h2 : lt t.k e.k = false := by
    cases q : lt t.k e.k with
    | false => rfl
    | true => rw [L.key _ _ q] at h1; cases h1
  have o1 := H.ok e (.tail _ me)
  have o2 := H.ok t (.head _)
  rw [o1.1, o2.1] at h2
  refine ⟨h2, fun h3 => ?_⟩
  have h4 : ¬ t.o < e.o := fun q => by rw [L.ord t e (by rw [o1.1, o2.1]; exact h2) (by rw [o1.1, o2.1]; exact h3) q] at h1; cases h1
  have h5 : ¬ t.i < e.i := fun q => h4 (H.mono t (.head _) e (.tail _ me) q)
  have h6 : e.i ≠ t.i := fun q => by
    have := H.idx.1
    rw [List.map_cons, List.nodup_cons] at this
    exact this.1 (by rw [← q]; exact List.mem_map_of_mem me)
  show e.i < t.i
  omega
theorem take_zip_succ {m : Nat} {x : α} (hx : xs[m]? = some x) : (xs.take (m + 1)).zipIdx = (xs.take m).zipIdx ++ [(x, m)] := by
  have hl := (List.getElem?_eq_some_iff.mp hx).1
  rw [List.take_add_one, hx, List.zipIdx_append, List.length_take, Nat.min_eq_left (by omega)]
  simp
theorem HSt.skip {m nx : Nat} {hs : List (Ent α β)} (S : SW lt) (L : EntLt lt ltT) (H : HSt lt kf ltT xs m nx hs) {x : α} (hx : xs[m]? = some x) {t : Ent α β} (ht : hs[0]? = some t) (h : lt (kf x) t.k = false) : HSt lt kf ltT xs (m + 1) nx hs := by
  obtain ⟨rest, p, q⟩ := H.ex
  refine ⟨⟨rest ++ [(x, m)], ?_, fun e me b mb => ?_⟩, H.ok, H.mono, H.hf⟩
  · rw [take_zip_succ hx, ← List.append_assoc]; exact p.append_right _
  · rcases List.mem_append.mp mb with mb | mb
    · exact q e me b mb
    · simp at mb; subst mb
      have o2 := H.ok t (List.mem_of_getElem? ht)
      rw [o2.1] at h
      refine .eq ?_ (H.idx.2 e me)
      cases hs with
      | nil => simp at ht
      | cons t' l =>
        simp at ht; subst ht
        rcases List.mem_cons.mp me with rfl | me
        · exact h
        · have h2 := H.top S L rfl e me
          exact S.le (c := kf e.x) h h2.1
theorem HSt.put {m nx : Nat} {hs : List (Ent α β)} (S : SW lt) (L : EntLt lt ltT) (H : HSt lt kf ltT xs m nx hs) {x : α} (hx : xs[m]? = some x) {t : Ent α β} (ht : hs[0]? = some t) (h : lt (kf x) t.k = true) {e : Ent α β} (he : e = ⟨kf x, nx, x, m⟩) :
    HSt lt kf ltT xs (m + 1) (nx + 1) (siftF ltT (hs.set 0 e) 0 e) := by
  obtain ⟨rest, p, q⟩ := H.ex
  have hn : 0 < hs.length := lt_of_some ht
  obtain ⟨h1, h2⟩ := replace_ok L.sw H.hf e hn
  cases hs with
  | nil => simp at hn
  | cons t' l =>
  simp at ht; subst ht
  have h3 : (siftF ltT ((t' :: l).set 0 e) 0 e).Perm (e :: l) := by simpa using h2
  have o2 := H.ok t' (.head _)
  rw [o2.1] at h
  have tp := H.top S L rfl
  have ne : ∀ b, RI lt kf t'.pr b → RI lt kf e.pr b := fun b g => .less (b := t'.pr) S (by subst he; exact h) g
  refine ⟨⟨t'.pr :: rest, ?_, fun e' me b mb => ?_⟩, fun e' me => ?_, fun e' me e'' me' g => ?_, h1⟩
  · rw [take_zip_succ hx]
    have a1 : ((siftF ltT ((t' :: l).set 0 e) 0 e).map Ent.pr ++ t'.pr :: rest).Perm ((e :: l).map Ent.pr ++ t'.pr :: rest) := (h3.map _).append_right _
    refine a1.trans ?_
    have a2 : ((e :: l).map Ent.pr ++ t'.pr :: rest).Perm ((x, m) :: ((t' :: l).map Ent.pr ++ rest)) := by
      subst he
      simp only [List.map_cons, List.cons_append]
      exact List.Perm.cons _ List.perm_middle
    refine a2.trans ((p.cons _).trans ?_)
    exact (List.perm_append_singleton _ _).symm
  · rcases List.mem_cons.mp (h3.mem_iff.mp me) with rfl | me
    · rcases List.mem_cons.mp mb with rfl | mb
      · exact .of S (by subst he; exact h)
      · exact ne b (q t' (.head _) b mb)
    · rcases List.mem_cons.mp mb with rfl | mb
      · exact tp e' me
      · exact q e' (.tail _ me) b mb
  · rcases List.mem_cons.mp (h3.mem_iff.mp me) with rfl | me
    · subst he; exact ⟨rfl, Nat.lt_succ_self _⟩
    · have := H.ok e' (.tail _ me); exact ⟨this.1, by omega⟩
  · have i2 := H.idx.2
    rcases List.mem_cons.mp (h3.mem_iff.mp me) with rfl | me <;> rcases List.mem_cons.mp (h3.mem_iff.mp me') with q2 | me'
    · rw [q2] at g; omega
    · have := i2 e'' (.tail _ me'); subst he; simp at g; omega
    · have := (H.ok e' (.tail _ me)).2; rw [q2, he]; simpa using this
    · exact H.mono e' (.tail _ me) e'' (.tail _ me') g
theorem HSt.done {nx : Nat} {hs ys : List (Ent α β)} (S : SW lt) (L : EntLt lt ltT) (H : HSt lt kf ltT xs xs.length nx hs) (p : ys.Perm hs) (up : ys.Pairwise fun a b => ltT b a = false) : ys.map Ent.x = (stab lt kf xs).take hs.length := by
  obtain ⟨rest, p2, q⟩ := H.ex
  rw [List.take_length] at p2
  have nd : ys.Pairwise fun a b => a.i ≠ b.i := by
    have := H.idx.1
    have h2 : (ys.map Ent.i).Nodup := (p.map Ent.i).nodup_iff.mpr this
    rw [List.Nodup, List.pairwise_map] at h2
    exact h2
  have r1 : (ys.map Ent.pr).Pairwise (RI lt kf) := by
    rw [List.pairwise_map]
    refine (up.and nd).imp_of_mem fun {a b} ma mb h => ?_
    have oa := H.ok a (p.mem_iff.mp ma)
    have ob := H.ok b (p.mem_iff.mp mb)
    have h2 : lt b.k a.k = false := by
      cases q : lt b.k a.k with
      | false => rfl
      | true => have := h.1; rw [L.key _ _ q] at this; cases this
    refine ⟨by rw [oa.1, ob.1] at h2; exact h2, fun g => ?_⟩
    have h4 : ¬ b.o < a.o := fun q => by have := h.1; rw [L.ord b a h2 (by rw [oa.1, ob.1]; exact g) q] at this; cases this
    have h5 : ¬ b.i < a.i := fun q => h4 (H.mono b (p.mem_iff.mp mb) a (p.mem_iff.mp ma) q)
    have := h.2
    show a.i < b.i
    omega
  have := stab_take S (((p.map Ent.pr).append_right rest).trans p2) r1 (fun a ma b mb => by
    obtain ⟨e, me, rfl⟩ := List.mem_map.mp ma
    exact q e (p.mem_iff.mp me) b mb)
  rw [List.map_map, List.length_map, p.length_eq] at this
  exact this
/-- the least by argBest -/
theorem argBest_R {bt : Nat → Nat → Bool} (Wk : Weak bt) : ∀ k i, i ≤ k → i ≠ argBest bt k → R bt (argBest bt k) i := by
  intro k
  induction k with
  | zero => intro i hi hn; exact absurd (show i = 0 by omega) hn
  | succ k ih =>
    intro i hi hn
    unfold argBest at hn ⊢
    split at hn
    · rename_i h
      rw [if_pos h]
      refine R.of_lt Wk ?_
      by_cases e : i = argBest bt k
      · rw [e]; exact h
      · have hk : i ≤ k := by omega
        exact Wk.lt_le h (ih i hk e).1
    · rename_i h
      rw [if_neg h]
      by_cases e : i = k + 1
      · subst e
        exact ⟨by simpa using h, fun _ => by have := argBest_le bt k; omega⟩
      · exact ih i (by omega) hn
theorem stab_one (S : SW lt) {xs : List α} {d : α} (h0 : 0 < xs.length) {bt : Nat → Nat → Bool} (hb : ∀ i j, bt i j = lt (kf (xs.getD i d)) (kf (xs.getD j d))) {y : α} (hy : xs[argBest bt (xs.length - 1)]? = some y) : (stab lt kf xs).take 1 = [y] := by
  have Wk : Weak bt := ⟨fun a b h => by rw [hb] at h ⊢; exact S.asym _ _ h, fun a b c h => by rw [hb] at h; rw [hb, hb]; exact S.neg _ _ _ h⟩
  generalize hj : argBest bt (xs.length - 1) = j at *
  have hl := (List.getElem?_eq_some_iff.mp hy).1
  have m : (y, j) ∈ xs.zipIdx := by rw [List.mem_zipIdx_iff_getElem?]; exact hy
  obtain ⟨l1, l2, e⟩ := List.append_of_mem m
  have p : ([(y, j)] ++ (l1 ++ l2)).Perm xs.zipIdx := by rw [e]; exact (List.perm_middle (a := (y, j)) (l₁ := l1) (l₂ := l2)).symm
  have := stab_take S p (List.pairwise_singleton _ _) (fun a ma b mb => by
    simp at ma; subst ma
    have mb' : b ∈ xs.zipIdx := p.mem_iff.mp (List.mem_append_right _ mb)
    have hb1 := zip_idx_mem mb'
    have hbl := (List.getElem?_eq_some_iff.mp hb1).1
    have ne : b.2 ≠ j := fun q => by
      have nd : ((xs.zipIdx).map (·.2)).Nodup := zip_idx_nodup
      have nd2 := (p.map (·.2)).nodup_iff.mpr nd
      simp only [List.singleton_append, List.map_cons, List.nodup_cons] at nd2
      exact nd2.1 (by rw [← q]; exact List.mem_map_of_mem mb)
    have r := argBest_R Wk (xs.length - 1) b.2 (by omega) (by rw [hj]; exact ne)
    rw [hj] at r
    have g1 : xs.getD j d = y := by simp [List.getD_eq_getElem?_getD, hy]
    have g2 : xs.getD b.2 d = b.1 := by simp [List.getD_eq_getElem?_getD, hb1]
    unfold R at r
    rw [hb, hb, g1, g2] at r
    exact r)
  simpa using this.symm
/-- the whole, by a sort of the places -/
theorem stab_all (S : SW lt) {xs : List α} {d : α} {p : Array Nat} (hp : Pre xs.length p xs.length) (hu : Up (fun i j => lt (kf (xs.getD i d)) (kf (xs.getD j d))) p xs.length) : p.toList.map (fun i => xs.getD i d) = stab lt kf xs := by
  have hm : ∀ i ∈ p.toList, i < xs.length := fun i m => by have := hp.perm.mem_iff.mp m; simpa using this
  have e0 : (List.range xs.length).map (fun i => (xs.getD i d, i)) = xs.zipIdx := by
    apply List.ext_getElem?; intro i
    rcases Nat.lt_or_ge i xs.length with h | h
    · simp [h]
    · rw [List.getElem?_eq_none (by simpa using h), List.getElem?_eq_none (by simpa using h)]
  have := stab_take (lt := lt) (kf := kf) (xs := xs) S (r := p.toList.map fun i => (xs.getD i d, i)) (rest := []) (by rw [List.append_nil, ← e0]; exact hp.perm.map _) (by
    rw [List.pairwise_map]
    exact (up_pairs hp.size hu).imp fun h => h) (fun a _ b m => by cases m)
  rw [List.map_map] at this
  have hl : p.toList.length = xs.length := by have := hp.size; simpa using this
  rw [List.length_map, hl, ← stab_length (lt := lt) (kf := kf) xs, List.take_length] at this
  exact this
end

/-! Np2 -/
/-! nsmallest -/
/-- lists stand, nothing goes -/
structure LExt (σ σ' : Hp) : Prop where
  keep : ∀ a o, (∀ l i, o ≠ .iter l i) → σ a = some o → σ' a = some o
  fresh : ∀ a, σ' a = none → σ a = none
noncomputable def LsExt (σ σ' : Hp) : Prop := ∀ a l, listAt σ a = some l → listAt σ' a = some l
theorem LExt.rfl {σ : Hp} : LExt σ σ := ⟨fun _ _ _ h => h, fun _ h => h⟩
theorem LExt.trans {a b c : Hp} (h : LExt a b) (g : LExt b c) : LExt a c := ⟨fun x o n e => g.keep x o n (h.keep x o n e), fun x e => h.fresh x (g.fresh x e)⟩
theorem LExt.ls {σ σ' : Hp} (h : LExt σ σ') : LsExt σ σ' := fun a l e => by
  unfold listAt at *
  split at e
  · rename_i q; rw [h.keep _ _ (fun _ _ q => by cases q) q]; exact e
  · rename_i q; rw [h.keep _ _ (fun _ _ q => by cases q) q]; exact e
  · cases e
theorem LsExt.trans {a b c : Hp} (h : LsExt a b) (g : LsExt b c) : LsExt a c := fun x l e => g x l (h x l e)
theorem LExt.of {σ σ' : Hp} (h : Ext σ σ') : LExt σ σ' := ⟨fun a o _ e => h a o e, fun _ e => h.fresh e⟩
theorem LExt.new {σ : Hp} {a : Addr} (o : AObj) (h : σ a = none) : LExt σ (upd σ a o) := .of (Ext.upd o h)
theorem upd_none {σ : Hp} {a b : Addr} {o : AObj} (e : upd σ a o b = none) : σ b = none ∧ b ≠ a := by
  by_cases h : b = a
  · subst h; rw [upd_same] at e; cases e
  · exact ⟨by rw [upd_ne _ _ h] at e; exact e, h⟩
theorem LExt.it {σ : Hp} {a : Addr} {l l' : Option Addr} {i i' : Nat} (h : σ a = some (.iter l i)) : LExt σ (upd σ a (.iter l' i')) := by
  refine ⟨fun b o n e => ?_, fun b e => (upd_none e).1⟩
  by_cases q : b = a
  · subst q; rw [h] at e; cases e; exact absurd (Eq.refl _) (n l i)
  · rw [upd_ne _ _ q]; exact e
/-- a new thing may change -/
theorem LExt.again {σ τ : Hp} {b : Addr} (o : AObj) (h : LExt σ τ) (hb : σ b = none) : LExt σ (upd τ b o) := by
  refine ⟨fun a p n e => ?_, fun a e => h.fresh a (upd_none e).1⟩
  by_cases q : a = b
  · subst q; rw [hb] at e; cases e
  · rw [upd_ne _ _ q]; exact h.keep a p n e
theorem ls_freeze (σ : Hp) : LsExt σ (freeze σ) := fun a l e => freeze_list e
variable {α β : Type}
noncomputable def entA (f : α → V) (e : Ent α β) : V := .tup [f e.x, .int e.o]
noncomputable def entB (f : α → V) (g : β → V) (e : Ent α β) : V := .tup [g e.k, .int e.o, f e.x]
noncomputable def EOk (kf : α → β) (xs : List α) (e : Ent α β) : Prop := e.k = kf e.x ∧ e.x ∈ xs
noncomputable def entD (kf : α → β) (d : α) : Ent α β := ⟨kf d, 0, d, 0⟩
structure NsOrd (f : α → V) (g : β → V) (kf : α → β) (lt : β → β → Bool) (ltT : Ent α β → Ent α β → Bool) (xs : List α) (d : α) (tv : Ent α β → V) (σ : Hp) : Prop where
  S : SW lt
  L : EntLt lt ltT
  cmp : ∀ a ∈ xs, ∀ b ∈ xs, ∀ σ' Q, LsExt σ σ' → Q (.bool (lt (kf a) (kf b))) σ' → opCmp .Lt (g (kf a)) (g (kf b)) Q σ'
  cmpT : ∀ a b, EOk kf xs a → EOk kf xs b → ∀ σ' Q, LsExt σ σ' → Q (.bool (ltT a b)) σ' → opCmp .Lt (tv a) (tv b) Q σ'
  sortT : ∀ es : List (Ent α β), (∀ e ∈ es, EOk kf xs e) → 2 ≤ es.length → ∀ h₀ h vs σ', LsExt σ σ' → W h₀ σ' h → Reps h vs (es.map tv) → Sorts h vs (fun i j => ltT (es.getD i (entD kf d)) (es.getD j (entD kf d)))
  isO : ∀ x ∈ xs, ∀ σ' a Q, LsExt σ σ' → Q (.bool false) σ' → opCmp .Is (f x) (.obj a) Q σ'
structure NsNone (f : α → V) (g : β → V) (kf : α → β) (lt : β → β → Bool) (xs : List α) (d : α) (σ : Hp) : Prop where
  fg : ∀ x, f x = g (kf x)
  flat : ∀ x ∈ xs, (f x).flat
  sort : ∀ h₀ h vs σ', LsExt σ σ' → W h₀ σ' h → Reps h vs (xs.map f) → Sorts h vs (fun i j => lt (kf (xs.getD i d)) (kf (xs.getD j d)))
  min : ∀ h₀ h vs σ' ita, LsExt σ σ' → W h₀ σ' h → Reps h vs (xs.map f) → (∃ l i, σ' ita = some (.iter l i)) → ∀ (A : Around) (s' : Shared) (i j : Nat) (vi vj : Value), A.units ≤ 9100 → KeepB (· = ita) h s'.heap → vs[i]? = some vi → vs[j]? = some vj → LtAt A s' vi vj (lt (kf (xs.getD i d)) (kf (xs.getD j d)))
structure NsKey (KC : FuncData → List V → (V → Hp → Prop) → Hp → Prop) (fd : FuncData) (f : α → V) (g : β → V) (kf : α → β) (lt : β → β → Bool) (xs : List α) (d : α) (σ : Hp) : Prop where
  call : ∀ x ∈ xs, ∀ σ' Q, LsExt σ σ' → Q (g (kf x)) σ' → KC fd [f x] Q σ'
  flat : ∀ x ∈ xs, (f x).flat ∧ (g (kf x)).flat
  sort : ∀ h vs, Reps h vs (xs.map fun x => g (kf x)) → Sorts h vs (fun i j => lt (kf (xs.getD i d)) (kf (xs.getD j d)))
  min : ∀ (A : Around) (s' : Shared) (i j : Nat) (ki kj : Value) (yi yj : V), A.units ≤ 9100 → (xs.map fun x => g (kf x))[i]? = some yi → (xs.map fun x => g (kf x))[j]? = some yj → (∀ h, Rep h ki yi) → (∀ h, Rep h kj yj) → LtAt A s' ki kj (lt (kf (xs.getD i d)) (kf (xs.getD j d)))
inductive NSrc (σ : Hp) (vs : List V) : V → Prop
  | list {a : Addr} : listAt σ a = some vs → NSrc σ vs (.ref a)
  | iter {a l : Addr} : σ a = some (.iter (some l) 0) → listAt σ l = some vs → NSrc σ vs (.ref a)
inductive nsC (KC : FuncData → List V → (V → Hp → Prop) → Hp → Prop) (args : List V) (Q : V → Hp → Prop) (σ : Hp) : Prop
  | mk (n : Int) (x kv : V) (α β : Type) (f : α → V) (g : β → V) (kf : α → β) (lt : β → β → Bool) (ltT : Ent α β → Ent α β → Bool) (xs : List α) (d : α) (h1 : args = [.int n, x, kv]) (h2 : 2 ≤ xs.length) (h3 : xs.length < 64) (h4 : -1000 ≤ n) (h5 : n ≤ 1000) (h6 : NSrc σ (xs.map f) x) (h7 : ((kv = .none ∧ NsOrd f g kf lt ltT xs d (entA f) σ ∧ NsNone f g kf lt xs d σ) ∨ (∃ fd, kv = .func fd ∧ NsOrd f g kf lt ltT xs d (entB f g) σ ∧ NsKey KC fd f g kf lt xs d σ))) (h8 : ∀ b σ', LExt σ σ' → σ b = none → σ' b = some (.list (((stab lt kf xs).take n.toNat).map f)) → Q (.ref b) σ') : nsC KC args Q σ
/-- a loop over an iterator that is on its way -/
theorem forx_rule {Φ : Fns} {b : List PS} {i : Nat} {F : Frm} {Q : Fl → Frm → Hp → Prop} {σ : Hp} {a l : Addr} {xs : List V} (p : Nat) (hp : p ≤ xs.length) (J : Nat → Frm → Hp → Prop) (hy : ∀ m F τ, J m F τ → τ a = some (.iter (some l) m) ∧ listAt τ l = some xs) (h0 : J p F σ)
    (step : ∀ m x F τ, xs[m]? = some x → J m F τ → ∀ K : Fl → Frm → Hp → Prop, (∀ F τ, J (m + 1) F τ → K .next F τ) → vSs Φ b K (F.set i (some x)) (upd τ a (.iter (some l) (m + 1))))
    (fin : ∀ F τ, J xs.length F τ → Q .next F (upd τ a (.iter none xs.length))) : ForX Φ b i Q a F σ := by
  refine ⟨fun n F τ => ∃ m, m + n = xs.length ∧ J m F τ, ⟨xs.length - p, p, by omega, h0⟩, ?_⟩
  rintro n F τ ⟨m, hn, hj⟩
  obtain ⟨e1, e2⟩ := hy m F τ hj
  cases e : xs[m]? with
  | none =>
    have hm : m = xs.length := by have := List.getElem?_eq_none_iff.mp e; omega
    subst hm
    have : itStep τ a = some (none, upd τ a (.iter none xs.length)) := by unfold itStep; rw [e1]; simp only [e2, e]
    rw [this]
    exact fin F τ hj
  | some x =>
    have hm := (List.getElem?_eq_some_iff.mp e).1
    have : itStep τ a = some (some x, upd τ a (.iter (some l) (m + 1))) := by unfold itStep; rw [e1]; simp only [e2, e]
    rw [this]
    exact step m x F τ e hj _ fun F' τ' h => ⟨n - 1, by omega, m + 1, by omega, h⟩
theorem forx_dead {Φ : Fns} {b : List PS} {i : Nat} {F : Frm} {Q : Fl → Frm → Hp → Prop} {σ : Hp} {a : Addr} {k : Nat} (e : σ a = some (.iter none k)) (q : Q .next F σ) : ForX Φ b i Q a F σ := by
  refine ⟨fun n F' τ => F' = F ∧ τ = σ, ⟨0, Eq.refl _, Eq.refl _⟩, ?_⟩
  rintro n F' τ ⟨rfl, rfl⟩
  have : itStep τ a = some (none, τ) := by unfold itStep; rw [e]
  rw [this]; exact q
/-- iter(iterable) -/
theorem iter_src {σ : Hp} {x : V} {vs : List V} {Q : V → Hp → Prop} (h : NSrc σ vs x) (q : ∀ ita l τ, LExt σ τ → τ ita = some (.iter (some l) 0) → listAt τ l = some vs → Q (.ref ita) τ) : opCall .iter [x] Q σ := by
  cases h with
  | list e => exact call_iter_list e fun b hb => q b _ _ (.new _ hb) (upd_same _ _ _) ((Ext.upd _ hb).listAt e)
  | iter e1 e2 => exact call_iter_iter e1 (q _ _ _ .rfl e1 e2)
theorem getD_map_V {γ : Type} (f : γ → V) (d : γ) (xs : List γ) {i : Nat} (h : i < xs.length) : (xs.map f).getD i .none = f (xs.getD i d) := by
  simp [h]
theorem sorted_ents {f : α → V} {g : β → V} {kf : α → β} {lt : β → β → Bool} {ltT : Ent α β → Ent α β → Bool} {xs : List α} {d : α} {tv : Ent α β → V} {σ τ : Hp} (O : NsOrd f g kf lt ltT xs d tv σ) (h : LsExt σ τ) {es : List (Ent α β)} (ok : ∀ e ∈ es, EOk kf xs e)
    (h2 : 2 ≤ es.length) (h64 : es.length < 64) {b : Addr} (e : τ b = some (.list (es.map tv))) {Q : V → Hp → Prop}
    (q : ∀ ys : List (Ent α β), ys.Perm es → ys.Pairwise (fun a b => ltT b a = false) → Q .none (upd τ b (.list (ys.map tv)))) : opMeth .sort (.ref b) [] Q τ := by
  refine m_sort (lt := fun i j => ltT (es.getD i (entD kf d)) (es.getD j (entD kf d))) (O.L.sw.weak fun i => es.getD i (entD kf d)) e (by simpa using h2) (by simpa using h64) (fun h₀ hp vs hw r => O.sortT es ok h2 h₀ hp vs τ h hw r) fun p hp hu => ?_
  rw [List.length_map] at hp hu
  have hm : ∀ i ∈ p.toList, i < es.length := fun i m => by have := hp.perm.mem_iff.mp m; simpa using this
  have e1 : (p.toList.map fun i => (es.map tv).getD i .none) = (p.toList.map fun i => es.getD i (entD kf d)).map tv := by
    rw [List.map_map]
    exact List.map_congr_left fun i m => getD_map_V tv _ es (hm i m)
  rw [e1]
  refine q _ ?_ ?_
  · have : ((List.range es.length).map fun i => es.getD i (entD kf d)) = es := by
      apply List.ext_getElem?; intro i
      rcases Nat.lt_or_ge i es.length with h | h
      · simp [h]
      · rw [List.getElem?_eq_none (by simpa using h), List.getElem?_eq_none h]
    exact (hp.perm.map _).trans (by rw [this])
  · rw [List.pairwise_map]
    exact (up_pairs hp.size hu).imp fun h => h.1

/-! Np3 -/
noncomputable def ps_nsOne : List PS := [.assign (.name 3) (.call .iter [(.var 1)]), .assign (.name 4) (.call .object []), .assign (.name 5) (.mink (.var 3) (.var 4) (.var 2)), .ret (.ite (.cmp .Is (.var 5) (.var 4)) (.list []) (.list [(.var 5)]))]
noncomputable def ps_nsSrt : List PS := [.ifs (.cmp .GtE (.var 0) (.var 6)) [.ret (.slice (.sortk (.var 1) (.var 2)) none (some (.var 0)) none)] []]
noncomputable def ps_nsLoopA : List PS := [.ifs (.cmp .Lt (.var 7) (.var 8)) [.expr (.vcall 10 [(.var 5), (.tuple [(.var 7), (.var 9)])]), .assign (.tup [8, 11]) (.sub (.var 5) (.int 0)), .aug 9 .Add (.int 1)] []]
noncomputable def ps_nsLoopB : List PS := [.assign (.name 12) (.vcall 2 [(.var 7)]), .ifs (.cmp .Lt (.var 12) (.var 8)) [.expr (.vcall 10 [(.var 5), (.tuple [(.var 12), (.var 9), (.var 7)])]), .assign (.tup [8, 11, 13]) (.sub (.var 5) (.int 0)), .aug 9 .Add (.int 1)] []]
noncomputable def ps_nsMid : List PS := [.ifs (.not (.var 5)) [.ret (.var 5)] [], .expr (.ucall 3 [(.var 5)]), .assign (.name 8) (.sub (.sub (.var 5) (.int 0)) (.int 0)), .assign (.name 9) (.var 0), .assign (.name 10) (.gfn 2)]
noncomputable def ps_nsEndA : List PS := [.expr (.meth .sort (.var 5) []), .ret (.comp [none, none, none] (.var 1) (.tup [1, 2]) .plain (.var 5) [])]
noncomputable def ps_nsEndB : List PS := [.expr (.meth .sort (.var 5) []), .ret (.comp [none, none, none, none] (.var 3) (.tup [1, 2, 3]) .plain (.var 5) [])]
noncomputable def ps_nsA : List PS := .assign (.name 3) (.call .iter [(.var 1)]) :: .zipc 5 [none, none, none] 1 2 [(.var 2), (.var 1)] (.call .range [(.var 0)]) (.var 3) :: (ps_nsMid ++ .forx 7 (.var 3) ps_nsLoopA :: ps_nsEndA)
noncomputable def ps_nsB : List PS := .assign (.name 3) (.call .iter [(.var 1)]) :: .zipc 5 [none, none, none, some 2] 1 2 [(.vcall 3 [(.var 2)]), (.var 1), (.var 2)] (.call .range [(.var 0)]) (.var 3) :: (ps_nsMid ++ .forx 7 (.var 3) ps_nsLoopB :: ps_nsEndB)
theorem ps_ns_eq : ps_ns = .ifs (.cmp .Eq (.var 0) (.int 1)) ps_nsOne [] :: .tryLen 6 1 ps_nsSrt :: .ifs (.cmp .Is (.var 2) .none) ps_nsA [] :: ps_nsB := rfl
section
variable {α β : Type} {f : α → V} {g : β → V} {kf : α → β} {lt : β → β → Bool} {ltT : Ent α β → Ent α β → Bool} {xs : List α} {d : α} {tv : Ent α β → V}
noncomputable def ents (kf : α → β) (xs : List α) (n : Nat) : List (Ent α β) := (xs.take n).mapIdx fun j x => ⟨kf x, j, x, j⟩
theorem zipRes_ents {n : Int} {ff : Nat → V → List V} (h : ∀ i x, xs[i]? = some x → V.tup (ff i (f x)) = tv ⟨kf x, i, x, i⟩) : zipRes n 0 (xs.map f) ff = (ents kf xs n.toNat).map tv := by
  unfold zipRes ents
  apply List.ext_getElem?
  intro i
  simp only [List.drop_zero, List.getElem?_mapIdx, List.getElem?_map, List.getElem?_take]
  split
  · cases e : xs[i]? with
    | none => simp
    | some x => simp [h i x e]
  · simp
theorem ents_length (n : Nat) : (ents kf xs n).length = min n xs.length := by simp [ents]
theorem ents_pr (n : Nat) : (ents kf xs n).map Ent.pr = (xs.take n).zipIdx := by
  unfold ents
  apply List.ext_getElem?
  intro i
  simp only [List.getElem?_map, List.getElem?_mapIdx, List.getElem?_zipIdx, Option.map_map, Nat.zero_add]
  rfl
theorem ents_ok {n : Nat} : ∀ e ∈ ents kf xs n, e.k = kf e.x ∧ e.o = e.i := fun e m => by
  unfold ents at m
  rw [List.mem_mapIdx] at m
  obtain ⟨i, hi, rfl⟩ := m
  exact ⟨rfl, rfl⟩
theorem HSt.eok {m nx : Nat} {hs : List (Ent α β)} (H : HSt lt kf ltT xs m nx hs) : ∀ e ∈ hs, EOk kf xs e := fun e me => by
  obtain ⟨rest, p, _⟩ := H.ex
  have h := zip_idx_mem (p.mem_iff.mp (List.mem_append_left _ (List.mem_map_of_mem (f := Ent.pr) me)))
  exact ⟨(H.ok e me).1, List.mem_of_mem_take (List.mem_of_getElem? h)⟩
theorem HSt.all {m nx : Nat} {hs : List (Ent α β)} (H : HSt lt kf ltT xs m nx hs) (h : xs.length ≤ m) : HSt lt kf ltT xs xs.length nx hs := by
  refine ⟨?_, H.ok, H.mono, H.hf⟩
  have := H.ex
  rw [List.take_of_length_le h] at this
  rw [List.take_length]; exact this
theorem zipHp_ext {τ : Hp} {ita l : Addr} {n : Int} {vs : List V} (h1 : τ ita = some (.iter (some l) 0)) : LExt τ (zipHp τ ita l 0 vs n) := by
  unfold zipHp; split <;> exact .it h1
/-- how far the heap has come -/
structure NsAt (σ : Hp) (lt : β → β → Bool) (kf : α → β) (ltT : Ent α β → Ent α β → Bool) (xs : List α) (tv : Ent α β → V) (f : α → V) (N : Nat) (ita l b : Addr) (m nx : Nat) (hs : List (Ent α β)) (t : Ent α β) (τ : Hp) : Prop where
  H : HSt lt kf ltT xs m nx hs
  ht : hs[0]? = some t
  hl : hs.length = N
  ext : LExt σ τ
  ei : τ ita = some (.iter (some l) m)
  el : listAt τ l = some (xs.map f)
  eb : τ b = some (.list (hs.map tv))
  nb : σ b = none
  lb : l ≠ b
theorem NsAt.step {σ τ : Hp} {N : Nat} {ita l b : Addr} {m nx : Nat} {hs : List (Ent α β)} {t : Ent α β} (A : NsAt σ lt kf ltT xs tv f N ita l b m nx hs t τ) (k : Option Addr) (j : Nat) : LExt σ (upd τ ita (.iter k j)) ∧ upd τ ita (.iter k j) b = some (.list (hs.map tv)) ∧ listAt (upd τ ita (.iter k j)) l = some (xs.map f) := by
  refine ⟨A.ext.trans (.it A.ei), ?_, (LExt.it A.ei).ls _ _ A.el⟩
  rw [upd_ne _ _ (by rintro rfl; have := A.ei; rw [A.eb] at this; cases this)]; exact A.eb
theorem NsAt.skip {σ τ : Hp} {N : Nat} {ita l b : Addr} {m nx : Nat} {hs : List (Ent α β)} {t : Ent α β} (S : SW lt) (L : EntLt lt ltT) (A : NsAt σ lt kf ltT xs tv f N ita l b m nx hs t τ) {x : α} (hx : xs[m]? = some x) (h : lt (kf x) t.k = false) : NsAt σ lt kf ltT xs tv f N ita l b (m + 1) nx hs t (upd τ ita (.iter (some l) (m + 1))) :=
  ⟨A.H.skip S L hx A.ht h, A.ht, A.hl, (A.step _ _).1, upd_same _ _ _, (A.step _ _).2.2, (A.step _ _).2.1, A.nb, A.lb⟩
theorem NsAt.put {σ τ : Hp} {N : Nat} {ita l b : Addr} {m nx : Nat} {hs : List (Ent α β)} {t : Ent α β} (S : SW lt) (L : EntLt lt ltT) (A : NsAt σ lt kf ltT xs tv f N ita l b m nx hs t τ) {x : α} (hx : xs[m]? = some x) (h : lt (kf x) t.k = true) :
    ∃ t', NsAt σ lt kf ltT xs tv f N ita l b (m + 1) (nx + 1) (siftF ltT (hs.set 0 ⟨kf x, nx, x, m⟩) 0 ⟨kf x, nx, x, m⟩) t' (upd (upd τ ita (.iter (some l) (m + 1))) b (.list ((siftF ltT (hs.set 0 ⟨kf x, nx, x, m⟩) 0 ⟨kf x, nx, x, m⟩).map tv))) := by
  have H := A.H.put S L hx A.ht h rfl
  have h0 := lt_of_some A.ht
  have hl' : (siftF ltT (hs.set 0 ⟨kf x, nx, x, m⟩) 0 ⟨kf x, nx, x, m⟩).length = N := by rw [siftF_length, List.length_set]; exact A.hl
  generalize siftF ltT (hs.set 0 (⟨kf x, nx, x, m⟩ : Ent α β)) 0 ⟨kf x, nx, x, m⟩ = hs' at H hl'
  have hl := A.hl
  have e0 : hs'[0]? = some hs'[0] := List.getElem?_eq_getElem (by omega)
  have st := A.step (some l) (m + 1)
  have ib : ita ≠ b := by rintro rfl; have := A.ei; rw [A.eb] at this; cases this
  exact ⟨_, H, e0, hl', st.1.again _ A.nb, by rw [upd_ne _ _ ib, upd_same], by unfold listAt; rw [upd_ne _ _ A.lb]; exact st.2.2, upd_same _ _ _, A.nb, A.lb⟩
end

/-! Np4 -/
section
variable {α β : Type} {f : α → V} {g : β → V} {kf : α → β} {lt : β → β → Bool} {ltT : Ent α β → Ent α β → Bool} {xs : List α} {d : α} {tv : Ent α β → V}
/-- what every entry shows -/
noncomputable def TV (tv : Ent α β → V) (g : β → V) (kf : α → β) (xs : List α) : Prop := ∀ e, EOk kf xs e → ∃ rest : List V, rest.length ≤ 1 ∧ tv e = .tup (g e.k :: .int e.o :: rest)
theorem mid_v (Φ : Fns) (hH : ∀ args Q σ, heapifyC args Q σ → Φ 3 args Q σ) (hG : ∀ fd σ, Φ 1001 [.int 2, .func fd] (fun _ _ => True) σ → ∀ args Q σ, heapreplaceC args Q σ → Φ 1000 (.func fd :: args) Q σ)
    {σ τ1 : Hp} (O : NsOrd f g kf lt ltT xs d tv σ) (htv : TV tv g kf xs) {b : Addr} (hE : LExt σ τ1) (hb : τ1 b = none) {n : Int} (h2 : 2 ≤ xs.length) (h64 : xs.length < 64) {Q : V → Hp → Prop} {R : Fl → Frm → Hp → Prop} (hRR : ∀ v F σ, R (.ret v) F σ = Q v σ) {ss : List PS} {x1 x2 x3 x4 x6 x7 x8 x9 x10 x11 x12 x13 : Option V}
    (q0 : n ≤ 0 → Q (.ref b) (upd τ1 b (.list [])))
    (q1 : 0 < n → ∀ fd, (∀ args Q σ, heapreplaceC args Q σ → Φ 1000 (.func fd :: args) Q σ) → ∀ hs t, HSt lt kf ltT xs n.toNat n.toNat hs → hs[0]? = some t → hs.length = min n.toNat xs.length →
      vSs Φ ss R [some (.int n), x1, x2, x3, x4, some (.ref b), x6, x7, some (g t.k), some (.int n), some (.func fd), x11, x12, x13] (upd τ1 b (.list (hs.map tv)))) :
    vSs Φ (ps_nsMid ++ ss) R [some (.int n), x1, x2, x3, x4, some (.ref b), x6, x7, x8, x9, x10, x11, x12, x13] (upd τ1 b (.list ((ents kf xs n.toNat).map tv))) := by
  have nb : σ b = none := hE.fresh b hb
  have le := ents_length (kf := kf) (xs := xs) n.toNat
  unfold ps_nsMid
  simp only [List.cons_append, List.nil_append]
  ((with_reducible refine go_cons ?_); ((try simp only [e_int, e_bool, e_none, e_str, e_var, e_bin, e_neg, n_int, e_not, e_cmp, e_and, e_or, e_ite, e_sub, e_slice, e_list, e_tuple, e_call, e_ucall, e_meth, e_comp, e_gfn, e_vcall, e_sortk, e_mink, e_ucalld, e_ucallk, s_forx, s_tryLen, s_zipc, t_not, t_and, t_or, t_cmp, t_var, t_sub, t_call, t_ucall, s_expr, s_assign, s_setitem, s_aug, s_augi, s_ifs, s_while, s_for, s_ret, s_brk, s_cont, ss_nil, c_range1, c_range2, c_range3, i_rng, i_ref, i_tup, i_enm, i_rev, bt_name, bt_tup, look_zero, look_succ, r_next, r_ret, sa_nil, sa_cons, es_nil, es_cons, o_none, o_some, ts_nil, ts_cons, c_lt, c_le, c_gt, c_ge, c_eq, c_ne, b_add, b_sub, b_mul, b_div, b_mod, b_pow, b_shr, a_add, a_mul, t_bool, t_int, List.map, List.cons_append, List.nil_append, List.getElem?_cons_succ, List.getElem?_cons_zero, List.set_cons_succ, List.set_cons_zero, frOf]); (repeat (first | with_reducible refine q_nextI ?_ | with_reducible refine q_retI ?_ | with_reducible refine q_contI ?_ | with_reducible refine q_brkI ?_ | with_reducible refine ss_nilI ?_ | rw [q_next] | rw [q_ret] | rw [q_cont] | rw [q_brk] | rw [ss_nil])); (try simp only [r_next, r_ret])))
  refine ⟨_, listAt_list (upd_same _ _ _), ?_⟩
  by_cases hn : n ≤ 0
  · have e0 : ents kf xs n.toNat = [] := List.eq_nil_of_length_eq_zero (by rw [le]; omega)
    rw [e0]
    simp only [List.map_nil, List.isEmpty_nil, Bool.not_true, Bool.not_false, if_true]
    ((with_reducible refine go_cons ?_); ((try simp only [e_int, e_bool, e_none, e_str, e_var, e_bin, e_neg, n_int, e_not, e_cmp, e_and, e_or, e_ite, e_sub, e_slice, e_list, e_tuple, e_call, e_ucall, e_meth, e_comp, e_gfn, e_vcall, e_sortk, e_mink, e_ucalld, e_ucallk, s_forx, s_tryLen, s_zipc, t_not, t_and, t_or, t_cmp, t_var, t_sub, t_call, t_ucall, s_expr, s_assign, s_setitem, s_aug, s_augi, s_ifs, s_while, s_for, s_ret, s_brk, s_cont, ss_nil, c_range1, c_range2, c_range3, i_rng, i_ref, i_tup, i_enm, i_rev, bt_name, bt_tup, look_zero, look_succ, r_next, r_ret, sa_nil, sa_cons, es_nil, es_cons, o_none, o_some, ts_nil, ts_cons, c_lt, c_le, c_gt, c_ge, c_eq, c_ne, b_add, b_sub, b_mul, b_div, b_mod, b_pow, b_shr, a_add, a_mul, t_bool, t_int, List.map, List.cons_append, List.nil_append, List.getElem?_cons_succ, List.getElem?_cons_zero, List.set_cons_succ, List.set_cons_zero, frOf]); (repeat (first | with_reducible refine q_nextI ?_ | with_reducible refine q_retI ?_ | with_reducible refine q_contI ?_ | with_reducible refine q_brkI ?_ | with_reducible refine ss_nilI ?_ | rw [q_next] | rw [q_ret] | rw [q_cont] | rw [q_brk] | rw [ss_nil])); (try simp only [r_next, r_ret])))
    rw [hRR]; exact q0 hn
  have hne : ((ents kf xs n.toNat).map tv).isEmpty = false := by
    rw [List.isEmpty_eq_false_iff]
    intro h
    have := congrArg List.length h
    rw [List.length_map, le] at this
    simp only [List.length_nil] at this; omega
  rw [hne]
  simp only [Bool.not_true, Bool.not_false, Bool.false_eq_true, if_false]
  ((try simp only [e_int, e_bool, e_none, e_str, e_var, e_bin, e_neg, n_int, e_not, e_cmp, e_and, e_or, e_ite, e_sub, e_slice, e_list, e_tuple, e_call, e_ucall, e_meth, e_comp, e_gfn, e_vcall, e_sortk, e_mink, e_ucalld, e_ucallk, s_forx, s_tryLen, s_zipc, t_not, t_and, t_or, t_cmp, t_var, t_sub, t_call, t_ucall, s_expr, s_assign, s_setitem, s_aug, s_augi, s_ifs, s_while, s_for, s_ret, s_brk, s_cont, ss_nil, c_range1, c_range2, c_range3, i_rng, i_ref, i_tup, i_enm, i_rev, bt_name, bt_tup, look_zero, look_succ, r_next, r_ret, sa_nil, sa_cons, es_nil, es_cons, o_none, o_some, ts_nil, ts_cons, c_lt, c_le, c_gt, c_ge, c_eq, c_ne, b_add, b_sub, b_mul, b_div, b_mod, b_pow, b_shr, a_add, a_mul, t_bool, t_int, List.map, List.cons_append, List.nil_append, List.getElem?_cons_succ, List.getElem?_cons_zero, List.set_cons_succ, List.set_cons_zero, frOf]); (repeat (first | with_reducible refine q_nextI ?_ | with_reducible refine q_retI ?_ | with_reducible refine q_contI ?_ | with_reducible refine q_brkI ?_ | with_reducible refine ss_nilI ?_ | rw [q_next] | rw [q_ret] | rw [q_cont] | rw [q_brk] | rw [ss_nil])); (try simp only [r_next, r_ret]))
  ((with_reducible refine go_cons ?_); ((try simp only [e_int, e_bool, e_none, e_str, e_var, e_bin, e_neg, n_int, e_not, e_cmp, e_and, e_or, e_ite, e_sub, e_slice, e_list, e_tuple, e_call, e_ucall, e_meth, e_comp, e_gfn, e_vcall, e_sortk, e_mink, e_ucalld, e_ucallk, s_forx, s_tryLen, s_zipc, t_not, t_and, t_or, t_cmp, t_var, t_sub, t_call, t_ucall, s_expr, s_assign, s_setitem, s_aug, s_augi, s_ifs, s_while, s_for, s_ret, s_brk, s_cont, ss_nil, c_range1, c_range2, c_range3, i_rng, i_ref, i_tup, i_enm, i_rev, bt_name, bt_tup, look_zero, look_succ, r_next, r_ret, sa_nil, sa_cons, es_nil, es_cons, o_none, o_some, ts_nil, ts_cons, c_lt, c_le, c_gt, c_ge, c_eq, c_ne, b_add, b_sub, b_mul, b_div, b_mod, b_pow, b_shr, a_add, a_mul, t_bool, t_int, List.map, List.cons_append, List.nil_append, List.getElem?_cons_succ, List.getElem?_cons_zero, List.set_cons_succ, List.set_cons_zero, frOf]); (repeat (first | with_reducible refine q_nextI ?_ | with_reducible refine q_retI ?_ | with_reducible refine q_contI ?_ | with_reducible refine q_brkI ?_ | with_reducible refine ss_nilI ?_ | rw [q_next] | rw [q_ret] | rw [q_cont] | rw [q_brk] | rw [ss_nil])); (try simp only [r_next, r_ret])))
  have H := HSt.start (lt := lt) (kf := kf) (n := n.toNat) O.L (ents_pr (kf := kf) (xs := xs) n.toNat) ents_ok
  have hl : (heapifyF ltT (ents kf xs n.toNat)).length = min n.toNat xs.length := by
    rw [(heapify_ok O.L.sw _).2.length_eq, le]
  have hok : ∀ e ∈ ents kf xs n.toNat, EOk kf xs e := fun e m => H.eok e ((heapify_ok O.L.sw _).2.mem_iff.mpr m)
  refine hH _ _ _ ⟨Ent α β, tv, ltT, EOk kf xs, b, ents kf xs n.toNat, rfl, upd_same _ _ _, hok, ?_, by rw [le]; exact big_of (by omega), ?_⟩
  · intro x y px py ys Q q
    rw [upd_upd] at q ⊢
    exact O.cmpT x y px py _ _ (hE.again _ nb).ls q
  rw [upd_upd]
  generalize heapifyF ltT (ents kf xs n.toNat) = hs at H hl
  have e0 : hs[0]? = some hs[0] := List.getElem?_eq_getElem (by omega)
  generalize hs[0] = t at e0
  ((try simp only [e_int, e_bool, e_none, e_str, e_var, e_bin, e_neg, n_int, e_not, e_cmp, e_and, e_or, e_ite, e_sub, e_slice, e_list, e_tuple, e_call, e_ucall, e_meth, e_comp, e_gfn, e_vcall, e_sortk, e_mink, e_ucalld, e_ucallk, s_forx, s_tryLen, s_zipc, t_not, t_and, t_or, t_cmp, t_var, t_sub, t_call, t_ucall, s_expr, s_assign, s_setitem, s_aug, s_augi, s_ifs, s_while, s_for, s_ret, s_brk, s_cont, ss_nil, c_range1, c_range2, c_range3, i_rng, i_ref, i_tup, i_enm, i_rev, bt_name, bt_tup, look_zero, look_succ, r_next, r_ret, sa_nil, sa_cons, es_nil, es_cons, o_none, o_some, ts_nil, ts_cons, c_lt, c_le, c_gt, c_ge, c_eq, c_ne, b_add, b_sub, b_mul, b_div, b_mod, b_pow, b_shr, a_add, a_mul, t_bool, t_int, List.map, List.cons_append, List.nil_append, List.getElem?_cons_succ, List.getElem?_cons_zero, List.set_cons_succ, List.set_cons_zero, frOf]); (repeat (first | with_reducible refine q_nextI ?_ | with_reducible refine q_retI ?_ | with_reducible refine q_contI ?_ | with_reducible refine q_brkI ?_ | with_reducible refine ss_nilI ?_ | rw [q_next] | rw [q_ret] | rw [q_cont] | rw [q_brk] | rw [ss_nil])); (try simp only [r_next, r_ret]))
  ((with_reducible refine go_cons ?_); ((try simp only [e_int, e_bool, e_none, e_str, e_var, e_bin, e_neg, n_int, e_not, e_cmp, e_and, e_or, e_ite, e_sub, e_slice, e_list, e_tuple, e_call, e_ucall, e_meth, e_comp, e_gfn, e_vcall, e_sortk, e_mink, e_ucalld, e_ucallk, s_forx, s_tryLen, s_zipc, t_not, t_and, t_or, t_cmp, t_var, t_sub, t_call, t_ucall, s_expr, s_assign, s_setitem, s_aug, s_augi, s_ifs, s_while, s_for, s_ret, s_brk, s_cont, ss_nil, c_range1, c_range2, c_range3, i_rng, i_ref, i_tup, i_enm, i_rev, bt_name, bt_tup, look_zero, look_succ, r_next, r_ret, sa_nil, sa_cons, es_nil, es_cons, o_none, o_some, ts_nil, ts_cons, c_lt, c_le, c_gt, c_ge, c_eq, c_ne, b_add, b_sub, b_mul, b_div, b_mod, b_pow, b_shr, a_add, a_mul, t_bool, t_int, List.map, List.cons_append, List.nil_append, List.getElem?_cons_succ, List.getElem?_cons_zero, List.set_cons_succ, List.set_cons_zero, frOf]); (repeat (first | with_reducible refine q_nextI ?_ | with_reducible refine q_retI ?_ | with_reducible refine q_contI ?_ | with_reducible refine q_brkI ?_ | with_reducible refine ss_nilI ?_ | rw [q_next] | rw [q_ret] | rw [q_cont] | rw [q_brk] | rw [ss_nil])); (try simp only [r_next, r_ret])))
  obtain ⟨rest, hr, et⟩ := htv t (H.eok t (List.mem_of_getElem? e0))
  refine opSub_list (k := 0) (upd_same _ _ _) (x := tv t) (by rw [List.getElem?_map, e0]; rfl) ?_
  rw [et]
  refine sub_tup (by simp only [List.length_cons]; exact big_of (by omega)) (x := g t.k) (by unfold nth; simp) ?_
  ((try simp only [e_int, e_bool, e_none, e_str, e_var, e_bin, e_neg, n_int, e_not, e_cmp, e_and, e_or, e_ite, e_sub, e_slice, e_list, e_tuple, e_call, e_ucall, e_meth, e_comp, e_gfn, e_vcall, e_sortk, e_mink, e_ucalld, e_ucallk, s_forx, s_tryLen, s_zipc, t_not, t_and, t_or, t_cmp, t_var, t_sub, t_call, t_ucall, s_expr, s_assign, s_setitem, s_aug, s_augi, s_ifs, s_while, s_for, s_ret, s_brk, s_cont, ss_nil, c_range1, c_range2, c_range3, i_rng, i_ref, i_tup, i_enm, i_rev, bt_name, bt_tup, look_zero, look_succ, r_next, r_ret, sa_nil, sa_cons, es_nil, es_cons, o_none, o_some, ts_nil, ts_cons, c_lt, c_le, c_gt, c_ge, c_eq, c_ne, b_add, b_sub, b_mul, b_div, b_mod, b_pow, b_shr, a_add, a_mul, t_bool, t_int, List.map, List.cons_append, List.nil_append, List.getElem?_cons_succ, List.getElem?_cons_zero, List.set_cons_succ, List.set_cons_zero, frOf]); (repeat (first | with_reducible refine q_nextI ?_ | with_reducible refine q_retI ?_ | with_reducible refine q_contI ?_ | with_reducible refine q_brkI ?_ | with_reducible refine ss_nilI ?_ | rw [q_next] | rw [q_ret] | rw [q_cont] | rw [q_brk] | rw [ss_nil])); (try simp only [r_next, r_ret]))
  ((with_reducible refine go_cons ?_); ((try simp only [e_int, e_bool, e_none, e_str, e_var, e_bin, e_neg, n_int, e_not, e_cmp, e_and, e_or, e_ite, e_sub, e_slice, e_list, e_tuple, e_call, e_ucall, e_meth, e_comp, e_gfn, e_vcall, e_sortk, e_mink, e_ucalld, e_ucallk, s_forx, s_tryLen, s_zipc, t_not, t_and, t_or, t_cmp, t_var, t_sub, t_call, t_ucall, s_expr, s_assign, s_setitem, s_aug, s_augi, s_ifs, s_while, s_for, s_ret, s_brk, s_cont, ss_nil, c_range1, c_range2, c_range3, i_rng, i_ref, i_tup, i_enm, i_rev, bt_name, bt_tup, look_zero, look_succ, r_next, r_ret, sa_nil, sa_cons, es_nil, es_cons, o_none, o_some, ts_nil, ts_cons, c_lt, c_le, c_gt, c_ge, c_eq, c_ne, b_add, b_sub, b_mul, b_div, b_mod, b_pow, b_shr, a_add, a_mul, t_bool, t_int, List.map, List.cons_append, List.nil_append, List.getElem?_cons_succ, List.getElem?_cons_zero, List.set_cons_succ, List.set_cons_zero, frOf]); (repeat (first | with_reducible refine q_nextI ?_ | with_reducible refine q_retI ?_ | with_reducible refine q_contI ?_ | with_reducible refine q_brkI ?_ | with_reducible refine ss_nilI ?_ | rw [q_next] | rw [q_ret] | rw [q_cont] | rw [q_brk] | rw [ss_nil])); (try simp only [r_next, r_ret])))
  ((with_reducible refine go_cons ?_); ((try simp only [e_int, e_bool, e_none, e_str, e_var, e_bin, e_neg, n_int, e_not, e_cmp, e_and, e_or, e_ite, e_sub, e_slice, e_list, e_tuple, e_call, e_ucall, e_meth, e_comp, e_gfn, e_vcall, e_sortk, e_mink, e_ucalld, e_ucallk, s_forx, s_tryLen, s_zipc, t_not, t_and, t_or, t_cmp, t_var, t_sub, t_call, t_ucall, s_expr, s_assign, s_setitem, s_aug, s_augi, s_ifs, s_while, s_for, s_ret, s_brk, s_cont, ss_nil, c_range1, c_range2, c_range3, i_rng, i_ref, i_tup, i_enm, i_rev, bt_name, bt_tup, look_zero, look_succ, r_next, r_ret, sa_nil, sa_cons, es_nil, es_cons, o_none, o_some, ts_nil, ts_cons, c_lt, c_le, c_gt, c_ge, c_eq, c_ne, b_add, b_sub, b_mul, b_div, b_mod, b_pow, b_shr, a_add, a_mul, t_bool, t_int, List.map, List.cons_append, List.nil_append, List.getElem?_cons_succ, List.getElem?_cons_zero, List.set_cons_succ, List.set_cons_zero, frOf]); (repeat (first | with_reducible refine q_nextI ?_ | with_reducible refine q_retI ?_ | with_reducible refine q_contI ?_ | with_reducible refine q_brkI ?_ | with_reducible refine ss_nilI ?_ | rw [q_next] | rw [q_ret] | rw [q_cont] | rw [q_brk] | rw [ss_nil])); (try simp only [r_next, r_ret])))
  intro fd hfd
  ((try simp only [e_int, e_bool, e_none, e_str, e_var, e_bin, e_neg, n_int, e_not, e_cmp, e_and, e_or, e_ite, e_sub, e_slice, e_list, e_tuple, e_call, e_ucall, e_meth, e_comp, e_gfn, e_vcall, e_sortk, e_mink, e_ucalld, e_ucallk, s_forx, s_tryLen, s_zipc, t_not, t_and, t_or, t_cmp, t_var, t_sub, t_call, t_ucall, s_expr, s_assign, s_setitem, s_aug, s_augi, s_ifs, s_while, s_for, s_ret, s_brk, s_cont, ss_nil, c_range1, c_range2, c_range3, i_rng, i_ref, i_tup, i_enm, i_rev, bt_name, bt_tup, look_zero, look_succ, r_next, r_ret, sa_nil, sa_cons, es_nil, es_cons, o_none, o_some, ts_nil, ts_cons, c_lt, c_le, c_gt, c_ge, c_eq, c_ne, b_add, b_sub, b_mul, b_div, b_mod, b_pow, b_shr, a_add, a_mul, t_bool, t_int, List.map, List.cons_append, List.nil_append, List.getElem?_cons_succ, List.getElem?_cons_zero, List.set_cons_succ, List.set_cons_zero, frOf]); (repeat (first | with_reducible refine q_nextI ?_ | with_reducible refine q_retI ?_ | with_reducible refine q_contI ?_ | with_reducible refine q_brkI ?_ | with_reducible refine ss_nilI ?_ | rw [q_next] | rw [q_ret] | rw [q_cont] | rw [q_brk] | rw [ss_nil])); (try simp only [r_next, r_ret]))
  exact q1 (by omega) fd (hG fd _ hfd) hs t H e0 hl
/-- the loop without a key -/
theorem loopA_v (Φ : Fns) {fd : FuncData} (hR : ∀ args Q σ, heapreplaceC args Q σ → Φ 1000 (.func fd :: args) Q σ) {σ : Hp} (O : NsOrd f g kf lt ltT xs d (entA f) σ) (fg : ∀ x, f x = g (kf x)) (h64 : xs.length < 64)
    {N : Nat} (hN : N ≤ 1000) {ita l b : Addr} {m0 : Nat} (hm0 : m0 ≤ xs.length) {hs : List (Ent α β)} {t : Ent α β} {τ : Hp} (A : NsAt σ lt kf ltT xs (entA f) f N ita l b m0 m0 hs t τ) {Q : Fl → Frm → Hp → Prop} {x0 x1 x2 x3 x4 x6 x7 x11 x12 x13 : Option V}
    (q : ∀ y7 y8 y9 y11 nx hs t τ', NsAt σ lt kf ltT xs (entA f) f N ita l b xs.length nx hs t τ' → Q .next [x0, x1, x2, x3, x4, some (.ref b), x6, y7, y8, y9, some (.func fd), y11, x12, x13] (upd τ' ita (.iter none xs.length))) :
    ForX Φ ps_nsLoopA 7 Q ita [x0, x1, x2, x3, x4, some (.ref b), x6, x7, some (g t.k), some (.int m0), some (.func fd), x11, x12, x13] τ := by
  refine forx_rule (l := l) (xs := xs.map f) m0 (by simpa using hm0) (fun m F τ => ∃ (nx : Nat) (hs : List (Ent α β)) (t : Ent α β) (y7 y11 : Option V), nx ≤ m ∧ F = [x0, x1, x2, x3, x4, some (.ref b), x6, y7, some (g t.k), some (.int nx), some (.func fd), y11, x12, x13] ∧ NsAt σ lt kf ltT xs (entA f) f N ita l b m nx hs t τ) ?_ ?_ ?_ ?_
  · rintro m F τ ⟨nx, hs, t, y7, y11, _, rfl, A⟩
    exact ⟨A.ei, A.el⟩
  · exact ⟨m0, hs, t, x7, x11, Nat.le_refl _, rfl, A⟩
  · rintro m v F τ hv ⟨nx, hs, t, y7, y11, hnx, rfl, A⟩ K hK
    rw [List.getElem?_map, Option.map_eq_some_iff] at hv
    obtain ⟨x, hx, rfl⟩ := hv
    have mx := List.mem_of_getElem? hx
    have okt := A.H.eok t (List.mem_of_getElem? A.ht)
    unfold ps_nsLoopA
    ((try simp only [e_int, e_bool, e_none, e_str, e_var, e_bin, e_neg, n_int, e_not, e_cmp, e_and, e_or, e_ite, e_sub, e_slice, e_list, e_tuple, e_call, e_ucall, e_meth, e_comp, e_gfn, e_vcall, e_sortk, e_mink, e_ucalld, e_ucallk, s_forx, s_tryLen, s_zipc, t_not, t_and, t_or, t_cmp, t_var, t_sub, t_call, t_ucall, s_expr, s_assign, s_setitem, s_aug, s_augi, s_ifs, s_while, s_for, s_ret, s_brk, s_cont, ss_nil, c_range1, c_range2, c_range3, i_rng, i_ref, i_tup, i_enm, i_rev, bt_name, bt_tup, look_zero, look_succ, r_next, r_ret, sa_nil, sa_cons, es_nil, es_cons, o_none, o_some, ts_nil, ts_cons, c_lt, c_le, c_gt, c_ge, c_eq, c_ne, b_add, b_sub, b_mul, b_div, b_mod, b_pow, b_shr, a_add, a_mul, t_bool, t_int, List.map, List.cons_append, List.nil_append, List.getElem?_cons_succ, List.getElem?_cons_zero, List.set_cons_succ, List.set_cons_zero, frOf]); (repeat (first | with_reducible refine q_nextI ?_ | with_reducible refine q_retI ?_ | with_reducible refine q_contI ?_ | with_reducible refine q_brkI ?_ | with_reducible refine ss_nilI ?_ | rw [q_next] | rw [q_ret] | rw [q_cont] | rw [q_brk] | rw [ss_nil])); (try simp only [r_next, r_ret]))
    ((with_reducible refine go_cons ?_); ((try simp only [e_int, e_bool, e_none, e_str, e_var, e_bin, e_neg, n_int, e_not, e_cmp, e_and, e_or, e_ite, e_sub, e_slice, e_list, e_tuple, e_call, e_ucall, e_meth, e_comp, e_gfn, e_vcall, e_sortk, e_mink, e_ucalld, e_ucallk, s_forx, s_tryLen, s_zipc, t_not, t_and, t_or, t_cmp, t_var, t_sub, t_call, t_ucall, s_expr, s_assign, s_setitem, s_aug, s_augi, s_ifs, s_while, s_for, s_ret, s_brk, s_cont, ss_nil, c_range1, c_range2, c_range3, i_rng, i_ref, i_tup, i_enm, i_rev, bt_name, bt_tup, look_zero, look_succ, r_next, r_ret, sa_nil, sa_cons, es_nil, es_cons, o_none, o_some, ts_nil, ts_cons, c_lt, c_le, c_gt, c_ge, c_eq, c_ne, b_add, b_sub, b_mul, b_div, b_mod, b_pow, b_shr, a_add, a_mul, t_bool, t_int, List.map, List.cons_append, List.nil_append, List.getElem?_cons_succ, List.getElem?_cons_zero, List.set_cons_succ, List.set_cons_zero, frOf]); (repeat (first | with_reducible refine q_nextI ?_ | with_reducible refine q_retI ?_ | with_reducible refine q_contI ?_ | with_reducible refine q_brkI ?_ | with_reducible refine ss_nilI ?_ | rw [q_next] | rw [q_ret] | rw [q_cont] | rw [q_brk] | rw [ss_nil])); (try simp only [r_next, r_ret])))
    rw [okt.1, fg x]
    refine O.cmp x mx t.x okt.2 _ _ (A.step _ _).1.ls ?_
    ((try simp only [e_int, e_bool, e_none, e_str, e_var, e_bin, e_neg, n_int, e_not, e_cmp, e_and, e_or, e_ite, e_sub, e_slice, e_list, e_tuple, e_call, e_ucall, e_meth, e_comp, e_gfn, e_vcall, e_sortk, e_mink, e_ucalld, e_ucallk, s_forx, s_tryLen, s_zipc, t_not, t_and, t_or, t_cmp, t_var, t_sub, t_call, t_ucall, s_expr, s_assign, s_setitem, s_aug, s_augi, s_ifs, s_while, s_for, s_ret, s_brk, s_cont, ss_nil, c_range1, c_range2, c_range3, i_rng, i_ref, i_tup, i_enm, i_rev, bt_name, bt_tup, look_zero, look_succ, r_next, r_ret, sa_nil, sa_cons, es_nil, es_cons, o_none, o_some, ts_nil, ts_cons, c_lt, c_le, c_gt, c_ge, c_eq, c_ne, b_add, b_sub, b_mul, b_div, b_mod, b_pow, b_shr, a_add, a_mul, t_bool, t_int, List.map, List.cons_append, List.nil_append, List.getElem?_cons_succ, List.getElem?_cons_zero, List.set_cons_succ, List.set_cons_zero, frOf]); (repeat (first | with_reducible refine q_nextI ?_ | with_reducible refine q_retI ?_ | with_reducible refine q_contI ?_ | with_reducible refine q_brkI ?_ | with_reducible refine ss_nilI ?_ | rw [q_next] | rw [q_ret] | rw [q_cont] | rw [q_brk] | rw [ss_nil])); (try simp only [r_next, r_ret]))
    cases hlt : lt (kf x) (kf t.x) with
    | false =>
      simp only [Bool.false_eq_true, if_false]
      ((try simp only [e_int, e_bool, e_none, e_str, e_var, e_bin, e_neg, n_int, e_not, e_cmp, e_and, e_or, e_ite, e_sub, e_slice, e_list, e_tuple, e_call, e_ucall, e_meth, e_comp, e_gfn, e_vcall, e_sortk, e_mink, e_ucalld, e_ucallk, s_forx, s_tryLen, s_zipc, t_not, t_and, t_or, t_cmp, t_var, t_sub, t_call, t_ucall, s_expr, s_assign, s_setitem, s_aug, s_augi, s_ifs, s_while, s_for, s_ret, s_brk, s_cont, ss_nil, c_range1, c_range2, c_range3, i_rng, i_ref, i_tup, i_enm, i_rev, bt_name, bt_tup, look_zero, look_succ, r_next, r_ret, sa_nil, sa_cons, es_nil, es_cons, o_none, o_some, ts_nil, ts_cons, c_lt, c_le, c_gt, c_ge, c_eq, c_ne, b_add, b_sub, b_mul, b_div, b_mod, b_pow, b_shr, a_add, a_mul, t_bool, t_int, List.map, List.cons_append, List.nil_append, List.getElem?_cons_succ, List.getElem?_cons_zero, List.set_cons_succ, List.set_cons_zero, frOf]); (repeat (first | with_reducible refine q_nextI ?_ | with_reducible refine q_retI ?_ | with_reducible refine q_contI ?_ | with_reducible refine q_brkI ?_ | with_reducible refine ss_nilI ?_ | rw [q_next] | rw [q_ret] | rw [q_cont] | rw [q_brk] | rw [ss_nil])); (try simp only [r_next, r_ret]))
      exact hK _ _ ⟨nx, hs, t, _, y11, by omega, by rw [okt.1], A.skip O.S O.L hx (by rw [okt.1]; exact hlt)⟩
    | true =>
      obtain ⟨t', A'⟩ := A.put O.S O.L hx (by rw [okt.1]; exact hlt)
      have okt' := A'.H.eok t' (List.mem_of_getElem? A'.ht)
      simp only [if_true]
      ((with_reducible refine go_cons ?_); ((try simp only [e_int, e_bool, e_none, e_str, e_var, e_bin, e_neg, n_int, e_not, e_cmp, e_and, e_or, e_ite, e_sub, e_slice, e_list, e_tuple, e_call, e_ucall, e_meth, e_comp, e_gfn, e_vcall, e_sortk, e_mink, e_ucalld, e_ucallk, s_forx, s_tryLen, s_zipc, t_not, t_and, t_or, t_cmp, t_var, t_sub, t_call, t_ucall, s_expr, s_assign, s_setitem, s_aug, s_augi, s_ifs, s_while, s_for, s_ret, s_brk, s_cont, ss_nil, c_range1, c_range2, c_range3, i_rng, i_ref, i_tup, i_enm, i_rev, bt_name, bt_tup, look_zero, look_succ, r_next, r_ret, sa_nil, sa_cons, es_nil, es_cons, o_none, o_some, ts_nil, ts_cons, c_lt, c_le, c_gt, c_ge, c_eq, c_ne, b_add, b_sub, b_mul, b_div, b_mod, b_pow, b_shr, a_add, a_mul, t_bool, t_int, List.map, List.cons_append, List.nil_append, List.getElem?_cons_succ, List.getElem?_cons_zero, List.set_cons_succ, List.set_cons_zero, frOf]); (repeat (first | with_reducible refine q_nextI ?_ | with_reducible refine q_retI ?_ | with_reducible refine q_contI ?_ | with_reducible refine q_brkI ?_ | with_reducible refine ss_nilI ?_ | rw [q_next] | rw [q_ret] | rw [q_cont] | rw [q_brk] | rw [ss_nil])); (try simp only [r_next, r_ret])))
      refine ⟨fd, rfl, big_of (n := 2) (by decide), ?_⟩
      refine hR _ _ _ ⟨Ent α β, entA f, ltT, EOk kf xs, b, hs, t, ⟨kf x, nx, x, m⟩, (by unfold entA; rw [fg x]), (A.step _ _).2.1, A.ht, ⟨rfl, mx⟩, A.H.eok, ?_, by rw [A.hl]; exact big_of hN, ?_⟩
      · intro x y px py ys Q q
        exact O.cmpT x y px py _ _ ((A.step _ _).1.again _ A.nb).ls q
      ((try simp only [e_int, e_bool, e_none, e_str, e_var, e_bin, e_neg, n_int, e_not, e_cmp, e_and, e_or, e_ite, e_sub, e_slice, e_list, e_tuple, e_call, e_ucall, e_meth, e_comp, e_gfn, e_vcall, e_sortk, e_mink, e_ucalld, e_ucallk, s_forx, s_tryLen, s_zipc, t_not, t_and, t_or, t_cmp, t_var, t_sub, t_call, t_ucall, s_expr, s_assign, s_setitem, s_aug, s_augi, s_ifs, s_while, s_for, s_ret, s_brk, s_cont, ss_nil, c_range1, c_range2, c_range3, i_rng, i_ref, i_tup, i_enm, i_rev, bt_name, bt_tup, look_zero, look_succ, r_next, r_ret, sa_nil, sa_cons, es_nil, es_cons, o_none, o_some, ts_nil, ts_cons, c_lt, c_le, c_gt, c_ge, c_eq, c_ne, b_add, b_sub, b_mul, b_div, b_mod, b_pow, b_shr, a_add, a_mul, t_bool, t_int, List.map, List.cons_append, List.nil_append, List.getElem?_cons_succ, List.getElem?_cons_zero, List.set_cons_succ, List.set_cons_zero, frOf]); (repeat (first | with_reducible refine q_nextI ?_ | with_reducible refine q_retI ?_ | with_reducible refine q_contI ?_ | with_reducible refine q_brkI ?_ | with_reducible refine ss_nilI ?_ | rw [q_next] | rw [q_ret] | rw [q_cont] | rw [q_brk] | rw [ss_nil])); (try simp only [r_next, r_ret]))
      ((with_reducible refine go_cons ?_); ((try simp only [e_int, e_bool, e_none, e_str, e_var, e_bin, e_neg, n_int, e_not, e_cmp, e_and, e_or, e_ite, e_sub, e_slice, e_list, e_tuple, e_call, e_ucall, e_meth, e_comp, e_gfn, e_vcall, e_sortk, e_mink, e_ucalld, e_ucallk, s_forx, s_tryLen, s_zipc, t_not, t_and, t_or, t_cmp, t_var, t_sub, t_call, t_ucall, s_expr, s_assign, s_setitem, s_aug, s_augi, s_ifs, s_while, s_for, s_ret, s_brk, s_cont, ss_nil, c_range1, c_range2, c_range3, i_rng, i_ref, i_tup, i_enm, i_rev, bt_name, bt_tup, look_zero, look_succ, r_next, r_ret, sa_nil, sa_cons, es_nil, es_cons, o_none, o_some, ts_nil, ts_cons, c_lt, c_le, c_gt, c_ge, c_eq, c_ne, b_add, b_sub, b_mul, b_div, b_mod, b_pow, b_shr, a_add, a_mul, t_bool, t_int, List.map, List.cons_append, List.nil_append, List.getElem?_cons_succ, List.getElem?_cons_zero, List.set_cons_succ, List.set_cons_zero, frOf]); (repeat (first | with_reducible refine q_nextI ?_ | with_reducible refine q_retI ?_ | with_reducible refine q_contI ?_ | with_reducible refine q_brkI ?_ | with_reducible refine ss_nilI ?_ | rw [q_next] | rw [q_ret] | rw [q_cont] | rw [q_brk] | rw [ss_nil])); (try simp only [r_next, r_ret])))
      refine opSub_list (k := 0) (upd_same _ _ _) (x := entA f t') (by rw [List.getElem?_map, A'.ht]; rfl) ?_
      unfold entA
      ((try simp only [e_int, e_bool, e_none, e_str, e_var, e_bin, e_neg, n_int, e_not, e_cmp, e_and, e_or, e_ite, e_sub, e_slice, e_list, e_tuple, e_call, e_ucall, e_meth, e_comp, e_gfn, e_vcall, e_sortk, e_mink, e_ucalld, e_ucallk, s_forx, s_tryLen, s_zipc, t_not, t_and, t_or, t_cmp, t_var, t_sub, t_call, t_ucall, s_expr, s_assign, s_setitem, s_aug, s_augi, s_ifs, s_while, s_for, s_ret, s_brk, s_cont, ss_nil, c_range1, c_range2, c_range3, i_rng, i_ref, i_tup, i_enm, i_rev, bt_name, bt_tup, look_zero, look_succ, r_next, r_ret, sa_nil, sa_cons, es_nil, es_cons, o_none, o_some, ts_nil, ts_cons, c_lt, c_le, c_gt, c_ge, c_eq, c_ne, b_add, b_sub, b_mul, b_div, b_mod, b_pow, b_shr, a_add, a_mul, t_bool, t_int, List.map, List.cons_append, List.nil_append, List.getElem?_cons_succ, List.getElem?_cons_zero, List.set_cons_succ, List.set_cons_zero, frOf]); (repeat (first | with_reducible refine q_nextI ?_ | with_reducible refine q_retI ?_ | with_reducible refine q_contI ?_ | with_reducible refine q_brkI ?_ | with_reducible refine ss_nilI ?_ | rw [q_next] | rw [q_ret] | rw [q_cont] | rw [q_brk] | rw [ss_nil])); (try simp only [r_next, r_ret]))
      refine ⟨rfl, ?_⟩
      ((try simp only [e_int, e_bool, e_none, e_str, e_var, e_bin, e_neg, n_int, e_not, e_cmp, e_and, e_or, e_ite, e_sub, e_slice, e_list, e_tuple, e_call, e_ucall, e_meth, e_comp, e_gfn, e_vcall, e_sortk, e_mink, e_ucalld, e_ucallk, s_forx, s_tryLen, s_zipc, t_not, t_and, t_or, t_cmp, t_var, t_sub, t_call, t_ucall, s_expr, s_assign, s_setitem, s_aug, s_augi, s_ifs, s_while, s_for, s_ret, s_brk, s_cont, ss_nil, c_range1, c_range2, c_range3, i_rng, i_ref, i_tup, i_enm, i_rev, bt_name, bt_tup, look_zero, look_succ, r_next, r_ret, sa_nil, sa_cons, es_nil, es_cons, o_none, o_some, ts_nil, ts_cons, c_lt, c_le, c_gt, c_ge, c_eq, c_ne, b_add, b_sub, b_mul, b_div, b_mod, b_pow, b_shr, a_add, a_mul, t_bool, t_int, List.map, List.cons_append, List.nil_append, List.getElem?_cons_succ, List.getElem?_cons_zero, List.set_cons_succ, List.set_cons_zero, frOf]); (repeat (first | with_reducible refine q_nextI ?_ | with_reducible refine q_retI ?_ | with_reducible refine q_contI ?_ | with_reducible refine q_brkI ?_ | with_reducible refine ss_nilI ?_ | rw [q_next] | rw [q_ret] | rw [q_cont] | rw [q_brk] | rw [ss_nil])); (try simp only [r_next, r_ret]))
      ((with_reducible refine go_cons ?_); ((try simp only [e_int, e_bool, e_none, e_str, e_var, e_bin, e_neg, n_int, e_not, e_cmp, e_and, e_or, e_ite, e_sub, e_slice, e_list, e_tuple, e_call, e_ucall, e_meth, e_comp, e_gfn, e_vcall, e_sortk, e_mink, e_ucalld, e_ucallk, s_forx, s_tryLen, s_zipc, t_not, t_and, t_or, t_cmp, t_var, t_sub, t_call, t_ucall, s_expr, s_assign, s_setitem, s_aug, s_augi, s_ifs, s_while, s_for, s_ret, s_brk, s_cont, ss_nil, c_range1, c_range2, c_range3, i_rng, i_ref, i_tup, i_enm, i_rev, bt_name, bt_tup, look_zero, look_succ, r_next, r_ret, sa_nil, sa_cons, es_nil, es_cons, o_none, o_some, ts_nil, ts_cons, c_lt, c_le, c_gt, c_ge, c_eq, c_ne, b_add, b_sub, b_mul, b_div, b_mod, b_pow, b_shr, a_add, a_mul, t_bool, t_int, List.map, List.cons_append, List.nil_append, List.getElem?_cons_succ, List.getElem?_cons_zero, List.set_cons_succ, List.set_cons_zero, frOf]); (repeat (first | with_reducible refine q_nextI ?_ | with_reducible refine q_retI ?_ | with_reducible refine q_contI ?_ | with_reducible refine q_brkI ?_ | with_reducible refine ss_nilI ?_ | rw [q_next] | rw [q_ret] | rw [q_cont] | rw [q_brk] | rw [ss_nil])); (try simp only [r_next, r_ret])))
      refine hK _ _ ⟨nx + 1, _, t', some (g (kf x)), some (.int t'.o), by omega, ?_, A'⟩
      rw [okt'.1, ← fg t'.x]; rfl
  · rintro F τ ⟨nx, hs, t, y7, y11, hnx, rfl, A⟩
    rw [List.length_map] at A ⊢
    exact q _ _ _ _ nx hs t τ A
end

/-! Np5 -/
section
variable {α β : Type} {f : α → V} {g : β → V} {kf : α → β} {lt : β → β → Bool} {ltT : Ent α β → Ent α β → Bool} {xs : List α} {d : α} {tv : Ent α β → V} {KC : FuncData → List V → (V → Hp → Prop) → Hp → Prop}
/-- the loop with a key -/
theorem loopB_v (Φ : Fns) {fd fk : FuncData} (hR : ∀ args Q σ, heapreplaceC args Q σ → Φ 1000 (.func fd :: args) Q σ) (hK : ∀ fd args Q σ, KC fd args Q σ → Φ 1000 (.func fd :: args) Q σ) {σ : Hp} (O : NsOrd f g kf lt ltT xs d (entB f g) σ) (NK : NsKey KC fk f g kf lt xs d σ) (h64 : xs.length < 64)
    {N : Nat} (hN : N ≤ 1000) {ita l b : Addr} {m0 : Nat} (hm0 : m0 ≤ xs.length) {hs : List (Ent α β)} {t : Ent α β} {τ : Hp} (A : NsAt σ lt kf ltT xs (entB f g) f N ita l b m0 m0 hs t τ) {Q : Fl → Frm → Hp → Prop} {x0 x1 x3 x4 x6 x7 x11 x12 x13 : Option V}
    (q : ∀ y7 y8 y9 y11 y12 y13 nx hs t τ', NsAt σ lt kf ltT xs (entB f g) f N ita l b xs.length nx hs t τ' → Q .next [x0, x1, some (.func fk), x3, x4, some (.ref b), x6, y7, y8, y9, some (.func fd), y11, y12, y13] (upd τ' ita (.iter none xs.length))) :
    ForX Φ ps_nsLoopB 7 Q ita [x0, x1, some (.func fk), x3, x4, some (.ref b), x6, x7, some (g t.k), some (.int m0), some (.func fd), x11, x12, x13] τ := by
  refine forx_rule (l := l) (xs := xs.map f) m0 (by simpa using hm0) (fun m F τ => ∃ (nx : Nat) (hs : List (Ent α β)) (t : Ent α β) (y7 y11 y12 y13 : Option V), nx ≤ m ∧ F = [x0, x1, some (.func fk), x3, x4, some (.ref b), x6, y7, some (g t.k), some (.int nx), some (.func fd), y11, y12, y13] ∧ NsAt σ lt kf ltT xs (entB f g) f N ita l b m nx hs t τ) ?_ ?_ ?_ ?_
  · rintro m F τ ⟨nx, hs, t, y7, y11, y12, y13, _, rfl, A⟩
    exact ⟨A.ei, A.el⟩
  · exact ⟨m0, hs, t, x7, x11, x12, x13, Nat.le_refl _, rfl, A⟩
  · rintro m v F τ hv ⟨nx, hs, t, y7, y11, y12, y13, hnx, rfl, A⟩ K hKn
    rw [List.getElem?_map, Option.map_eq_some_iff] at hv
    obtain ⟨x, hx, rfl⟩ := hv
    have mx := List.mem_of_getElem? hx
    have okt := A.H.eok t (List.mem_of_getElem? A.ht)
    unfold ps_nsLoopB
    ((with_reducible refine go_cons ?_); ((try simp only [e_int, e_bool, e_none, e_str, e_var, e_bin, e_neg, n_int, e_not, e_cmp, e_and, e_or, e_ite, e_sub, e_slice, e_list, e_tuple, e_call, e_ucall, e_meth, e_comp, e_gfn, e_vcall, e_sortk, e_mink, e_ucalld, e_ucallk, s_forx, s_tryLen, s_zipc, t_not, t_and, t_or, t_cmp, t_var, t_sub, t_call, t_ucall, s_expr, s_assign, s_setitem, s_aug, s_augi, s_ifs, s_while, s_for, s_ret, s_brk, s_cont, ss_nil, c_range1, c_range2, c_range3, i_rng, i_ref, i_tup, i_enm, i_rev, bt_name, bt_tup, look_zero, look_succ, r_next, r_ret, sa_nil, sa_cons, es_nil, es_cons, o_none, o_some, ts_nil, ts_cons, c_lt, c_le, c_gt, c_ge, c_eq, c_ne, b_add, b_sub, b_mul, b_div, b_mod, b_pow, b_shr, a_add, a_mul, t_bool, t_int, List.map, List.cons_append, List.nil_append, List.getElem?_cons_succ, List.getElem?_cons_zero, List.set_cons_succ, List.set_cons_zero, frOf]); (repeat (first | with_reducible refine q_nextI ?_ | with_reducible refine q_retI ?_ | with_reducible refine q_contI ?_ | with_reducible refine q_brkI ?_ | with_reducible refine ss_nilI ?_ | rw [q_next] | rw [q_ret] | rw [q_cont] | rw [q_brk] | rw [ss_nil])); (try simp only [r_next, r_ret])))
    refine ⟨fk, rfl, ?_⟩
    refine hK _ _ _ _ (NK.call x mx _ _ (A.step _ _).1.ls ?_)
    ((try simp only [e_int, e_bool, e_none, e_str, e_var, e_bin, e_neg, n_int, e_not, e_cmp, e_and, e_or, e_ite, e_sub, e_slice, e_list, e_tuple, e_call, e_ucall, e_meth, e_comp, e_gfn, e_vcall, e_sortk, e_mink, e_ucalld, e_ucallk, s_forx, s_tryLen, s_zipc, t_not, t_and, t_or, t_cmp, t_var, t_sub, t_call, t_ucall, s_expr, s_assign, s_setitem, s_aug, s_augi, s_ifs, s_while, s_for, s_ret, s_brk, s_cont, ss_nil, c_range1, c_range2, c_range3, i_rng, i_ref, i_tup, i_enm, i_rev, bt_name, bt_tup, look_zero, look_succ, r_next, r_ret, sa_nil, sa_cons, es_nil, es_cons, o_none, o_some, ts_nil, ts_cons, c_lt, c_le, c_gt, c_ge, c_eq, c_ne, b_add, b_sub, b_mul, b_div, b_mod, b_pow, b_shr, a_add, a_mul, t_bool, t_int, List.map, List.cons_append, List.nil_append, List.getElem?_cons_succ, List.getElem?_cons_zero, List.set_cons_succ, List.set_cons_zero, frOf]); (repeat (first | with_reducible refine q_nextI ?_ | with_reducible refine q_retI ?_ | with_reducible refine q_contI ?_ | with_reducible refine q_brkI ?_ | with_reducible refine ss_nilI ?_ | rw [q_next] | rw [q_ret] | rw [q_cont] | rw [q_brk] | rw [ss_nil])); (try simp only [r_next, r_ret]))
    ((with_reducible refine go_cons ?_); ((try simp only [e_int, e_bool, e_none, e_str, e_var, e_bin, e_neg, n_int, e_not, e_cmp, e_and, e_or, e_ite, e_sub, e_slice, e_list, e_tuple, e_call, e_ucall, e_meth, e_comp, e_gfn, e_vcall, e_sortk, e_mink, e_ucalld, e_ucallk, s_forx, s_tryLen, s_zipc, t_not, t_and, t_or, t_cmp, t_var, t_sub, t_call, t_ucall, s_expr, s_assign, s_setitem, s_aug, s_augi, s_ifs, s_while, s_for, s_ret, s_brk, s_cont, ss_nil, c_range1, c_range2, c_range3, i_rng, i_ref, i_tup, i_enm, i_rev, bt_name, bt_tup, look_zero, look_succ, r_next, r_ret, sa_nil, sa_cons, es_nil, es_cons, o_none, o_some, ts_nil, ts_cons, c_lt, c_le, c_gt, c_ge, c_eq, c_ne, b_add, b_sub, b_mul, b_div, b_mod, b_pow, b_shr, a_add, a_mul, t_bool, t_int, List.map, List.cons_append, List.nil_append, List.getElem?_cons_succ, List.getElem?_cons_zero, List.set_cons_succ, List.set_cons_zero, frOf]); (repeat (first | with_reducible refine q_nextI ?_ | with_reducible refine q_retI ?_ | with_reducible refine q_contI ?_ | with_reducible refine q_brkI ?_ | with_reducible refine ss_nilI ?_ | rw [q_next] | rw [q_ret] | rw [q_cont] | rw [q_brk] | rw [ss_nil])); (try simp only [r_next, r_ret])))
    rw [okt.1]
    refine O.cmp x mx t.x okt.2 _ _ (A.step _ _).1.ls ?_
    ((try simp only [e_int, e_bool, e_none, e_str, e_var, e_bin, e_neg, n_int, e_not, e_cmp, e_and, e_or, e_ite, e_sub, e_slice, e_list, e_tuple, e_call, e_ucall, e_meth, e_comp, e_gfn, e_vcall, e_sortk, e_mink, e_ucalld, e_ucallk, s_forx, s_tryLen, s_zipc, t_not, t_and, t_or, t_cmp, t_var, t_sub, t_call, t_ucall, s_expr, s_assign, s_setitem, s_aug, s_augi, s_ifs, s_while, s_for, s_ret, s_brk, s_cont, ss_nil, c_range1, c_range2, c_range3, i_rng, i_ref, i_tup, i_enm, i_rev, bt_name, bt_tup, look_zero, look_succ, r_next, r_ret, sa_nil, sa_cons, es_nil, es_cons, o_none, o_some, ts_nil, ts_cons, c_lt, c_le, c_gt, c_ge, c_eq, c_ne, b_add, b_sub, b_mul, b_div, b_mod, b_pow, b_shr, a_add, a_mul, t_bool, t_int, List.map, List.cons_append, List.nil_append, List.getElem?_cons_succ, List.getElem?_cons_zero, List.set_cons_succ, List.set_cons_zero, frOf]); (repeat (first | with_reducible refine q_nextI ?_ | with_reducible refine q_retI ?_ | with_reducible refine q_contI ?_ | with_reducible refine q_brkI ?_ | with_reducible refine ss_nilI ?_ | rw [q_next] | rw [q_ret] | rw [q_cont] | rw [q_brk] | rw [ss_nil])); (try simp only [r_next, r_ret]))
    cases hlt : lt (kf x) (kf t.x) with
    | false =>
      simp only [Bool.false_eq_true, if_false]
      ((try simp only [e_int, e_bool, e_none, e_str, e_var, e_bin, e_neg, n_int, e_not, e_cmp, e_and, e_or, e_ite, e_sub, e_slice, e_list, e_tuple, e_call, e_ucall, e_meth, e_comp, e_gfn, e_vcall, e_sortk, e_mink, e_ucalld, e_ucallk, s_forx, s_tryLen, s_zipc, t_not, t_and, t_or, t_cmp, t_var, t_sub, t_call, t_ucall, s_expr, s_assign, s_setitem, s_aug, s_augi, s_ifs, s_while, s_for, s_ret, s_brk, s_cont, ss_nil, c_range1, c_range2, c_range3, i_rng, i_ref, i_tup, i_enm, i_rev, bt_name, bt_tup, look_zero, look_succ, r_next, r_ret, sa_nil, sa_cons, es_nil, es_cons, o_none, o_some, ts_nil, ts_cons, c_lt, c_le, c_gt, c_ge, c_eq, c_ne, b_add, b_sub, b_mul, b_div, b_mod, b_pow, b_shr, a_add, a_mul, t_bool, t_int, List.map, List.cons_append, List.nil_append, List.getElem?_cons_succ, List.getElem?_cons_zero, List.set_cons_succ, List.set_cons_zero, frOf]); (repeat (first | with_reducible refine q_nextI ?_ | with_reducible refine q_retI ?_ | with_reducible refine q_contI ?_ | with_reducible refine q_brkI ?_ | with_reducible refine ss_nilI ?_ | rw [q_next] | rw [q_ret] | rw [q_cont] | rw [q_brk] | rw [ss_nil])); (try simp only [r_next, r_ret]))
      exact hKn _ _ ⟨nx, hs, t, _, y11, _, y13, by omega, by rw [okt.1], A.skip O.S O.L hx (by rw [okt.1]; exact hlt)⟩
    | true =>
      obtain ⟨t', A'⟩ := A.put O.S O.L hx (by rw [okt.1]; exact hlt)
      have okt' := A'.H.eok t' (List.mem_of_getElem? A'.ht)
      simp only [if_true]
      ((with_reducible refine go_cons ?_); ((try simp only [e_int, e_bool, e_none, e_str, e_var, e_bin, e_neg, n_int, e_not, e_cmp, e_and, e_or, e_ite, e_sub, e_slice, e_list, e_tuple, e_call, e_ucall, e_meth, e_comp, e_gfn, e_vcall, e_sortk, e_mink, e_ucalld, e_ucallk, s_forx, s_tryLen, s_zipc, t_not, t_and, t_or, t_cmp, t_var, t_sub, t_call, t_ucall, s_expr, s_assign, s_setitem, s_aug, s_augi, s_ifs, s_while, s_for, s_ret, s_brk, s_cont, ss_nil, c_range1, c_range2, c_range3, i_rng, i_ref, i_tup, i_enm, i_rev, bt_name, bt_tup, look_zero, look_succ, r_next, r_ret, sa_nil, sa_cons, es_nil, es_cons, o_none, o_some, ts_nil, ts_cons, c_lt, c_le, c_gt, c_ge, c_eq, c_ne, b_add, b_sub, b_mul, b_div, b_mod, b_pow, b_shr, a_add, a_mul, t_bool, t_int, List.map, List.cons_append, List.nil_append, List.getElem?_cons_succ, List.getElem?_cons_zero, List.set_cons_succ, List.set_cons_zero, frOf]); (repeat (first | with_reducible refine q_nextI ?_ | with_reducible refine q_retI ?_ | with_reducible refine q_contI ?_ | with_reducible refine q_brkI ?_ | with_reducible refine ss_nilI ?_ | rw [q_next] | rw [q_ret] | rw [q_cont] | rw [q_brk] | rw [ss_nil])); (try simp only [r_next, r_ret])))
      refine ⟨fd, rfl, big_of (n := 3) (by decide), ?_⟩
      refine hR _ _ _ ⟨Ent α β, entB f g, ltT, EOk kf xs, b, hs, t, ⟨kf x, nx, x, m⟩, rfl, (A.step _ _).2.1, A.ht, ⟨rfl, mx⟩, A.H.eok, ?_, by rw [A.hl]; exact big_of hN, ?_⟩
      · intro x y px py ys Q q
        exact O.cmpT x y px py _ _ ((A.step _ _).1.again _ A.nb).ls q
      ((try simp only [e_int, e_bool, e_none, e_str, e_var, e_bin, e_neg, n_int, e_not, e_cmp, e_and, e_or, e_ite, e_sub, e_slice, e_list, e_tuple, e_call, e_ucall, e_meth, e_comp, e_gfn, e_vcall, e_sortk, e_mink, e_ucalld, e_ucallk, s_forx, s_tryLen, s_zipc, t_not, t_and, t_or, t_cmp, t_var, t_sub, t_call, t_ucall, s_expr, s_assign, s_setitem, s_aug, s_augi, s_ifs, s_while, s_for, s_ret, s_brk, s_cont, ss_nil, c_range1, c_range2, c_range3, i_rng, i_ref, i_tup, i_enm, i_rev, bt_name, bt_tup, look_zero, look_succ, r_next, r_ret, sa_nil, sa_cons, es_nil, es_cons, o_none, o_some, ts_nil, ts_cons, c_lt, c_le, c_gt, c_ge, c_eq, c_ne, b_add, b_sub, b_mul, b_div, b_mod, b_pow, b_shr, a_add, a_mul, t_bool, t_int, List.map, List.cons_append, List.nil_append, List.getElem?_cons_succ, List.getElem?_cons_zero, List.set_cons_succ, List.set_cons_zero, frOf]); (repeat (first | with_reducible refine q_nextI ?_ | with_reducible refine q_retI ?_ | with_reducible refine q_contI ?_ | with_reducible refine q_brkI ?_ | with_reducible refine ss_nilI ?_ | rw [q_next] | rw [q_ret] | rw [q_cont] | rw [q_brk] | rw [ss_nil])); (try simp only [r_next, r_ret]))
      ((with_reducible refine go_cons ?_); ((try simp only [e_int, e_bool, e_none, e_str, e_var, e_bin, e_neg, n_int, e_not, e_cmp, e_and, e_or, e_ite, e_sub, e_slice, e_list, e_tuple, e_call, e_ucall, e_meth, e_comp, e_gfn, e_vcall, e_sortk, e_mink, e_ucalld, e_ucallk, s_forx, s_tryLen, s_zipc, t_not, t_and, t_or, t_cmp, t_var, t_sub, t_call, t_ucall, s_expr, s_assign, s_setitem, s_aug, s_augi, s_ifs, s_while, s_for, s_ret, s_brk, s_cont, ss_nil, c_range1, c_range2, c_range3, i_rng, i_ref, i_tup, i_enm, i_rev, bt_name, bt_tup, look_zero, look_succ, r_next, r_ret, sa_nil, sa_cons, es_nil, es_cons, o_none, o_some, ts_nil, ts_cons, c_lt, c_le, c_gt, c_ge, c_eq, c_ne, b_add, b_sub, b_mul, b_div, b_mod, b_pow, b_shr, a_add, a_mul, t_bool, t_int, List.map, List.cons_append, List.nil_append, List.getElem?_cons_succ, List.getElem?_cons_zero, List.set_cons_succ, List.set_cons_zero, frOf]); (repeat (first | with_reducible refine q_nextI ?_ | with_reducible refine q_retI ?_ | with_reducible refine q_contI ?_ | with_reducible refine q_brkI ?_ | with_reducible refine ss_nilI ?_ | rw [q_next] | rw [q_ret] | rw [q_cont] | rw [q_brk] | rw [ss_nil])); (try simp only [r_next, r_ret])))
      refine opSub_list (k := 0) (upd_same _ _ _) (x := entB f g t') (by rw [List.getElem?_map, A'.ht]; rfl) ?_
      unfold entB
      ((try simp only [e_int, e_bool, e_none, e_str, e_var, e_bin, e_neg, n_int, e_not, e_cmp, e_and, e_or, e_ite, e_sub, e_slice, e_list, e_tuple, e_call, e_ucall, e_meth, e_comp, e_gfn, e_vcall, e_sortk, e_mink, e_ucalld, e_ucallk, s_forx, s_tryLen, s_zipc, t_not, t_and, t_or, t_cmp, t_var, t_sub, t_call, t_ucall, s_expr, s_assign, s_setitem, s_aug, s_augi, s_ifs, s_while, s_for, s_ret, s_brk, s_cont, ss_nil, c_range1, c_range2, c_range3, i_rng, i_ref, i_tup, i_enm, i_rev, bt_name, bt_tup, look_zero, look_succ, r_next, r_ret, sa_nil, sa_cons, es_nil, es_cons, o_none, o_some, ts_nil, ts_cons, c_lt, c_le, c_gt, c_ge, c_eq, c_ne, b_add, b_sub, b_mul, b_div, b_mod, b_pow, b_shr, a_add, a_mul, t_bool, t_int, List.map, List.cons_append, List.nil_append, List.getElem?_cons_succ, List.getElem?_cons_zero, List.set_cons_succ, List.set_cons_zero, frOf]); (repeat (first | with_reducible refine q_nextI ?_ | with_reducible refine q_retI ?_ | with_reducible refine q_contI ?_ | with_reducible refine q_brkI ?_ | with_reducible refine ss_nilI ?_ | rw [q_next] | rw [q_ret] | rw [q_cont] | rw [q_brk] | rw [ss_nil])); (try simp only [r_next, r_ret]))
      refine ⟨rfl, ?_⟩
      ((try simp only [e_int, e_bool, e_none, e_str, e_var, e_bin, e_neg, n_int, e_not, e_cmp, e_and, e_or, e_ite, e_sub, e_slice, e_list, e_tuple, e_call, e_ucall, e_meth, e_comp, e_gfn, e_vcall, e_sortk, e_mink, e_ucalld, e_ucallk, s_forx, s_tryLen, s_zipc, t_not, t_and, t_or, t_cmp, t_var, t_sub, t_call, t_ucall, s_expr, s_assign, s_setitem, s_aug, s_augi, s_ifs, s_while, s_for, s_ret, s_brk, s_cont, ss_nil, c_range1, c_range2, c_range3, i_rng, i_ref, i_tup, i_enm, i_rev, bt_name, bt_tup, look_zero, look_succ, r_next, r_ret, sa_nil, sa_cons, es_nil, es_cons, o_none, o_some, ts_nil, ts_cons, c_lt, c_le, c_gt, c_ge, c_eq, c_ne, b_add, b_sub, b_mul, b_div, b_mod, b_pow, b_shr, a_add, a_mul, t_bool, t_int, List.map, List.cons_append, List.nil_append, List.getElem?_cons_succ, List.getElem?_cons_zero, List.set_cons_succ, List.set_cons_zero, frOf]); (repeat (first | with_reducible refine q_nextI ?_ | with_reducible refine q_retI ?_ | with_reducible refine q_contI ?_ | with_reducible refine q_brkI ?_ | with_reducible refine ss_nilI ?_ | rw [q_next] | rw [q_ret] | rw [q_cont] | rw [q_brk] | rw [ss_nil])); (try simp only [r_next, r_ret]))
      ((with_reducible refine go_cons ?_); ((try simp only [e_int, e_bool, e_none, e_str, e_var, e_bin, e_neg, n_int, e_not, e_cmp, e_and, e_or, e_ite, e_sub, e_slice, e_list, e_tuple, e_call, e_ucall, e_meth, e_comp, e_gfn, e_vcall, e_sortk, e_mink, e_ucalld, e_ucallk, s_forx, s_tryLen, s_zipc, t_not, t_and, t_or, t_cmp, t_var, t_sub, t_call, t_ucall, s_expr, s_assign, s_setitem, s_aug, s_augi, s_ifs, s_while, s_for, s_ret, s_brk, s_cont, ss_nil, c_range1, c_range2, c_range3, i_rng, i_ref, i_tup, i_enm, i_rev, bt_name, bt_tup, look_zero, look_succ, r_next, r_ret, sa_nil, sa_cons, es_nil, es_cons, o_none, o_some, ts_nil, ts_cons, c_lt, c_le, c_gt, c_ge, c_eq, c_ne, b_add, b_sub, b_mul, b_div, b_mod, b_pow, b_shr, a_add, a_mul, t_bool, t_int, List.map, List.cons_append, List.nil_append, List.getElem?_cons_succ, List.getElem?_cons_zero, List.set_cons_succ, List.set_cons_zero, frOf]); (repeat (first | with_reducible refine q_nextI ?_ | with_reducible refine q_retI ?_ | with_reducible refine q_contI ?_ | with_reducible refine q_brkI ?_ | with_reducible refine ss_nilI ?_ | rw [q_next] | rw [q_ret] | rw [q_cont] | rw [q_brk] | rw [ss_nil])); (try simp only [r_next, r_ret])))
      exact hKn _ _ ⟨nx + 1, _, t', some (f x), some (.int t'.o), some (g (kf x)), some (f t'.x), by omega, rfl, A'⟩
  · rintro F τ ⟨nx, hs, t, y7, y11, y12, y13, hnx, rfl, A⟩
    rw [List.length_map] at A ⊢
    exact q _ _ _ _ _ _ nx hs t τ A
/-- the end: sorted, the things alone -/
theorem endA_v (Φ : Fns) {σ τ : Hp} (O : NsOrd f g kf lt ltT xs d (entA f) σ) (h64 : xs.length < 64) {b : Addr} {nx : Nat} {hs : List (Ent α β)} (H : HSt lt kf ltT xs xs.length nx hs) (h2 : 2 ≤ hs.length) (hl : hs.length < 64) (ext : LExt σ τ) (eb : τ b = some (.list (hs.map (entA f)))) (nb : σ b = none)
    {Q : V → Hp → Prop} {R : Fl → Frm → Hp → Prop} (hRR : ∀ v F σ, R (.ret v) F σ = Q v σ) {F : Frm} (hF : ∀ K, look F 5 K = K (.ref b)) (hfr : frOf [none, none, none] F = [none, none, none])
    (q : ∀ c σ', LExt σ σ' → σ c = none → σ' c = some (.list (((stab lt kf xs).take hs.length).map f)) → Q (.ref c) σ') : vSs Φ ps_nsEndA R F τ := by
  unfold ps_nsEndA
  rw [ss_cons]
  simp only [s_expr, e_meth, e_var, hF]
  refine ⟨⟨b, _, rfl, eb⟩, sorted_ents O ext.ls H.eok h2 hl eb fun ys p up => ?_⟩
  rw [q_next, ss_cons]
  simp only [s_ret, e_comp, e_var, hF, i_ref]
  refine ⟨⟨_, listAt_list (upd_same _ _ _)⟩, ?_⟩
  rw [hfr]
  have hok : ∀ e ∈ ys, EOk kf xs e := fun e m => H.eok e (p.mem_iff.mp m)
  have hy := yields_lst (H := Ext (upd τ b (.list (ys.map (entA f))))) (a := b) (xs := ys.map (entA f)) (fun σ' h => h.listAt (listAt_list (upd_same _ _ _))) _ 0 rfl
  refine comp_rule (xs := ys.map (entA f)) (fun v => match v with | .tup [a, _] => some a | _ => none) (by rw [List.length_map, p.length_eq]; exact big_of (by omega)) hy ?_ ?_
  · intro x mx σ' hE K N hK hN
    obtain ⟨e, me, rfl⟩ := List.mem_map.mp mx
    unfold entA at hK ⊢
    ((try simp only [e_int, e_bool, e_none, e_str, e_var, e_bin, e_neg, n_int, e_not, e_cmp, e_and, e_or, e_ite, e_sub, e_slice, e_list, e_tuple, e_call, e_ucall, e_meth, e_comp, e_gfn, e_vcall, e_sortk, e_mink, e_ucalld, e_ucallk, s_forx, s_tryLen, s_zipc, t_not, t_and, t_or, t_cmp, t_var, t_sub, t_call, t_ucall, s_expr, s_assign, s_setitem, s_aug, s_augi, s_ifs, s_while, s_for, s_ret, s_brk, s_cont, ss_nil, c_range1, c_range2, c_range3, i_rng, i_ref, i_tup, i_enm, i_rev, bt_name, bt_tup, look_zero, look_succ, r_next, r_ret, sa_nil, sa_cons, es_nil, es_cons, o_none, o_some, ts_nil, ts_cons, c_lt, c_le, c_gt, c_ge, c_eq, c_ne, b_add, b_sub, b_mul, b_div, b_mod, b_pow, b_shr, a_add, a_mul, t_bool, t_int, List.map, List.cons_append, List.nil_append, List.getElem?_cons_succ, List.getElem?_cons_zero, List.set_cons_succ, List.set_cons_zero, frOf]); (repeat (first | with_reducible refine q_nextI ?_ | with_reducible refine q_retI ?_ | with_reducible refine q_contI ?_ | with_reducible refine q_brkI ?_ | with_reducible refine ss_nilI ?_ | rw [q_next] | rw [q_ret] | rw [q_cont] | rw [q_brk] | rw [ss_nil])); (try simp only [r_next, r_ret]))
    refine ⟨rfl, ?_⟩
    ((try simp only [e_int, e_bool, e_none, e_str, e_var, e_bin, e_neg, n_int, e_not, e_cmp, e_and, e_or, e_ite, e_sub, e_slice, e_list, e_tuple, e_call, e_ucall, e_meth, e_comp, e_gfn, e_vcall, e_sortk, e_mink, e_ucalld, e_ucallk, s_forx, s_tryLen, s_zipc, t_not, t_and, t_or, t_cmp, t_var, t_sub, t_call, t_ucall, s_expr, s_assign, s_setitem, s_aug, s_augi, s_ifs, s_while, s_for, s_ret, s_brk, s_cont, ss_nil, c_range1, c_range2, c_range3, i_rng, i_ref, i_tup, i_enm, i_rev, bt_name, bt_tup, look_zero, look_succ, r_next, r_ret, sa_nil, sa_cons, es_nil, es_cons, o_none, o_some, ts_nil, ts_cons, c_lt, c_le, c_gt, c_ge, c_eq, c_ne, b_add, b_sub, b_mul, b_div, b_mod, b_pow, b_shr, a_add, a_mul, t_bool, t_int, List.map, List.cons_append, List.nil_append, List.getElem?_cons_succ, List.getElem?_cons_zero, List.set_cons_succ, List.set_cons_zero, frOf]); (repeat (first | with_reducible refine q_nextI ?_ | with_reducible refine q_retI ?_ | with_reducible refine q_contI ?_ | with_reducible refine q_brkI ?_ | with_reducible refine ss_nilI ?_ | rw [q_next] | rw [q_ret] | rw [q_cont] | rw [q_brk] | rw [ss_nil])); (try simp only [r_next, r_ret]))
    exact hK _ _ rfl .rfl
  · intro σ' hE c hc
    have e1 : (ys.map (entA f)).filterMap (fun v => match v with | .tup [a, _] => some a | _ => none) = ((stab lt kf xs).take hs.length).map f := by
      rw [← H.done O.S O.L p up, List.filterMap_map, List.map_map]
      exact fm_some _ fun e _ => rfl
    rw [e1, q_ret, hRR]
    have x1 := (ext.again (.list (ys.map (entA f))) nb).trans (.of hE)
    exact q c _ (x1.trans (.new _ hc)) (x1.fresh c hc) (upd_same _ _ _)
theorem endB_v (Φ : Fns) {σ τ : Hp} (O : NsOrd f g kf lt ltT xs d (entB f g) σ) (h64 : xs.length < 64) {b : Addr} {nx : Nat} {hs : List (Ent α β)} (H : HSt lt kf ltT xs xs.length nx hs) (h2 : 2 ≤ hs.length) (hl : hs.length < 64) (ext : LExt σ τ) (eb : τ b = some (.list (hs.map (entB f g)))) (nb : σ b = none)
    {Q : V → Hp → Prop} {R : Fl → Frm → Hp → Prop} (hRR : ∀ v F σ, R (.ret v) F σ = Q v σ) {F : Frm} (hF : ∀ K, look F 5 K = K (.ref b)) (hfr : frOf [none, none, none, none] F = [none, none, none, none])
    (q : ∀ c σ', LExt σ σ' → σ c = none → σ' c = some (.list (((stab lt kf xs).take hs.length).map f)) → Q (.ref c) σ') : vSs Φ ps_nsEndB R F τ := by
  unfold ps_nsEndB
  rw [ss_cons]
  simp only [s_expr, e_meth, e_var, hF]
  refine ⟨⟨b, _, rfl, eb⟩, sorted_ents O ext.ls H.eok h2 hl eb fun ys p up => ?_⟩
  rw [q_next, ss_cons]
  simp only [s_ret, e_comp, e_var, hF, i_ref]
  refine ⟨⟨_, listAt_list (upd_same _ _ _)⟩, ?_⟩
  rw [hfr]
  have hok : ∀ e ∈ ys, EOk kf xs e := fun e m => H.eok e (p.mem_iff.mp m)
  have hy := yields_lst (H := Ext (upd τ b (.list (ys.map (entB f g))))) (a := b) (xs := ys.map (entB f g)) (fun σ' h => h.listAt (listAt_list (upd_same _ _ _))) _ 0 rfl
  refine comp_rule (xs := ys.map (entB f g)) (fun v => match v with | .tup [_, _, a] => some a | _ => none) (by rw [List.length_map, p.length_eq]; exact big_of (by omega)) hy ?_ ?_
  · intro x mx σ' hE K N hK hN
    obtain ⟨e, me, rfl⟩ := List.mem_map.mp mx
    unfold entB at hK ⊢
    ((try simp only [e_int, e_bool, e_none, e_str, e_var, e_bin, e_neg, n_int, e_not, e_cmp, e_and, e_or, e_ite, e_sub, e_slice, e_list, e_tuple, e_call, e_ucall, e_meth, e_comp, e_gfn, e_vcall, e_sortk, e_mink, e_ucalld, e_ucallk, s_forx, s_tryLen, s_zipc, t_not, t_and, t_or, t_cmp, t_var, t_sub, t_call, t_ucall, s_expr, s_assign, s_setitem, s_aug, s_augi, s_ifs, s_while, s_for, s_ret, s_brk, s_cont, ss_nil, c_range1, c_range2, c_range3, i_rng, i_ref, i_tup, i_enm, i_rev, bt_name, bt_tup, look_zero, look_succ, r_next, r_ret, sa_nil, sa_cons, es_nil, es_cons, o_none, o_some, ts_nil, ts_cons, c_lt, c_le, c_gt, c_ge, c_eq, c_ne, b_add, b_sub, b_mul, b_div, b_mod, b_pow, b_shr, a_add, a_mul, t_bool, t_int, List.map, List.cons_append, List.nil_append, List.getElem?_cons_succ, List.getElem?_cons_zero, List.set_cons_succ, List.set_cons_zero, frOf]); (repeat (first | with_reducible refine q_nextI ?_ | with_reducible refine q_retI ?_ | with_reducible refine q_contI ?_ | with_reducible refine q_brkI ?_ | with_reducible refine ss_nilI ?_ | rw [q_next] | rw [q_ret] | rw [q_cont] | rw [q_brk] | rw [ss_nil])); (try simp only [r_next, r_ret]))
    refine ⟨rfl, ?_⟩
    ((try simp only [e_int, e_bool, e_none, e_str, e_var, e_bin, e_neg, n_int, e_not, e_cmp, e_and, e_or, e_ite, e_sub, e_slice, e_list, e_tuple, e_call, e_ucall, e_meth, e_comp, e_gfn, e_vcall, e_sortk, e_mink, e_ucalld, e_ucallk, s_forx, s_tryLen, s_zipc, t_not, t_and, t_or, t_cmp, t_var, t_sub, t_call, t_ucall, s_expr, s_assign, s_setitem, s_aug, s_augi, s_ifs, s_while, s_for, s_ret, s_brk, s_cont, ss_nil, c_range1, c_range2, c_range3, i_rng, i_ref, i_tup, i_enm, i_rev, bt_name, bt_tup, look_zero, look_succ, r_next, r_ret, sa_nil, sa_cons, es_nil, es_cons, o_none, o_some, ts_nil, ts_cons, c_lt, c_le, c_gt, c_ge, c_eq, c_ne, b_add, b_sub, b_mul, b_div, b_mod, b_pow, b_shr, a_add, a_mul, t_bool, t_int, List.map, List.cons_append, List.nil_append, List.getElem?_cons_succ, List.getElem?_cons_zero, List.set_cons_succ, List.set_cons_zero, frOf]); (repeat (first | with_reducible refine q_nextI ?_ | with_reducible refine q_retI ?_ | with_reducible refine q_contI ?_ | with_reducible refine q_brkI ?_ | with_reducible refine ss_nilI ?_ | rw [q_next] | rw [q_ret] | rw [q_cont] | rw [q_brk] | rw [ss_nil])); (try simp only [r_next, r_ret]))
    exact hK _ _ rfl .rfl
  · intro σ' hE c hc
    have e1 : (ys.map (entB f g)).filterMap (fun v => match v with | .tup [_, _, a] => some a | _ => none) = ((stab lt kf xs).take hs.length).map f := by
      rw [← H.done O.S O.L p up, List.filterMap_map, List.map_map]
      exact fm_some _ fun e _ => rfl
    rw [e1, q_ret, hRR]
    have x1 := (ext.again (.list (ys.map (entB f g))) nb).trans (.of hE)
    exact q c _ (x1.trans (.new _ hc)) (x1.fresh c hc) (upd_same _ _ _)
end

/-! Np6 -/
section
variable {α β : Type} {f : α → V} {g : β → V} {kf : α → β} {lt : β → β → Bool} {ltT : Ent α β → Ent α β → Bool} {xs : List α} {d : α} {tv : Ent α β → V} {KC : FuncData → List V → (V → Hp → Prop) → Hp → Prop}
theorem take_min (l : List α) (n : Nat) (h : l.length = xs.length) : l.take (min n xs.length) = l.take n := by
  rcases Nat.le_total n xs.length with q | q
  · rw [Nat.min_eq_left q]
  · rw [Nat.min_eq_right q, List.take_of_length_le (by omega), List.take_of_length_le (by omega)]
theorem zipHp_cases {τ : Hp} {ita l b : Addr} {n : Int} (hn : 2 ≤ n) {hs : List (Ent α β)} {σ : Hp} (hE : LExt σ τ) (h1 : τ ita = some (.iter (some l) 0)) (h3 : listAt τ l = some (xs.map f)) {v : AObj} (hb : zipHp τ ita l 0 (xs.map f) n b = none) :
    (n.toNat ≤ xs.length ∧ upd (zipHp τ ita l 0 (xs.map f) n) b v ita = some (.iter (some l) n.toNat)) ∨ (xs.length ≤ n.toNat ∧ ∃ k, upd (zipHp τ ita l 0 (xs.map f) n) b v ita = some (.iter none k)) := by
  unfold zipHp at hb ⊢
  simp only [List.length_map, Nat.sub_zero, Nat.zero_add] at hb ⊢
  split at hb
  · rename_i h
    have ib : ita ≠ b := (upd_none hb).2.symm
    rw [if_pos h]
    exact .inl ⟨by omega, by rw [upd_ne _ _ ib, upd_same]⟩
  · rename_i h
    have ib : ita ≠ b := (upd_none hb).2.symm
    rw [if_neg h]
    exact .inr ⟨by omega, _, by rw [upd_ne _ _ ib, upd_same]⟩
theorem nsA_v (Φ : Fns) (hH : ∀ args Q σ, heapifyC args Q σ → Φ 3 args Q σ) (hG : ∀ fd σ, Φ 1001 [.int 2, .func fd] (fun _ _ => True) σ → ∀ args Q σ, heapreplaceC args Q σ → Φ 1000 (.func fd :: args) Q σ)
    {σ : Hp} (O : NsOrd f g kf lt ltT xs d (entA f) σ) (N : NsNone f g kf lt xs d σ) {n : Int} {x : V} (hx : NSrc σ (xs.map f) x) (h2 : 2 ≤ xs.length) (h64 : xs.length < 64) (n0 : -1000 ≤ n) (n1 : n ≤ 1000) (hn1 : n ≠ 1) {Q : V → Hp → Prop} {R : Fl → Frm → Hp → Prop} (hRR : ∀ v F σ, R (.ret v) F σ = Q v σ) {x3 x4 x5 x6 x7 x8 x9 x10 x11 x12 x13 : Option V}
    (q : ∀ b σ', LExt σ σ' → σ b = none → σ' b = some (.list (((stab lt kf xs).take n.toNat).map f)) → Q (.ref b) σ') :
    vSs Φ ps_nsA R [some (.int n), some x, some .none, x3, x4, x5, x6, x7, x8, x9, x10, x11, x12, x13] σ := by
  unfold ps_nsA
  ((with_reducible refine go_cons ?_); ((try simp only [e_int, e_bool, e_none, e_str, e_var, e_bin, e_neg, n_int, e_not, e_cmp, e_and, e_or, e_ite, e_sub, e_slice, e_list, e_tuple, e_call, e_ucall, e_meth, e_comp, e_gfn, e_vcall, e_sortk, e_mink, e_ucalld, e_ucallk, s_forx, s_tryLen, s_zipc, t_not, t_and, t_or, t_cmp, t_var, t_sub, t_call, t_ucall, s_expr, s_assign, s_setitem, s_aug, s_augi, s_ifs, s_while, s_for, s_ret, s_brk, s_cont, ss_nil, c_range1, c_range2, c_range3, i_rng, i_ref, i_tup, i_enm, i_rev, bt_name, bt_tup, look_zero, look_succ, r_next, r_ret, sa_nil, sa_cons, es_nil, es_cons, o_none, o_some, ts_nil, ts_cons, c_lt, c_le, c_gt, c_ge, c_eq, c_ne, b_add, b_sub, b_mul, b_div, b_mod, b_pow, b_shr, a_add, a_mul, t_bool, t_int, List.map, List.cons_append, List.nil_append, List.getElem?_cons_succ, List.getElem?_cons_zero, List.set_cons_succ, List.set_cons_zero, frOf]); (repeat (first | with_reducible refine q_nextI ?_ | with_reducible refine q_retI ?_ | with_reducible refine q_contI ?_ | with_reducible refine q_brkI ?_ | with_reducible refine ss_nilI ?_ | rw [q_next] | rw [q_ret] | rw [q_cont] | rw [q_brk] | rw [ss_nil])); (try simp only [r_next, r_ret])))
  refine iter_src hx fun ita l τ hE h1 h3 => ?_
  ((try simp only [e_int, e_bool, e_none, e_str, e_var, e_bin, e_neg, n_int, e_not, e_cmp, e_and, e_or, e_ite, e_sub, e_slice, e_list, e_tuple, e_call, e_ucall, e_meth, e_comp, e_gfn, e_vcall, e_sortk, e_mink, e_ucalld, e_ucallk, s_forx, s_tryLen, s_zipc, t_not, t_and, t_or, t_cmp, t_var, t_sub, t_call, t_ucall, s_expr, s_assign, s_setitem, s_aug, s_augi, s_ifs, s_while, s_for, s_ret, s_brk, s_cont, ss_nil, c_range1, c_range2, c_range3, i_rng, i_ref, i_tup, i_enm, i_rev, bt_name, bt_tup, look_zero, look_succ, r_next, r_ret, sa_nil, sa_cons, es_nil, es_cons, o_none, o_some, ts_nil, ts_cons, c_lt, c_le, c_gt, c_ge, c_eq, c_ne, b_add, b_sub, b_mul, b_div, b_mod, b_pow, b_shr, a_add, a_mul, t_bool, t_int, List.map, List.cons_append, List.nil_append, List.getElem?_cons_succ, List.getElem?_cons_zero, List.set_cons_succ, List.set_cons_zero, frOf]); (repeat (first | with_reducible refine q_nextI ?_ | with_reducible refine q_retI ?_ | with_reducible refine q_contI ?_ | with_reducible refine q_brkI ?_ | with_reducible refine ss_nilI ?_ | rw [q_next] | rw [q_ret] | rw [q_cont] | rw [q_brk] | rw [ss_nil])); (try simp only [r_next, r_ret]))
  ((with_reducible refine go_cons ?_); ((try simp only [e_int, e_bool, e_none, e_str, e_var, e_bin, e_neg, n_int, e_not, e_cmp, e_and, e_or, e_ite, e_sub, e_slice, e_list, e_tuple, e_call, e_ucall, e_meth, e_comp, e_gfn, e_vcall, e_sortk, e_mink, e_ucalld, e_ucallk, s_forx, s_tryLen, s_zipc, t_not, t_and, t_or, t_cmp, t_var, t_sub, t_call, t_ucall, s_expr, s_assign, s_setitem, s_aug, s_augi, s_ifs, s_while, s_for, s_ret, s_brk, s_cont, ss_nil, c_range1, c_range2, c_range3, i_rng, i_ref, i_tup, i_enm, i_rev, bt_name, bt_tup, look_zero, look_succ, r_next, r_ret, sa_nil, sa_cons, es_nil, es_cons, o_none, o_some, ts_nil, ts_cons, c_lt, c_le, c_gt, c_ge, c_eq, c_ne, b_add, b_sub, b_mul, b_div, b_mod, b_pow, b_shr, a_add, a_mul, t_bool, t_int, List.map, List.cons_append, List.nil_append, List.getElem?_cons_succ, List.getElem?_cons_zero, List.set_cons_succ, List.set_cons_zero, frOf]); (repeat (first | with_reducible refine q_nextI ?_ | with_reducible refine q_retI ?_ | with_reducible refine q_contI ?_ | with_reducible refine q_brkI ?_ | with_reducible refine ss_nilI ?_ | rw [q_next] | rw [q_ret] | rw [q_cont] | rw [q_brk] | rw [ss_nil])); (try simp only [r_next, r_ret])))
  refine ⟨n, ita, l, 0, xs.map f, fun i v => [v, .int i], rfl, rok_small ⟨.inl rfl, by omega, by omega⟩, h1, h3, Nat.zero_le _, ?_, ?_⟩
  · intro i v hv hi
    rw [Nat.zero_add, List.getElem?_map, Option.map_eq_some_iff] at hv
    obtain ⟨y, hy, rfl⟩ := hv
    refine ⟨big_of (n := 2) (by decide), fun z mz => ?_, ?_⟩
    · rcases List.mem_cons.mp mz with rfl | mz
      · exact N.flat y (List.mem_of_getElem? hy)
      · simp at mz; subst mz; trivial
    · ((try simp only [e_int, e_bool, e_none, e_str, e_var, e_bin, e_neg, n_int, e_not, e_cmp, e_and, e_or, e_ite, e_sub, e_slice, e_list, e_tuple, e_call, e_ucall, e_meth, e_comp, e_gfn, e_vcall, e_sortk, e_mink, e_ucalld, e_ucallk, s_forx, s_tryLen, s_zipc, t_not, t_and, t_or, t_cmp, t_var, t_sub, t_call, t_ucall, s_expr, s_assign, s_setitem, s_aug, s_augi, s_ifs, s_while, s_for, s_ret, s_brk, s_cont, ss_nil, c_range1, c_range2, c_range3, i_rng, i_ref, i_tup, i_enm, i_rev, bt_name, bt_tup, look_zero, look_succ, r_next, r_ret, sa_nil, sa_cons, es_nil, es_cons, o_none, o_some, ts_nil, ts_cons, c_lt, c_le, c_gt, c_ge, c_eq, c_ne, b_add, b_sub, b_mul, b_div, b_mod, b_pow, b_shr, a_add, a_mul, t_bool, t_int, List.map, List.cons_append, List.nil_append, List.getElem?_cons_succ, List.getElem?_cons_zero, List.set_cons_succ, List.set_cons_zero, frOf]); (repeat (first | with_reducible refine q_nextI ?_ | with_reducible refine q_retI ?_ | with_reducible refine q_contI ?_ | with_reducible refine q_brkI ?_ | with_reducible refine ss_nilI ?_ | rw [q_next] | rw [q_ret] | rw [q_cont] | rw [q_brk] | rw [ss_nil])); (try simp only [r_next, r_ret]))
  · rw [zipRes_ents (tv := entA f) (kf := kf) (fun i y _ => rfl)]
    have hE1 : LExt σ (zipHp τ ita l 0 (xs.map f) n) := hE.trans (zipHp_ext h1)
    refine ⟨by rw [List.length_map, ents_length]; exact big_of (by omega), fun b hb => ?_⟩
    ((try simp only [e_int, e_bool, e_none, e_str, e_var, e_bin, e_neg, n_int, e_not, e_cmp, e_and, e_or, e_ite, e_sub, e_slice, e_list, e_tuple, e_call, e_ucall, e_meth, e_comp, e_gfn, e_vcall, e_sortk, e_mink, e_ucalld, e_ucallk, s_forx, s_tryLen, s_zipc, t_not, t_and, t_or, t_cmp, t_var, t_sub, t_call, t_ucall, s_expr, s_assign, s_setitem, s_aug, s_augi, s_ifs, s_while, s_for, s_ret, s_brk, s_cont, ss_nil, c_range1, c_range2, c_range3, i_rng, i_ref, i_tup, i_enm, i_rev, bt_name, bt_tup, look_zero, look_succ, r_next, r_ret, sa_nil, sa_cons, es_nil, es_cons, o_none, o_some, ts_nil, ts_cons, c_lt, c_le, c_gt, c_ge, c_eq, c_ne, b_add, b_sub, b_mul, b_div, b_mod, b_pow, b_shr, a_add, a_mul, t_bool, t_int, List.map, List.cons_append, List.nil_append, List.getElem?_cons_succ, List.getElem?_cons_zero, List.set_cons_succ, List.set_cons_zero, frOf]); (repeat (first | with_reducible refine q_nextI ?_ | with_reducible refine q_retI ?_ | with_reducible refine q_contI ?_ | with_reducible refine q_brkI ?_ | with_reducible refine ss_nilI ?_ | rw [q_next] | rw [q_ret] | rw [q_cont] | rw [q_brk] | rw [ss_nil])); (try simp only [r_next, r_ret]))
    refine mid_v Φ hH hG O (fun e oe => ⟨[], by simp, by unfold entA; rw [oe.1, N.fg]⟩) hE1 hb h2 h64 hRR ?_ ?_
    · intro hn
      refine q b _ (hE1.trans (.new _ hb)) (hE1.fresh b hb) ?_
      rw [upd_same, show n.toNat = 0 by omega]; rfl
    · intro hn fd hR hs t H ht hl
      have nb := hE1.fresh b hb
      have lb : l ≠ b := by
        rintro rfl
        have := (LExt.ls (zipHp_ext (n := n) (vs := xs.map f) h1)) _ _ h3
        unfold listAt at this; rw [hb] at this; cases this
      have fin : ∀ F nx hs' τ', HSt lt kf ltT xs xs.length nx hs' → hs'.length = min n.toNat xs.length → LExt σ τ' → τ' b = some (.list (hs'.map (entA f))) → (∀ K, look F 5 K = K (.ref b)) → frOf [none, none, none] F = [none, none, none] → vSs Φ ps_nsEndA R F τ' := by
        intro F nx hs' τ' H' hl' ext eb hF hfr
        refine endA_v Φ O h64 H' (by omega) (by omega) ext eb nb hRR hF hfr fun c σ' e1 e2 e3 => q c σ' e1 e2 ?_
        rw [e3, hl', take_min _ _ (stab_length xs)]
      rw [ss_cons]
      simp only [s_forx, e_var, look_succ, look_zero]
      rcases zipHp_cases (n := n) (b := b) (hs := hs) (v := .list (hs.map (entA f))) (by omega) hE h1 h3 hb with ⟨hle, e⟩ | ⟨hle, k, e⟩
      · refine ⟨ita, _, _, rfl, e, ?_⟩
        have hc : (n : Int) = ((n.toNat : Nat) : Int) := by omega
        have A : NsAt σ lt kf ltT xs (entA f) f (min n.toNat xs.length) ita l b n.toNat n.toNat hs t (upd (zipHp τ ita l 0 (xs.map f) n) b (.list (hs.map (entA f)))) :=
          ⟨H, ht, hl, hE1.again _ nb, e, by unfold listAt; rw [upd_ne _ _ lb]; exact (LExt.ls (zipHp_ext h1)) _ _ h3, upd_same _ _ _, nb, lb⟩
        have L := loopA_v (x0 := some (.int n)) (x1 := some x) (x2 := some .none) (x3 := some (.ref ita)) (x4 := x4) (x6 := x6) (x7 := x7) (x11 := x11) (x12 := x12) (x13 := x13) (Q := seqQ Φ ps_nsEndA R) Φ hR O N.fg h64 (N := min n.toNat xs.length) (by omega) hle A (fun y7 y8 y9 y11 nx hs' t' τ' A' => by
          rw [q_next]
          exact fin _ nx hs' _ A'.H A'.hl (A'.step _ _).1 (A'.step _ _).2.1 (fun K => rfl) rfl)
        rw [← hc] at L
        exact L
      · refine ⟨ita, _, _, rfl, e, forx_dead e ?_⟩
        rw [q_next]
        exact fin _ _ hs _ (H.all hle) hl (hE1.again _ nb) (upd_same _ _ _) (fun K => rfl) rfl
theorem nsB_v (Φ : Fns) (hH : ∀ args Q σ, heapifyC args Q σ → Φ 3 args Q σ) (hG : ∀ fd σ, Φ 1001 [.int 2, .func fd] (fun _ _ => True) σ → ∀ args Q σ, heapreplaceC args Q σ → Φ 1000 (.func fd :: args) Q σ) (hK : ∀ fd args Q σ, KC fd args Q σ → Φ 1000 (.func fd :: args) Q σ)
    {σ : Hp} {fk : FuncData} (O : NsOrd f g kf lt ltT xs d (entB f g) σ) (N : NsKey KC fk f g kf lt xs d σ) {n : Int} {x : V} (hx : NSrc σ (xs.map f) x) (h2 : 2 ≤ xs.length) (h64 : xs.length < 64) (n0 : -1000 ≤ n) (n1 : n ≤ 1000) (hn1 : n ≠ 1) {Q : V → Hp → Prop} {R : Fl → Frm → Hp → Prop} (hRR : ∀ v F σ, R (.ret v) F σ = Q v σ) {x3 x4 x5 x6 x7 x8 x9 x10 x11 x12 x13 : Option V}
    (q : ∀ b σ', LExt σ σ' → σ b = none → σ' b = some (.list (((stab lt kf xs).take n.toNat).map f)) → Q (.ref b) σ') :
    vSs Φ ps_nsB R [some (.int n), some x, some (.func fk), x3, x4, x5, x6, x7, x8, x9, x10, x11, x12, x13] σ := by
  unfold ps_nsB
  ((with_reducible refine go_cons ?_); ((try simp only [e_int, e_bool, e_none, e_str, e_var, e_bin, e_neg, n_int, e_not, e_cmp, e_and, e_or, e_ite, e_sub, e_slice, e_list, e_tuple, e_call, e_ucall, e_meth, e_comp, e_gfn, e_vcall, e_sortk, e_mink, e_ucalld, e_ucallk, s_forx, s_tryLen, s_zipc, t_not, t_and, t_or, t_cmp, t_var, t_sub, t_call, t_ucall, s_expr, s_assign, s_setitem, s_aug, s_augi, s_ifs, s_while, s_for, s_ret, s_brk, s_cont, ss_nil, c_range1, c_range2, c_range3, i_rng, i_ref, i_tup, i_enm, i_rev, bt_name, bt_tup, look_zero, look_succ, r_next, r_ret, sa_nil, sa_cons, es_nil, es_cons, o_none, o_some, ts_nil, ts_cons, c_lt, c_le, c_gt, c_ge, c_eq, c_ne, b_add, b_sub, b_mul, b_div, b_mod, b_pow, b_shr, a_add, a_mul, t_bool, t_int, List.map, List.cons_append, List.nil_append, List.getElem?_cons_succ, List.getElem?_cons_zero, List.set_cons_succ, List.set_cons_zero, frOf]); (repeat (first | with_reducible refine q_nextI ?_ | with_reducible refine q_retI ?_ | with_reducible refine q_contI ?_ | with_reducible refine q_brkI ?_ | with_reducible refine ss_nilI ?_ | rw [q_next] | rw [q_ret] | rw [q_cont] | rw [q_brk] | rw [ss_nil])); (try simp only [r_next, r_ret])))
  refine iter_src hx fun ita l τ hE h1 h3 => ?_
  ((try simp only [e_int, e_bool, e_none, e_str, e_var, e_bin, e_neg, n_int, e_not, e_cmp, e_and, e_or, e_ite, e_sub, e_slice, e_list, e_tuple, e_call, e_ucall, e_meth, e_comp, e_gfn, e_vcall, e_sortk, e_mink, e_ucalld, e_ucallk, s_forx, s_tryLen, s_zipc, t_not, t_and, t_or, t_cmp, t_var, t_sub, t_call, t_ucall, s_expr, s_assign, s_setitem, s_aug, s_augi, s_ifs, s_while, s_for, s_ret, s_brk, s_cont, ss_nil, c_range1, c_range2, c_range3, i_rng, i_ref, i_tup, i_enm, i_rev, bt_name, bt_tup, look_zero, look_succ, r_next, r_ret, sa_nil, sa_cons, es_nil, es_cons, o_none, o_some, ts_nil, ts_cons, c_lt, c_le, c_gt, c_ge, c_eq, c_ne, b_add, b_sub, b_mul, b_div, b_mod, b_pow, b_shr, a_add, a_mul, t_bool, t_int, List.map, List.cons_append, List.nil_append, List.getElem?_cons_succ, List.getElem?_cons_zero, List.set_cons_succ, List.set_cons_zero, frOf]); (repeat (first | with_reducible refine q_nextI ?_ | with_reducible refine q_retI ?_ | with_reducible refine q_contI ?_ | with_reducible refine q_brkI ?_ | with_reducible refine ss_nilI ?_ | rw [q_next] | rw [q_ret] | rw [q_cont] | rw [q_brk] | rw [ss_nil])); (try simp only [r_next, r_ret]))
  ((with_reducible refine go_cons ?_); ((try simp only [e_int, e_bool, e_none, e_str, e_var, e_bin, e_neg, n_int, e_not, e_cmp, e_and, e_or, e_ite, e_sub, e_slice, e_list, e_tuple, e_call, e_ucall, e_meth, e_comp, e_gfn, e_vcall, e_sortk, e_mink, e_ucalld, e_ucallk, s_forx, s_tryLen, s_zipc, t_not, t_and, t_or, t_cmp, t_var, t_sub, t_call, t_ucall, s_expr, s_assign, s_setitem, s_aug, s_augi, s_ifs, s_while, s_for, s_ret, s_brk, s_cont, ss_nil, c_range1, c_range2, c_range3, i_rng, i_ref, i_tup, i_enm, i_rev, bt_name, bt_tup, look_zero, look_succ, r_next, r_ret, sa_nil, sa_cons, es_nil, es_cons, o_none, o_some, ts_nil, ts_cons, c_lt, c_le, c_gt, c_ge, c_eq, c_ne, b_add, b_sub, b_mul, b_div, b_mod, b_pow, b_shr, a_add, a_mul, t_bool, t_int, List.map, List.cons_append, List.nil_append, List.getElem?_cons_succ, List.getElem?_cons_zero, List.set_cons_succ, List.set_cons_zero, frOf]); (repeat (first | with_reducible refine q_nextI ?_ | with_reducible refine q_retI ?_ | with_reducible refine q_contI ?_ | with_reducible refine q_brkI ?_ | with_reducible refine ss_nilI ?_ | rw [q_next] | rw [q_ret] | rw [q_cont] | rw [q_brk] | rw [ss_nil])); (try simp only [r_next, r_ret])))
  refine ⟨n, ita, l, 0, xs.map f, fun i v => [g (kf (xs.getD i d)), .int i, v], rfl, rok_small ⟨.inl rfl, by omega, by omega⟩, h1, h3, Nat.zero_le _, ?_, ?_⟩
  · intro i v hv hi
    rw [Nat.zero_add, List.getElem?_map, Option.map_eq_some_iff] at hv
    obtain ⟨y, hy, rfl⟩ := hv
    have my := List.mem_of_getElem? hy
    have ed : xs.getD i d = y := by simp [List.getD_eq_getElem?_getD, hy]
    simp only [ed]
    refine ⟨big_of (n := 3) (by decide), fun z mz => ?_, ?_⟩
    · simp only [List.mem_cons, List.not_mem_nil, or_false] at mz
      rcases mz with rfl | rfl | rfl
      · exact (N.flat y my).2
      · trivial
      · exact (N.flat y my).1
    · ((try simp only [e_int, e_bool, e_none, e_str, e_var, e_bin, e_neg, n_int, e_not, e_cmp, e_and, e_or, e_ite, e_sub, e_slice, e_list, e_tuple, e_call, e_ucall, e_meth, e_comp, e_gfn, e_vcall, e_sortk, e_mink, e_ucalld, e_ucallk, s_forx, s_tryLen, s_zipc, t_not, t_and, t_or, t_cmp, t_var, t_sub, t_call, t_ucall, s_expr, s_assign, s_setitem, s_aug, s_augi, s_ifs, s_while, s_for, s_ret, s_brk, s_cont, ss_nil, c_range1, c_range2, c_range3, i_rng, i_ref, i_tup, i_enm, i_rev, bt_name, bt_tup, look_zero, look_succ, r_next, r_ret, sa_nil, sa_cons, es_nil, es_cons, o_none, o_some, ts_nil, ts_cons, c_lt, c_le, c_gt, c_ge, c_eq, c_ne, b_add, b_sub, b_mul, b_div, b_mod, b_pow, b_shr, a_add, a_mul, t_bool, t_int, List.map, List.cons_append, List.nil_append, List.getElem?_cons_succ, List.getElem?_cons_zero, List.set_cons_succ, List.set_cons_zero, frOf]); (repeat (first | with_reducible refine q_nextI ?_ | with_reducible refine q_retI ?_ | with_reducible refine q_contI ?_ | with_reducible refine q_brkI ?_ | with_reducible refine ss_nilI ?_ | rw [q_next] | rw [q_ret] | rw [q_cont] | rw [q_brk] | rw [ss_nil])); (try simp only [r_next, r_ret]))
      refine ⟨fk, rfl, hK _ _ _ _ (N.call y my _ _ (hE.ls.trans (ls_freeze _)) ?_)⟩
      ((try simp only [e_int, e_bool, e_none, e_str, e_var, e_bin, e_neg, n_int, e_not, e_cmp, e_and, e_or, e_ite, e_sub, e_slice, e_list, e_tuple, e_call, e_ucall, e_meth, e_comp, e_gfn, e_vcall, e_sortk, e_mink, e_ucalld, e_ucallk, s_forx, s_tryLen, s_zipc, t_not, t_and, t_or, t_cmp, t_var, t_sub, t_call, t_ucall, s_expr, s_assign, s_setitem, s_aug, s_augi, s_ifs, s_while, s_for, s_ret, s_brk, s_cont, ss_nil, c_range1, c_range2, c_range3, i_rng, i_ref, i_tup, i_enm, i_rev, bt_name, bt_tup, look_zero, look_succ, r_next, r_ret, sa_nil, sa_cons, es_nil, es_cons, o_none, o_some, ts_nil, ts_cons, c_lt, c_le, c_gt, c_ge, c_eq, c_ne, b_add, b_sub, b_mul, b_div, b_mod, b_pow, b_shr, a_add, a_mul, t_bool, t_int, List.map, List.cons_append, List.nil_append, List.getElem?_cons_succ, List.getElem?_cons_zero, List.set_cons_succ, List.set_cons_zero, frOf]); (repeat (first | with_reducible refine q_nextI ?_ | with_reducible refine q_retI ?_ | with_reducible refine q_contI ?_ | with_reducible refine q_brkI ?_ | with_reducible refine ss_nilI ?_ | rw [q_next] | rw [q_ret] | rw [q_cont] | rw [q_brk] | rw [ss_nil])); (try simp only [r_next, r_ret]))
  · rw [zipRes_ents (tv := entB f g) (kf := kf) (fun i y hy => by
      have ed : xs.getD i d = y := by simp [List.getD_eq_getElem?_getD, hy]
      simp only [ed]; rfl)]
    have hE1 : LExt σ (zipHp τ ita l 0 (xs.map f) n) := hE.trans (zipHp_ext h1)
    refine ⟨by rw [List.length_map, ents_length]; exact big_of (by omega), fun b hb => ?_⟩
    ((try simp only [e_int, e_bool, e_none, e_str, e_var, e_bin, e_neg, n_int, e_not, e_cmp, e_and, e_or, e_ite, e_sub, e_slice, e_list, e_tuple, e_call, e_ucall, e_meth, e_comp, e_gfn, e_vcall, e_sortk, e_mink, e_ucalld, e_ucallk, s_forx, s_tryLen, s_zipc, t_not, t_and, t_or, t_cmp, t_var, t_sub, t_call, t_ucall, s_expr, s_assign, s_setitem, s_aug, s_augi, s_ifs, s_while, s_for, s_ret, s_brk, s_cont, ss_nil, c_range1, c_range2, c_range3, i_rng, i_ref, i_tup, i_enm, i_rev, bt_name, bt_tup, look_zero, look_succ, r_next, r_ret, sa_nil, sa_cons, es_nil, es_cons, o_none, o_some, ts_nil, ts_cons, c_lt, c_le, c_gt, c_ge, c_eq, c_ne, b_add, b_sub, b_mul, b_div, b_mod, b_pow, b_shr, a_add, a_mul, t_bool, t_int, List.map, List.cons_append, List.nil_append, List.getElem?_cons_succ, List.getElem?_cons_zero, List.set_cons_succ, List.set_cons_zero, frOf]); (repeat (first | with_reducible refine q_nextI ?_ | with_reducible refine q_retI ?_ | with_reducible refine q_contI ?_ | with_reducible refine q_brkI ?_ | with_reducible refine ss_nilI ?_ | rw [q_next] | rw [q_ret] | rw [q_cont] | rw [q_brk] | rw [ss_nil])); (try simp only [r_next, r_ret]))
    refine mid_v Φ hH hG O (fun e oe => ⟨[f e.x], by simp, rfl⟩) hE1 hb h2 h64 hRR ?_ ?_
    · intro hn
      refine q b _ (hE1.trans (.new _ hb)) (hE1.fresh b hb) ?_
      rw [upd_same, show n.toNat = 0 by omega]; rfl
    · intro hn fd hR hs t H ht hl
      have nb := hE1.fresh b hb
      have lb : l ≠ b := by
        rintro rfl
        have := (LExt.ls (zipHp_ext (n := n) (vs := xs.map f) h1)) _ _ h3
        unfold listAt at this; rw [hb] at this; cases this
      have fin : ∀ F nx hs' τ', HSt lt kf ltT xs xs.length nx hs' → hs'.length = min n.toNat xs.length → LExt σ τ' → τ' b = some (.list (hs'.map (entB f g))) → (∀ K, look F 5 K = K (.ref b)) → frOf [none, none, none, none] F = [none, none, none, none] → vSs Φ ps_nsEndB R F τ' := by
        intro F nx hs' τ' H' hl' ext eb hF hfr
        refine endB_v Φ O h64 H' (by omega) (by omega) ext eb nb hRR hF hfr fun c σ' e1 e2 e3 => q c σ' e1 e2 ?_
        rw [e3, hl', take_min _ _ (stab_length xs)]
      rw [ss_cons]
      simp only [s_forx, e_var, look_succ, look_zero]
      rcases zipHp_cases (n := n) (b := b) (hs := hs) (v := .list (hs.map (entB f g))) (by omega) hE h1 h3 hb with ⟨hle, e⟩ | ⟨hle, k, e⟩
      · refine ⟨ita, _, _, rfl, e, ?_⟩
        have hc : (n : Int) = ((n.toNat : Nat) : Int) := by omega
        have A : NsAt σ lt kf ltT xs (entB f g) f (min n.toNat xs.length) ita l b n.toNat n.toNat hs t (upd (zipHp τ ita l 0 (xs.map f) n) b (.list (hs.map (entB f g)))) :=
          ⟨H, ht, hl, hE1.again _ nb, e, by unfold listAt; rw [upd_ne _ _ lb]; exact (LExt.ls (zipHp_ext h1)) _ _ h3, upd_same _ _ _, nb, lb⟩
        have L := loopB_v (x0 := some (.int n)) (x1 := some x) (x3 := some (.ref ita)) (x4 := x4) (x6 := x6) (x7 := x7) (x11 := x11) (x12 := x12) (x13 := x13) (Q := seqQ Φ ps_nsEndB R) Φ hR hK O N h64 (N := min n.toNat xs.length) (by omega) hle A (fun y7 y8 y9 y11 y12 y13 nx hs' t' τ' A' => by
          rw [q_next]
          exact fin _ nx hs' _ A'.H A'.hl (A'.step _ _).1 (A'.step _ _).2.1 (fun K => rfl) rfl)
        rw [← hc] at L
        exact L
      · refine ⟨ita, _, _, rfl, e, forx_dead e ?_⟩
        rw [q_next]
        exact fin _ _ hs _ (H.all hle) hl (hE1.again _ nb) (upd_same _ _ _) (fun K => rfl) rfl
end

/-! Np7 -/
section
variable {α β : Type} {f : α → V} {g : β → V} {kf : α → β} {lt : β → β → Bool} {ltT : Ent α β → Ent α β → Bool} {xs : List α} {d : α} {KC : FuncData → List V → (V → Hp → Prop) → Hp → Prop}
/-- how the key stands to the things -/
noncomputable def NsK (KC : FuncData → List V → (V → Hp → Prop) → Hp → Prop) (f : α → V) (g : β → V) (kf : α → β) (lt : β → β → Bool) (ltT : Ent α β → Ent α β → Bool) (xs : List α) (d : α) (kv : V) (σ : Hp) : Prop :=
  (kv = .none ∧ NsOrd f g kf lt ltT xs d (entA f) σ ∧ NsNone f g kf lt xs d σ) ∨ (∃ fd, kv = .func fd ∧ NsOrd f g kf lt ltT xs d (entB f g) σ ∧ NsKey KC fd f g kf lt xs d σ)
theorem one_v (Φ : Fns) (hK : ∀ fd args Q σ, KC fd args Q σ → Φ 1000 (.func fd :: args) Q σ)
    {σ : Hp} {kv x : V} (hk : NsK KC f g kf lt ltT xs d kv σ) (hx : NSrc σ (xs.map f) x) (h2 : 2 ≤ xs.length) {Q : V → Hp → Prop} {R : Fl → Frm → Hp → Prop} (hRR : ∀ v F σ, R (.ret v) F σ = Q v σ) {x0 x3 x4 x5 x6 x7 x8 x9 x10 x11 x12 x13 : Option V}
    (q : ∀ b σ', LExt σ σ' → σ b = none → σ' b = some (.list (((stab lt kf xs).take 1).map f)) → Q (.ref b) σ') :
    vSs Φ ps_nsOne R [x0, some x, some kv, x3, x4, x5, x6, x7, x8, x9, x10, x11, x12, x13] σ := by
  have hS : SW lt := by rcases hk with ⟨_, O, _⟩ | ⟨_, _, O, _⟩ <;> exact O.S
  have isO : ∀ x ∈ xs, ∀ σ' a Q, LsExt σ σ' → Q (.bool false) σ' → opCmp .Is (f x) (.obj a) Q σ' := by rcases hk with ⟨_, O, _⟩ | ⟨_, _, O, _⟩ <;> exact O.isO
  unfold ps_nsOne
  ((with_reducible refine go_cons ?_); ((try simp only [e_int, e_bool, e_none, e_str, e_var, e_bin, e_neg, n_int, e_not, e_cmp, e_and, e_or, e_ite, e_sub, e_slice, e_list, e_tuple, e_call, e_ucall, e_meth, e_comp, e_gfn, e_vcall, e_sortk, e_mink, e_ucalld, e_ucallk, s_forx, s_tryLen, s_zipc, t_not, t_and, t_or, t_cmp, t_var, t_sub, t_call, t_ucall, s_expr, s_assign, s_setitem, s_aug, s_augi, s_ifs, s_while, s_for, s_ret, s_brk, s_cont, ss_nil, c_range1, c_range2, c_range3, i_rng, i_ref, i_tup, i_enm, i_rev, bt_name, bt_tup, look_zero, look_succ, r_next, r_ret, sa_nil, sa_cons, es_nil, es_cons, o_none, o_some, ts_nil, ts_cons, c_lt, c_le, c_gt, c_ge, c_eq, c_ne, b_add, b_sub, b_mul, b_div, b_mod, b_pow, b_shr, a_add, a_mul, t_bool, t_int, List.map, List.cons_append, List.nil_append, List.getElem?_cons_succ, List.getElem?_cons_zero, List.set_cons_succ, List.set_cons_zero, frOf]); (repeat (first | with_reducible refine q_nextI ?_ | with_reducible refine q_retI ?_ | with_reducible refine q_contI ?_ | with_reducible refine q_brkI ?_ | with_reducible refine ss_nilI ?_ | rw [q_next] | rw [q_ret] | rw [q_cont] | rw [q_brk] | rw [ss_nil])); (try simp only [r_next, r_ret])))
  refine iter_src hx fun ita l τ hE h1 h3 => ?_
  ((try simp only [e_int, e_bool, e_none, e_str, e_var, e_bin, e_neg, n_int, e_not, e_cmp, e_and, e_or, e_ite, e_sub, e_slice, e_list, e_tuple, e_call, e_ucall, e_meth, e_comp, e_gfn, e_vcall, e_sortk, e_mink, e_ucalld, e_ucallk, s_forx, s_tryLen, s_zipc, t_not, t_and, t_or, t_cmp, t_var, t_sub, t_call, t_ucall, s_expr, s_assign, s_setitem, s_aug, s_augi, s_ifs, s_while, s_for, s_ret, s_brk, s_cont, ss_nil, c_range1, c_range2, c_range3, i_rng, i_ref, i_tup, i_enm, i_rev, bt_name, bt_tup, look_zero, look_succ, r_next, r_ret, sa_nil, sa_cons, es_nil, es_cons, o_none, o_some, ts_nil, ts_cons, c_lt, c_le, c_gt, c_ge, c_eq, c_ne, b_add, b_sub, b_mul, b_div, b_mod, b_pow, b_shr, a_add, a_mul, t_bool, t_int, List.map, List.cons_append, List.nil_append, List.getElem?_cons_succ, List.getElem?_cons_zero, List.set_cons_succ, List.set_cons_zero, frOf]); (repeat (first | with_reducible refine q_nextI ?_ | with_reducible refine q_retI ?_ | with_reducible refine q_contI ?_ | with_reducible refine q_brkI ?_ | with_reducible refine ss_nilI ?_ | rw [q_next] | rw [q_ret] | rw [q_cont] | rw [q_brk] | rw [ss_nil])); (try simp only [r_next, r_ret]))
  ((with_reducible refine go_cons ?_); ((try simp only [e_int, e_bool, e_none, e_str, e_var, e_bin, e_neg, n_int, e_not, e_cmp, e_and, e_or, e_ite, e_sub, e_slice, e_list, e_tuple, e_call, e_ucall, e_meth, e_comp, e_gfn, e_vcall, e_sortk, e_mink, e_ucalld, e_ucallk, s_forx, s_tryLen, s_zipc, t_not, t_and, t_or, t_cmp, t_var, t_sub, t_call, t_ucall, s_expr, s_assign, s_setitem, s_aug, s_augi, s_ifs, s_while, s_for, s_ret, s_brk, s_cont, ss_nil, c_range1, c_range2, c_range3, i_rng, i_ref, i_tup, i_enm, i_rev, bt_name, bt_tup, look_zero, look_succ, r_next, r_ret, sa_nil, sa_cons, es_nil, es_cons, o_none, o_some, ts_nil, ts_cons, c_lt, c_le, c_gt, c_ge, c_eq, c_ne, b_add, b_sub, b_mul, b_div, b_mod, b_pow, b_shr, a_add, a_mul, t_bool, t_int, List.map, List.cons_append, List.nil_append, List.getElem?_cons_succ, List.getElem?_cons_zero, List.set_cons_succ, List.set_cons_zero, frOf]); (repeat (first | with_reducible refine q_nextI ?_ | with_reducible refine q_retI ?_ | with_reducible refine q_contI ?_ | with_reducible refine q_brkI ?_ | with_reducible refine ss_nilI ?_ | rw [q_next] | rw [q_ret] | rw [q_cont] | rw [q_brk] | rw [ss_nil])); (try simp only [r_next, r_ret])))
  refine call_object fun a ha => ?_
  ((try simp only [e_int, e_bool, e_none, e_str, e_var, e_bin, e_neg, n_int, e_not, e_cmp, e_and, e_or, e_ite, e_sub, e_slice, e_list, e_tuple, e_call, e_ucall, e_meth, e_comp, e_gfn, e_vcall, e_sortk, e_mink, e_ucalld, e_ucallk, s_forx, s_tryLen, s_zipc, t_not, t_and, t_or, t_cmp, t_var, t_sub, t_call, t_ucall, s_expr, s_assign, s_setitem, s_aug, s_augi, s_ifs, s_while, s_for, s_ret, s_brk, s_cont, ss_nil, c_range1, c_range2, c_range3, i_rng, i_ref, i_tup, i_enm, i_rev, bt_name, bt_tup, look_zero, look_succ, r_next, r_ret, sa_nil, sa_cons, es_nil, es_cons, o_none, o_some, ts_nil, ts_cons, c_lt, c_le, c_gt, c_ge, c_eq, c_ne, b_add, b_sub, b_mul, b_div, b_mod, b_pow, b_shr, a_add, a_mul, t_bool, t_int, List.map, List.cons_append, List.nil_append, List.getElem?_cons_succ, List.getElem?_cons_zero, List.set_cons_succ, List.set_cons_zero, frOf]); (repeat (first | with_reducible refine q_nextI ?_ | with_reducible refine q_retI ?_ | with_reducible refine q_contI ?_ | with_reducible refine q_brkI ?_ | with_reducible refine ss_nilI ?_ | rw [q_next] | rw [q_ret] | rw [q_cont] | rw [q_brk] | rw [ss_nil])); (try simp only [r_next, r_ret]))
  ((with_reducible refine go_cons ?_); ((try simp only [e_int, e_bool, e_none, e_str, e_var, e_bin, e_neg, n_int, e_not, e_cmp, e_and, e_or, e_ite, e_sub, e_slice, e_list, e_tuple, e_call, e_ucall, e_meth, e_comp, e_gfn, e_vcall, e_sortk, e_mink, e_ucalld, e_ucallk, s_forx, s_tryLen, s_zipc, t_not, t_and, t_or, t_cmp, t_var, t_sub, t_call, t_ucall, s_expr, s_assign, s_setitem, s_aug, s_augi, s_ifs, s_while, s_for, s_ret, s_brk, s_cont, ss_nil, c_range1, c_range2, c_range3, i_rng, i_ref, i_tup, i_enm, i_rev, bt_name, bt_tup, look_zero, look_succ, r_next, r_ret, sa_nil, sa_cons, es_nil, es_cons, o_none, o_some, ts_nil, ts_cons, c_lt, c_le, c_gt, c_ge, c_eq, c_ne, b_add, b_sub, b_mul, b_div, b_mod, b_pow, b_shr, a_add, a_mul, t_bool, t_int, List.map, List.cons_append, List.nil_append, List.getElem?_cons_succ, List.getElem?_cons_zero, List.set_cons_succ, List.set_cons_zero, frOf]); (repeat (first | with_reducible refine q_nextI ?_ | with_reducible refine q_retI ?_ | with_reducible refine q_contI ?_ | with_reducible refine q_brkI ?_ | with_reducible refine ss_nilI ?_ | rw [q_next] | rw [q_ret] | rw [q_cont] | rw [q_brk] | rw [ss_nil])); (try simp only [r_next, r_ret])))
  generalize hbt : (fun i j => lt (kf (xs.getD i d)) (kf (xs.getD j d))) = bt
  have hj := argBest_le bt (xs.length - 1)
  have hj' : argBest bt (xs.length - 1) < xs.length := by omega
  have hy : xs[argBest bt (xs.length - 1)]? = some (xs.getD (argBest bt (xs.length - 1)) d) := by simp [List.getD_eq_getElem?_getD, hj']
  have h1' := stab_one (lt := lt) (kf := kf) (d := d) hS (by omega) (bt := bt) (fun i j => by rw [← hbt]) hy
  generalize xs.getD (argBest bt (xs.length - 1)) d = y at hy h1'
  have my := List.mem_of_getElem? hy
  refine ⟨ita, l, xs.map f, bt, f y, rfl, h1, h3, by rw [List.length_map]; omega, by rw [List.length_map, List.getElem?_map, hy]; rfl, ?_, ?_⟩
  · have hE2 : LExt σ (upd τ ita (.iter none (xs.map f).length)) := hE.trans (.it h1)
    ((try simp only [e_int, e_bool, e_none, e_str, e_var, e_bin, e_neg, n_int, e_not, e_cmp, e_and, e_or, e_ite, e_sub, e_slice, e_list, e_tuple, e_call, e_ucall, e_meth, e_comp, e_gfn, e_vcall, e_sortk, e_mink, e_ucalld, e_ucallk, s_forx, s_tryLen, s_zipc, t_not, t_and, t_or, t_cmp, t_var, t_sub, t_call, t_ucall, s_expr, s_assign, s_setitem, s_aug, s_augi, s_ifs, s_while, s_for, s_ret, s_brk, s_cont, ss_nil, c_range1, c_range2, c_range3, i_rng, i_ref, i_tup, i_enm, i_rev, bt_name, bt_tup, look_zero, look_succ, r_next, r_ret, sa_nil, sa_cons, es_nil, es_cons, o_none, o_some, ts_nil, ts_cons, c_lt, c_le, c_gt, c_ge, c_eq, c_ne, b_add, b_sub, b_mul, b_div, b_mod, b_pow, b_shr, a_add, a_mul, t_bool, t_int, List.map, List.cons_append, List.nil_append, List.getElem?_cons_succ, List.getElem?_cons_zero, List.set_cons_succ, List.set_cons_zero, frOf]); (repeat (first | with_reducible refine q_nextI ?_ | with_reducible refine q_retI ?_ | with_reducible refine q_contI ?_ | with_reducible refine q_brkI ?_ | with_reducible refine ss_nilI ?_ | rw [q_next] | rw [q_ret] | rw [q_cont] | rw [q_brk] | rw [ss_nil])); (try simp only [r_next, r_ret]))
    ((with_reducible refine go_cons ?_); ((try simp only [e_int, e_bool, e_none, e_str, e_var, e_bin, e_neg, n_int, e_not, e_cmp, e_and, e_or, e_ite, e_sub, e_slice, e_list, e_tuple, e_call, e_ucall, e_meth, e_comp, e_gfn, e_vcall, e_sortk, e_mink, e_ucalld, e_ucallk, s_forx, s_tryLen, s_zipc, t_not, t_and, t_or, t_cmp, t_var, t_sub, t_call, t_ucall, s_expr, s_assign, s_setitem, s_aug, s_augi, s_ifs, s_while, s_for, s_ret, s_brk, s_cont, ss_nil, c_range1, c_range2, c_range3, i_rng, i_ref, i_tup, i_enm, i_rev, bt_name, bt_tup, look_zero, look_succ, r_next, r_ret, sa_nil, sa_cons, es_nil, es_cons, o_none, o_some, ts_nil, ts_cons, c_lt, c_le, c_gt, c_ge, c_eq, c_ne, b_add, b_sub, b_mul, b_div, b_mod, b_pow, b_shr, a_add, a_mul, t_bool, t_int, List.map, List.cons_append, List.nil_append, List.getElem?_cons_succ, List.getElem?_cons_zero, List.set_cons_succ, List.set_cons_zero, frOf]); (repeat (first | with_reducible refine q_nextI ?_ | with_reducible refine q_retI ?_ | with_reducible refine q_contI ?_ | with_reducible refine q_brkI ?_ | with_reducible refine ss_nilI ?_ | rw [q_next] | rw [q_ret] | rw [q_cont] | rw [q_brk] | rw [ss_nil])); (try simp only [r_next, r_ret])))
    refine isO y my _ _ _ hE2.ls ?_
    ((try simp only [e_int, e_bool, e_none, e_str, e_var, e_bin, e_neg, n_int, e_not, e_cmp, e_and, e_or, e_ite, e_sub, e_slice, e_list, e_tuple, e_call, e_ucall, e_meth, e_comp, e_gfn, e_vcall, e_sortk, e_mink, e_ucalld, e_ucallk, s_forx, s_tryLen, s_zipc, t_not, t_and, t_or, t_cmp, t_var, t_sub, t_call, t_ucall, s_expr, s_assign, s_setitem, s_aug, s_augi, s_ifs, s_while, s_for, s_ret, s_brk, s_cont, ss_nil, c_range1, c_range2, c_range3, i_rng, i_ref, i_tup, i_enm, i_rev, bt_name, bt_tup, look_zero, look_succ, r_next, r_ret, sa_nil, sa_cons, es_nil, es_cons, o_none, o_some, ts_nil, ts_cons, c_lt, c_le, c_gt, c_ge, c_eq, c_ne, b_add, b_sub, b_mul, b_div, b_mod, b_pow, b_shr, a_add, a_mul, t_bool, t_int, List.map, List.cons_append, List.nil_append, List.getElem?_cons_succ, List.getElem?_cons_zero, List.set_cons_succ, List.set_cons_zero, frOf]); (repeat (first | with_reducible refine q_nextI ?_ | with_reducible refine q_retI ?_ | with_reducible refine q_contI ?_ | with_reducible refine q_brkI ?_ | with_reducible refine ss_nilI ?_ | rw [q_next] | rw [q_ret] | rw [q_cont] | rw [q_brk] | rw [ss_nil])); (try simp only [r_next, r_ret]))
    simp only [Bool.false_eq_true, if_false]
    refine ⟨big_of (n := 1) (by decide), fun b hb => ?_⟩
    ((try simp only [e_int, e_bool, e_none, e_str, e_var, e_bin, e_neg, n_int, e_not, e_cmp, e_and, e_or, e_ite, e_sub, e_slice, e_list, e_tuple, e_call, e_ucall, e_meth, e_comp, e_gfn, e_vcall, e_sortk, e_mink, e_ucalld, e_ucallk, s_forx, s_tryLen, s_zipc, t_not, t_and, t_or, t_cmp, t_var, t_sub, t_call, t_ucall, s_expr, s_assign, s_setitem, s_aug, s_augi, s_ifs, s_while, s_for, s_ret, s_brk, s_cont, ss_nil, c_range1, c_range2, c_range3, i_rng, i_ref, i_tup, i_enm, i_rev, bt_name, bt_tup, look_zero, look_succ, r_next, r_ret, sa_nil, sa_cons, es_nil, es_cons, o_none, o_some, ts_nil, ts_cons, c_lt, c_le, c_gt, c_ge, c_eq, c_ne, b_add, b_sub, b_mul, b_div, b_mod, b_pow, b_shr, a_add, a_mul, t_bool, t_int, List.map, List.cons_append, List.nil_append, List.getElem?_cons_succ, List.getElem?_cons_zero, List.set_cons_succ, List.set_cons_zero, frOf]); (repeat (first | with_reducible refine q_nextI ?_ | with_reducible refine q_retI ?_ | with_reducible refine q_contI ?_ | with_reducible refine q_brkI ?_ | with_reducible refine ss_nilI ?_ | rw [q_next] | rw [q_ret] | rw [q_cont] | rw [q_brk] | rw [ss_nil])); (try simp only [r_next, r_ret]))
    rw [hRR]
    refine q b _ (hE2.trans (.new _ hb)) (hE2.fresh b hb) ?_
    rw [upd_same, h1']; rfl
  · subst hbt
    rcases hk with ⟨rfl, O, N⟩ | ⟨fd, rfl, O, N⟩
    · exact .inl ⟨rfl, fun h₀ h vs hw r => N.min h₀ h vs τ ita hE.ls hw r ⟨_, _, h1⟩⟩
    · refine .inr ⟨fd, xs.map fun x => g (kf x), rfl, by rw [List.length_map, List.length_map], fun z mz => ?_, fun i u v hu hv => ?_, N.min⟩
      · obtain ⟨w, mw, rfl⟩ := List.mem_map.mp mz
        exact (N.flat w mw).2
      · rw [List.getElem?_map, Option.map_eq_some_iff] at hu hv
        obtain ⟨w, hw, rfl⟩ := hu
        obtain ⟨w', hw', rfl⟩ := hv
        rw [hw] at hw'; cases hw'
        exact hK _ _ _ _ (N.call w (List.mem_of_getElem? hw) _ _ (hE.ls.trans (ls_freeze _)) rfl)
theorem srt_v (Φ : Fns) (hK : ∀ fd args Q σ, KC fd args Q σ → Φ 1000 (.func fd :: args) Q σ)
    {σ : Hp} {kv : V} {a : Addr} (hk : NsK KC f g kf lt ltT xs d kv σ) (hx : listAt σ a = some (xs.map f)) (h2 : 2 ≤ xs.length) (h64 : xs.length < 64) {n : Int} {Q : V → Hp → Prop} {x3 x4 x5 x7 x8 x9 x10 x11 x12 x13 : Option V} {R : Fl → Frm → Hp → Prop}
    (hR : ∀ v F σ, R (.ret v) F σ = Q v σ)
    (q : ∀ b σ', LExt σ σ' → σ b = none → σ' b = some (.list (((stab lt kf xs).take n.toNat).map f)) → Q (.ref b) σ')
    (nx : R .next [some (.int n), some (.ref a), some kv, x3, x4, x5, some (.int xs.length), x7, x8, x9, x10, x11, x12, x13] σ) :
    vSs Φ ps_nsSrt R [some (.int n), some (.ref a), some kv, x3, x4, x5, some (.int xs.length), x7, x8, x9, x10, x11, x12, x13] σ := by
  have hS : SW lt := by rcases hk with ⟨_, O, _⟩ | ⟨_, _, O, _⟩ <;> exact O.S
  unfold ps_nsSrt
  ((with_reducible refine go_cons ?_); ((try simp only [e_int, e_bool, e_none, e_str, e_var, e_bin, e_neg, n_int, e_not, e_cmp, e_and, e_or, e_ite, e_sub, e_slice, e_list, e_tuple, e_call, e_ucall, e_meth, e_comp, e_gfn, e_vcall, e_sortk, e_mink, e_ucalld, e_ucallk, s_forx, s_tryLen, s_zipc, t_not, t_and, t_or, t_cmp, t_var, t_sub, t_call, t_ucall, s_expr, s_assign, s_setitem, s_aug, s_augi, s_ifs, s_while, s_for, s_ret, s_brk, s_cont, ss_nil, c_range1, c_range2, c_range3, i_rng, i_ref, i_tup, i_enm, i_rev, bt_name, bt_tup, look_zero, look_succ, r_next, r_ret, sa_nil, sa_cons, es_nil, es_cons, o_none, o_some, ts_nil, ts_cons, c_lt, c_le, c_gt, c_ge, c_eq, c_ne, b_add, b_sub, b_mul, b_div, b_mod, b_pow, b_shr, a_add, a_mul, t_bool, t_int, List.map, List.cons_append, List.nil_append, List.getElem?_cons_succ, List.getElem?_cons_zero, List.set_cons_succ, List.set_cons_zero, frOf]); (repeat (first | with_reducible refine q_nextI ?_ | with_reducible refine q_retI ?_ | with_reducible refine q_contI ?_ | with_reducible refine q_brkI ?_ | with_reducible refine ss_nilI ?_ | rw [q_next] | rw [q_ret] | rw [q_cont] | rw [q_brk] | rw [ss_nil])); (try simp only [r_next, r_ret])))
  by_cases hn : (xs.length : Int) ≤ n
  · rw [decide_eq_true hn, if_pos rfl]
    ((with_reducible refine go_cons ?_); ((try simp only [e_int, e_bool, e_none, e_str, e_var, e_bin, e_neg, n_int, e_not, e_cmp, e_and, e_or, e_ite, e_sub, e_slice, e_list, e_tuple, e_call, e_ucall, e_meth, e_comp, e_gfn, e_vcall, e_sortk, e_mink, e_ucalld, e_ucallk, s_forx, s_tryLen, s_zipc, t_not, t_and, t_or, t_cmp, t_var, t_sub, t_call, t_ucall, s_expr, s_assign, s_setitem, s_aug, s_augi, s_ifs, s_while, s_for, s_ret, s_brk, s_cont, ss_nil, c_range1, c_range2, c_range3, i_rng, i_ref, i_tup, i_enm, i_rev, bt_name, bt_tup, look_zero, look_succ, r_next, r_ret, sa_nil, sa_cons, es_nil, es_cons, o_none, o_some, ts_nil, ts_cons, c_lt, c_le, c_gt, c_ge, c_eq, c_ne, b_add, b_sub, b_mul, b_div, b_mod, b_pow, b_shr, a_add, a_mul, t_bool, t_int, List.map, List.cons_append, List.nil_append, List.getElem?_cons_succ, List.getElem?_cons_zero, List.set_cons_succ, List.set_cons_zero, frOf]); (repeat (first | with_reducible refine q_nextI ?_ | with_reducible refine q_retI ?_ | with_reducible refine q_contI ?_ | with_reducible refine q_brkI ?_ | with_reducible refine ss_nilI ?_ | rw [q_next] | rw [q_ret] | rw [q_cont] | rw [q_brk] | rw [ss_nil])); (try simp only [r_next, r_ret])))
    have Wk : Weak (fun i j => lt (kf (xs.getD i d)) (kf (xs.getD j d))) := hS.weak fun i => kf (xs.getD i d)
    refine ⟨a, xs.map f, fun i j => lt (kf (xs.getD i d)) (kf (xs.getD j d)), rfl, hx, Wk, by simpa using h2, by simpa using h64, fun p hp hu => ?_, ?_⟩
    · rw [List.length_map] at hp hu
      have hm : ∀ i ∈ p.toList, i < xs.length := fun i m => by have := hp.perm.mem_iff.mp m; simpa using this
      have e1 : (p.toList.map fun i => (xs.map f).getD i .none) = (stab lt kf xs).map f := by
        rw [← stab_all hS hp hu, List.map_map]
        exact List.map_congr_left fun i m => getD_map_V f d xs (hm i m)
      rw [e1]
      refine ⟨by rw [List.length_map, stab_length]; exact big_of (by omega), fun b hb => ?_⟩
      have hn' : n = ((n.toNat : Nat) : Int) := by omega
      rw [hn']
      refine slice_take (listAt_list (upd_same _ _ _)) (by rw [List.length_map, stab_length]; exact big_of (by omega)) ?_
      refine ⟨by rw [List.length_take, List.length_map, stab_length]; exact big_of (by omega), fun c hc => ?_⟩
      ((try simp only [e_int, e_bool, e_none, e_str, e_var, e_bin, e_neg, n_int, e_not, e_cmp, e_and, e_or, e_ite, e_sub, e_slice, e_list, e_tuple, e_call, e_ucall, e_meth, e_comp, e_gfn, e_vcall, e_sortk, e_mink, e_ucalld, e_ucallk, s_forx, s_tryLen, s_zipc, t_not, t_and, t_or, t_cmp, t_var, t_sub, t_call, t_ucall, s_expr, s_assign, s_setitem, s_aug, s_augi, s_ifs, s_while, s_for, s_ret, s_brk, s_cont, ss_nil, c_range1, c_range2, c_range3, i_rng, i_ref, i_tup, i_enm, i_rev, bt_name, bt_tup, look_zero, look_succ, r_next, r_ret, sa_nil, sa_cons, es_nil, es_cons, o_none, o_some, ts_nil, ts_cons, c_lt, c_le, c_gt, c_ge, c_eq, c_ne, b_add, b_sub, b_mul, b_div, b_mod, b_pow, b_shr, a_add, a_mul, t_bool, t_int, List.map, List.cons_append, List.nil_append, List.getElem?_cons_succ, List.getElem?_cons_zero, List.set_cons_succ, List.set_cons_zero, frOf]); (repeat (first | with_reducible refine q_nextI ?_ | with_reducible refine q_retI ?_ | with_reducible refine q_contI ?_ | with_reducible refine q_brkI ?_ | with_reducible refine ss_nilI ?_ | rw [q_next] | rw [q_ret] | rw [q_cont] | rw [q_brk] | rw [ss_nil])); (try simp only [r_next, r_ret]))
      rw [hR]
      have x1 : LExt σ (upd σ b (.list ((stab lt kf xs).map f))) := .new _ hb
      refine q c _ (x1.trans (.new _ hc)) (x1.fresh c hc) ?_
      rw [upd_same, List.map_take]
    · rcases hk with ⟨rfl, O, N⟩ | ⟨fd, rfl, O, N⟩
      · exact .inl ⟨rfl, fun h₀ h vs hw r => N.sort h₀ h vs σ (fun _ _ e => e) hw r⟩
      · refine .inr ⟨fd, xs.map fun x => g (kf x), rfl, by rw [List.length_map, List.length_map], fun z mz => ?_, fun i u v hu hv => ?_, N.sort⟩
        · obtain ⟨w, mw, rfl⟩ := List.mem_map.mp mz
          exact (N.flat w mw).2
        · rw [List.getElem?_map, Option.map_eq_some_iff] at hu hv
          obtain ⟨w, hw, rfl⟩ := hu
          obtain ⟨w', hw', rfl⟩ := hv
          rw [hw] at hw'; cases hw'
          exact hK _ _ _ _ (N.call w (List.mem_of_getElem? hw) _ _ (ls_freeze _) rfl)
  · rw [decide_eq_false hn]
    simp only [Bool.false_eq_true, if_false]
    ((try simp only [e_int, e_bool, e_none, e_str, e_var, e_bin, e_neg, n_int, e_not, e_cmp, e_and, e_or, e_ite, e_sub, e_slice, e_list, e_tuple, e_call, e_ucall, e_meth, e_comp, e_gfn, e_vcall, e_sortk, e_mink, e_ucalld, e_ucallk, s_forx, s_tryLen, s_zipc, t_not, t_and, t_or, t_cmp, t_var, t_sub, t_call, t_ucall, s_expr, s_assign, s_setitem, s_aug, s_augi, s_ifs, s_while, s_for, s_ret, s_brk, s_cont, ss_nil, c_range1, c_range2, c_range3, i_rng, i_ref, i_tup, i_enm, i_rev, bt_name, bt_tup, look_zero, look_succ, r_next, r_ret, sa_nil, sa_cons, es_nil, es_cons, o_none, o_some, ts_nil, ts_cons, c_lt, c_le, c_gt, c_ge, c_eq, c_ne, b_add, b_sub, b_mul, b_div, b_mod, b_pow, b_shr, a_add, a_mul, t_bool, t_int, List.map, List.cons_append, List.nil_append, List.getElem?_cons_succ, List.getElem?_cons_zero, List.set_cons_succ, List.set_cons_zero, frOf]); (repeat (first | with_reducible refine q_nextI ?_ | with_reducible refine q_retI ?_ | with_reducible refine q_contI ?_ | with_reducible refine q_brkI ?_ | with_reducible refine ss_nilI ?_ | rw [q_next] | rw [q_ret] | rw [q_cont] | rw [q_brk] | rw [ss_nil])); (try simp only [r_next, r_ret]))
    exact nx
end
theorem nsmallest_v (Φ : Fns) (KC : FuncData → List V → (V → Hp → Prop) → Hp → Prop) (hH : ∀ args Q σ, heapifyC args Q σ → Φ 3 args Q σ) (hG : ∀ fd σ, Φ 1001 [.int 2, .func fd] (fun _ _ => True) σ → ∀ args Q σ, heapreplaceC args Q σ → Φ 1000 (.func fd :: args) Q σ) (hK : ∀ fd args Q σ, KC fd args Q σ → Φ 1000 (.func fd :: args) Q σ)
    (args : List V) (Q : V → Hp → Prop) (σ : Hp) (F : Frm) (h : nsC KC args Q σ) (hF : F = args.map some ++ [none, none, none, none, none, none, none, none, none, none, none]) : vSs Φ ps_ns (retV Q) F σ := by
  obtain ⟨n, x, kv, α, β, f, g, kf, lt, ltT, xs, d, rfl, h2, h64, n0, n1, hx, hk, q⟩ := h
  have hk : NsK KC f g kf lt ltT xs d kv σ := hk
  subst hF
  rw [ps_ns_eq]
  ((with_reducible refine go_cons ?_); ((try simp only [e_int, e_bool, e_none, e_str, e_var, e_bin, e_neg, n_int, e_not, e_cmp, e_and, e_or, e_ite, e_sub, e_slice, e_list, e_tuple, e_call, e_ucall, e_meth, e_comp, e_gfn, e_vcall, e_sortk, e_mink, e_ucalld, e_ucallk, s_forx, s_tryLen, s_zipc, t_not, t_and, t_or, t_cmp, t_var, t_sub, t_call, t_ucall, s_expr, s_assign, s_setitem, s_aug, s_augi, s_ifs, s_while, s_for, s_ret, s_brk, s_cont, ss_nil, c_range1, c_range2, c_range3, i_rng, i_ref, i_tup, i_enm, i_rev, bt_name, bt_tup, look_zero, look_succ, r_next, r_ret, sa_nil, sa_cons, es_nil, es_cons, o_none, o_some, ts_nil, ts_cons, c_lt, c_le, c_gt, c_ge, c_eq, c_ne, b_add, b_sub, b_mul, b_div, b_mod, b_pow, b_shr, a_add, a_mul, t_bool, t_int, List.map, List.cons_append, List.nil_append, List.getElem?_cons_succ, List.getElem?_cons_zero, List.set_cons_succ, List.set_cons_zero, frOf]); (repeat (first | with_reducible refine q_nextI ?_ | with_reducible refine q_retI ?_ | with_reducible refine q_contI ?_ | with_reducible refine q_brkI ?_ | with_reducible refine ss_nilI ?_ | rw [q_next] | rw [q_ret] | rw [q_cont] | rw [q_brk] | rw [ss_nil])); (try simp only [r_next, r_ret])))
  by_cases e1 : n = 1
  · subst e1
    simp only [beq_self_eq_true, if_true]
    exact one_v Φ hK hk hx h2 (Q := Q) (fun v F σ => by rw [q_ret]; rfl) q
  · rw [show (n == 1) = false by simpa using e1]
    simp only [Bool.false_eq_true, if_false]
    ((try simp only [e_int, e_bool, e_none, e_str, e_var, e_bin, e_neg, n_int, e_not, e_cmp, e_and, e_or, e_ite, e_sub, e_slice, e_list, e_tuple, e_call, e_ucall, e_meth, e_comp, e_gfn, e_vcall, e_sortk, e_mink, e_ucalld, e_ucallk, s_forx, s_tryLen, s_zipc, t_not, t_and, t_or, t_cmp, t_var, t_sub, t_call, t_ucall, s_expr, s_assign, s_setitem, s_aug, s_augi, s_ifs, s_while, s_for, s_ret, s_brk, s_cont, ss_nil, c_range1, c_range2, c_range3, i_rng, i_ref, i_tup, i_enm, i_rev, bt_name, bt_tup, look_zero, look_succ, r_next, r_ret, sa_nil, sa_cons, es_nil, es_cons, o_none, o_some, ts_nil, ts_cons, c_lt, c_le, c_gt, c_ge, c_eq, c_ne, b_add, b_sub, b_mul, b_div, b_mod, b_pow, b_shr, a_add, a_mul, t_bool, t_int, List.map, List.cons_append, List.nil_append, List.getElem?_cons_succ, List.getElem?_cons_zero, List.set_cons_succ, List.set_cons_zero, frOf]); (repeat (first | with_reducible refine q_nextI ?_ | with_reducible refine q_retI ?_ | with_reducible refine q_contI ?_ | with_reducible refine q_brkI ?_ | with_reducible refine ss_nilI ?_ | rw [q_next] | rw [q_ret] | rw [q_cont] | rw [q_brk] | rw [ss_nil])); (try simp only [r_next, r_ret]))
    have rest : ∀ y6 : Option V, vSs Φ (.ifs (.cmp .Is (.var 2) .none) ps_nsA [] :: ps_nsB) (retV Q) [some (.int n), some x, some kv, none, none, none, y6, none, none, none, none, none, none, none] σ := by
      intro y6
      ((with_reducible refine go_cons ?_); ((try simp only [e_int, e_bool, e_none, e_str, e_var, e_bin, e_neg, n_int, e_not, e_cmp, e_and, e_or, e_ite, e_sub, e_slice, e_list, e_tuple, e_call, e_ucall, e_meth, e_comp, e_gfn, e_vcall, e_sortk, e_mink, e_ucalld, e_ucallk, s_forx, s_tryLen, s_zipc, t_not, t_and, t_or, t_cmp, t_var, t_sub, t_call, t_ucall, s_expr, s_assign, s_setitem, s_aug, s_augi, s_ifs, s_while, s_for, s_ret, s_brk, s_cont, ss_nil, c_range1, c_range2, c_range3, i_rng, i_ref, i_tup, i_enm, i_rev, bt_name, bt_tup, look_zero, look_succ, r_next, r_ret, sa_nil, sa_cons, es_nil, es_cons, o_none, o_some, ts_nil, ts_cons, c_lt, c_le, c_gt, c_ge, c_eq, c_ne, b_add, b_sub, b_mul, b_div, b_mod, b_pow, b_shr, a_add, a_mul, t_bool, t_int, List.map, List.cons_append, List.nil_append, List.getElem?_cons_succ, List.getElem?_cons_zero, List.set_cons_succ, List.set_cons_zero, frOf]); (repeat (first | with_reducible refine q_nextI ?_ | with_reducible refine q_retI ?_ | with_reducible refine q_contI ?_ | with_reducible refine q_brkI ?_ | with_reducible refine ss_nilI ?_ | rw [q_next] | rw [q_ret] | rw [q_cont] | rw [q_brk] | rw [ss_nil])); (try simp only [r_next, r_ret])))
      rcases hk with ⟨rfl, O, N⟩ | ⟨fd, rfl, O, N⟩
      · refine is_none' ?_
        ((try simp only [e_int, e_bool, e_none, e_str, e_var, e_bin, e_neg, n_int, e_not, e_cmp, e_and, e_or, e_ite, e_sub, e_slice, e_list, e_tuple, e_call, e_ucall, e_meth, e_comp, e_gfn, e_vcall, e_sortk, e_mink, e_ucalld, e_ucallk, s_forx, s_tryLen, s_zipc, t_not, t_and, t_or, t_cmp, t_var, t_sub, t_call, t_ucall, s_expr, s_assign, s_setitem, s_aug, s_augi, s_ifs, s_while, s_for, s_ret, s_brk, s_cont, ss_nil, c_range1, c_range2, c_range3, i_rng, i_ref, i_tup, i_enm, i_rev, bt_name, bt_tup, look_zero, look_succ, r_next, r_ret, sa_nil, sa_cons, es_nil, es_cons, o_none, o_some, ts_nil, ts_cons, c_lt, c_le, c_gt, c_ge, c_eq, c_ne, b_add, b_sub, b_mul, b_div, b_mod, b_pow, b_shr, a_add, a_mul, t_bool, t_int, List.map, List.cons_append, List.nil_append, List.getElem?_cons_succ, List.getElem?_cons_zero, List.set_cons_succ, List.set_cons_zero, frOf]); (repeat (first | with_reducible refine q_nextI ?_ | with_reducible refine q_retI ?_ | with_reducible refine q_contI ?_ | with_reducible refine q_brkI ?_ | with_reducible refine ss_nilI ?_ | rw [q_next] | rw [q_ret] | rw [q_cont] | rw [q_brk] | rw [ss_nil])); (try simp only [r_next, r_ret]))
        simp only [if_true]
        exact nsA_v Φ hH hG O N hx h2 h64 n0 n1 e1 (Q := Q) (fun v F σ => by rw [q_ret]; rfl) q
      · refine is_func_none ?_
        ((try simp only [e_int, e_bool, e_none, e_str, e_var, e_bin, e_neg, n_int, e_not, e_cmp, e_and, e_or, e_ite, e_sub, e_slice, e_list, e_tuple, e_call, e_ucall, e_meth, e_comp, e_gfn, e_vcall, e_sortk, e_mink, e_ucalld, e_ucallk, s_forx, s_tryLen, s_zipc, t_not, t_and, t_or, t_cmp, t_var, t_sub, t_call, t_ucall, s_expr, s_assign, s_setitem, s_aug, s_augi, s_ifs, s_while, s_for, s_ret, s_brk, s_cont, ss_nil, c_range1, c_range2, c_range3, i_rng, i_ref, i_tup, i_enm, i_rev, bt_name, bt_tup, look_zero, look_succ, r_next, r_ret, sa_nil, sa_cons, es_nil, es_cons, o_none, o_some, ts_nil, ts_cons, c_lt, c_le, c_gt, c_ge, c_eq, c_ne, b_add, b_sub, b_mul, b_div, b_mod, b_pow, b_shr, a_add, a_mul, t_bool, t_int, List.map, List.cons_append, List.nil_append, List.getElem?_cons_succ, List.getElem?_cons_zero, List.set_cons_succ, List.set_cons_zero, frOf]); (repeat (first | with_reducible refine q_nextI ?_ | with_reducible refine q_retI ?_ | with_reducible refine q_contI ?_ | with_reducible refine q_brkI ?_ | with_reducible refine ss_nilI ?_ | rw [q_next] | rw [q_ret] | rw [q_cont] | rw [q_brk] | rw [ss_nil])); (try simp only [r_next, r_ret]))
        simp only [Bool.false_eq_true, if_false]
        ((try simp only [e_int, e_bool, e_none, e_str, e_var, e_bin, e_neg, n_int, e_not, e_cmp, e_and, e_or, e_ite, e_sub, e_slice, e_list, e_tuple, e_call, e_ucall, e_meth, e_comp, e_gfn, e_vcall, e_sortk, e_mink, e_ucalld, e_ucallk, s_forx, s_tryLen, s_zipc, t_not, t_and, t_or, t_cmp, t_var, t_sub, t_call, t_ucall, s_expr, s_assign, s_setitem, s_aug, s_augi, s_ifs, s_while, s_for, s_ret, s_brk, s_cont, ss_nil, c_range1, c_range2, c_range3, i_rng, i_ref, i_tup, i_enm, i_rev, bt_name, bt_tup, look_zero, look_succ, r_next, r_ret, sa_nil, sa_cons, es_nil, es_cons, o_none, o_some, ts_nil, ts_cons, c_lt, c_le, c_gt, c_ge, c_eq, c_ne, b_add, b_sub, b_mul, b_div, b_mod, b_pow, b_shr, a_add, a_mul, t_bool, t_int, List.map, List.cons_append, List.nil_append, List.getElem?_cons_succ, List.getElem?_cons_zero, List.set_cons_succ, List.set_cons_zero, frOf]); (repeat (first | with_reducible refine q_nextI ?_ | with_reducible refine q_retI ?_ | with_reducible refine q_contI ?_ | with_reducible refine q_brkI ?_ | with_reducible refine ss_nilI ?_ | rw [q_next] | rw [q_ret] | rw [q_cont] | rw [q_brk] | rw [ss_nil])); (try simp only [r_next, r_ret]))
        exact nsB_v Φ hH hG hK O N hx h2 h64 n0 n1 e1 (Q := Q) (fun v F σ => rfl) q
    ((with_reducible refine go_cons ?_); ((try simp only [e_int, e_bool, e_none, e_str, e_var, e_bin, e_neg, n_int, e_not, e_cmp, e_and, e_or, e_ite, e_sub, e_slice, e_list, e_tuple, e_call, e_ucall, e_meth, e_comp, e_gfn, e_vcall, e_sortk, e_mink, e_ucalld, e_ucallk, s_forx, s_tryLen, s_zipc, t_not, t_and, t_or, t_cmp, t_var, t_sub, t_call, t_ucall, s_expr, s_assign, s_setitem, s_aug, s_augi, s_ifs, s_while, s_for, s_ret, s_brk, s_cont, ss_nil, c_range1, c_range2, c_range3, i_rng, i_ref, i_tup, i_enm, i_rev, bt_name, bt_tup, look_zero, look_succ, r_next, r_ret, sa_nil, sa_cons, es_nil, es_cons, o_none, o_some, ts_nil, ts_cons, c_lt, c_le, c_gt, c_ge, c_eq, c_ne, b_add, b_sub, b_mul, b_div, b_mod, b_pow, b_shr, a_add, a_mul, t_bool, t_int, List.map, List.cons_append, List.nil_append, List.getElem?_cons_succ, List.getElem?_cons_zero, List.set_cons_succ, List.set_cons_zero, frOf]); (repeat (first | with_reducible refine q_nextI ?_ | with_reducible refine q_retI ?_ | with_reducible refine q_contI ?_ | with_reducible refine q_brkI ?_ | with_reducible refine ss_nilI ?_ | rw [q_next] | rw [q_ret] | rw [q_cont] | rw [q_brk] | rw [ss_nil])); (try simp only [r_next, r_ret])))
    cases hx with
    | list e =>
      refine .inl ⟨_, _, rfl, e, ?_⟩
      rw [List.length_map]
      refine srt_v Φ hK hk e h2 h64 (Q := Q) (fun v F σ => by rw [q_ret]; rfl) q ?_
      ((try simp only [e_int, e_bool, e_none, e_str, e_var, e_bin, e_neg, n_int, e_not, e_cmp, e_and, e_or, e_ite, e_sub, e_slice, e_list, e_tuple, e_call, e_ucall, e_meth, e_comp, e_gfn, e_vcall, e_sortk, e_mink, e_ucalld, e_ucallk, s_forx, s_tryLen, s_zipc, t_not, t_and, t_or, t_cmp, t_var, t_sub, t_call, t_ucall, s_expr, s_assign, s_setitem, s_aug, s_augi, s_ifs, s_while, s_for, s_ret, s_brk, s_cont, ss_nil, c_range1, c_range2, c_range3, i_rng, i_ref, i_tup, i_enm, i_rev, bt_name, bt_tup, look_zero, look_succ, r_next, r_ret, sa_nil, sa_cons, es_nil, es_cons, o_none, o_some, ts_nil, ts_cons, c_lt, c_le, c_gt, c_ge, c_eq, c_ne, b_add, b_sub, b_mul, b_div, b_mod, b_pow, b_shr, a_add, a_mul, t_bool, t_int, List.map, List.cons_append, List.nil_append, List.getElem?_cons_succ, List.getElem?_cons_zero, List.set_cons_succ, List.set_cons_zero, frOf]); (repeat (first | with_reducible refine q_nextI ?_ | with_reducible refine q_retI ?_ | with_reducible refine q_contI ?_ | with_reducible refine q_brkI ?_ | with_reducible refine ss_nilI ?_ | rw [q_next] | rw [q_ret] | rw [q_cont] | rw [q_brk] | rw [ss_nil])); (try simp only [r_next, r_ret]))
      exact rest _
    | iter a1 a2 =>
      refine .inr ⟨_, _, _, rfl, a1, ?_⟩
      ((try simp only [e_int, e_bool, e_none, e_str, e_var, e_bin, e_neg, n_int, e_not, e_cmp, e_and, e_or, e_ite, e_sub, e_slice, e_list, e_tuple, e_call, e_ucall, e_meth, e_comp, e_gfn, e_vcall, e_sortk, e_mink, e_ucalld, e_ucallk, s_forx, s_tryLen, s_zipc, t_not, t_and, t_or, t_cmp, t_var, t_sub, t_call, t_ucall, s_expr, s_assign, s_setitem, s_aug, s_augi, s_ifs, s_while, s_for, s_ret, s_brk, s_cont, ss_nil, c_range1, c_range2, c_range3, i_rng, i_ref, i_tup, i_enm, i_rev, bt_name, bt_tup, look_zero, look_succ, r_next, r_ret, sa_nil, sa_cons, es_nil, es_cons, o_none, o_some, ts_nil, ts_cons, c_lt, c_le, c_gt, c_ge, c_eq, c_ne, b_add, b_sub, b_mul, b_div, b_mod, b_pow, b_shr, a_add, a_mul, t_bool, t_int, List.map, List.cons_append, List.nil_append, List.getElem?_cons_succ, List.getElem?_cons_zero, List.set_cons_succ, List.set_cons_zero, frOf]); (repeat (first | with_reducible refine q_nextI ?_ | with_reducible refine q_retI ?_ | with_reducible refine q_contI ?_ | with_reducible refine q_brkI ?_ | with_reducible refine ss_nilI ?_ | rw [q_next] | rw [q_ret] | rw [q_cont] | rw [q_brk] | rw [ss_nil])); (try simp only [r_next, r_ret]))
      exact rest _

/-! I11 -/
/-! nsmallest of ints: without a key, and by the number with the other sign -/
noncomputable def iLt (a b : Int) : Bool := decide (a < b)
theorem iLt_sw : SW iLt := ⟨fun a b h => by unfold iLt at *; simp at *; omega, fun a b c h => by unfold iLt at *; simp at *; omega⟩
theorem Sorts.congr {h : Heap} {vs : List Value} {lt lt' : Nat → Nat → Bool} (S : Sorts h vs lt) (e : ∀ i j, i < vs.length → j < vs.length → lt' i j = lt i j) : Sorts h vs lt' := by
  obtain ⟨κ, q⟩ := S
  exact ⟨κ, fun prog w A s k => ⟨(q prog w A s k).1, fun i j C hi hj hc => (q prog w A s k).2 i j C hi hj (by rw [← e i j hi hj]; exact hc)⟩⟩
theorem SW.of {γ δ : Type} {lt : δ → δ → Bool} (S : SW lt) (g : γ → δ) : SW (fun a b => lt (g a) (g b)) := ⟨fun a b => S.asym _ _, fun a b c => S.neg _ _ _⟩
noncomputable def eA (e : Ent Int Int) : List Int := [e.k, e.o]
noncomputable def eB (e : Ent Int Int) : List Int := [e.k, e.o, e.x]
theorem entLt_A : EntLt iLt (fun a b => ltI (eA a) (eA b)) := by
  refine ⟨ltI_sw.of eA, fun a b h => ?_, fun a b h g o => ?_⟩
  · unfold iLt at h; simp at h; unfold eA; simp only [ltI]; rw [if_neg (by omega)]; simpa using h
  · unfold iLt at h g; simp at h g
    unfold eA; simp only [ltI]; rw [if_pos (by omega), if_neg (by omega)]; simp; omega
theorem entLt_B : EntLt iLt (fun a b => ltI (eB a) (eB b)) := by
  refine ⟨ltI_sw.of eB, fun a b h => ?_, fun a b h g o => ?_⟩
  · unfold iLt at h; simp at h; unfold eB; simp only [ltI]; rw [if_neg (by omega)]; simpa using h
  · unfold iLt at h g; simp at h g
    unfold eB; simp only [ltI]; rw [if_pos (by omega), if_neg (by omega)]; simp; omega
theorem getD_map' {γ δ : Type} (g : γ → δ) (xs : List γ) (d : γ) (d' : δ) {i : Nat} (h : i < xs.length) : (xs.map g).getD i d' = g (xs.getD i d) := by simp [h]
theorem sorts_ents {es : List (Ent Int Int)} {tv : Ent Int Int → V} {ge : Ent Int Int → List Int} (h : ∀ e ∈ es, tv e = tupV (ge e)) (hn : ∀ e, ge e ≠ []) (h2 : 2 ≤ es.length) {hp : Heap} {vs : List Value} (r : Reps hp vs (es.map tv)) (D : Ent Int Int) :
    Sorts hp vs (fun i j => ltI (ge (es.getD i D)) (ge (es.getD j D))) := by
  have e1 : es.map tv = (es.map ge).map fun x => .tup (x.map .int) := by rw [List.map_map]; exact List.map_congr_left h
  rw [e1] at r
  have hl : vs.length = es.length := by rw [r.length]; simp
  refine (sorts_tups (by simpa using h2) r (fun x m => by obtain ⟨e, _, rfl⟩ := List.mem_map.mp m; exact hn e)).congr fun i j hi hj => ?_
  rw [getD_map' ge es D [] (by omega), getD_map' ge es D [] (by omega)]
theorem nsOrd_A (xs : List Int) (σ : Hp) : NsOrd V.int V.int id iLt (fun a b => ltI (eA a) (eA b)) xs 0 (entA V.int) σ := by
  have tv : ∀ e : Ent Int Int, EOk id xs e → entA V.int e = tupV (eA e) := fun e o => by unfold entA tupV eA; rw [o.1]; rfl
  refine ⟨iLt_sw, entLt_A, fun a _ b _ σ' Q _ q => q, fun a b oa ob σ' Q _ q => ?_, fun es ok h2 h₀ h vs σ' _ _ r => sorts_ents (fun e m => tv e (ok e m)) (fun e => by simp [eA]) h2 r _, fun x _ σ' a Q _ q => is_int_obj q⟩
  rw [tv a oa, tv b ob]; exact lt_tups q
theorem nsOrd_B (kf : Int → Int) (xs : List Int) (σ : Hp) : NsOrd V.int V.int kf iLt (fun a b => ltI (eB a) (eB b)) xs 0 (entB V.int V.int) σ := by
  have tv : ∀ e : Ent Int Int, entB V.int V.int e = tupV (eB e) := fun e => rfl
  refine ⟨iLt_sw, entLt_B, fun a _ b _ σ' Q _ q => q, fun a b oa ob σ' Q _ q => ?_, fun es ok h2 h₀ h vs σ' _ _ r => sorts_ents (fun e m => tv e) (fun e => by simp [eB]) h2 r _, fun x _ σ' a Q _ q => is_int_obj q⟩
  rw [tv a, tv b]; exact lt_tups q
theorem nsNone_int (xs : List Int) (h2 : 2 ≤ xs.length) (σ : Hp) : NsNone V.int V.int id iLt xs 0 σ := by
  refine ⟨fun _ => rfl, fun _ _ => trivial, fun h₀ h vs σ' _ _ r => sorts_ints h2 r, fun h₀ h vs σ' ita _ _ r _ A s' i j vi vj _ _ hi hj => ?_⟩
  obtain ⟨x, ex, rx⟩ := r.getRev hi
  obtain ⟨y, ey, ry⟩ := r.getRev hj
  rw [List.getElem?_map, Option.map_eq_some_iff] at ex ey
  obtain ⟨u, hu, rfl⟩ := ex
  obtain ⟨v, hv, rfl⟩ := ey
  obtain ⟨t, rfl⟩ := rx.iint; obtain ⟨t', rfl⟩ := ry.iint
  have e1 : xs.getD i 0 = u := by simp [List.getD_eq_getElem?_getD, hu]
  have e2 : xs.getD j 0 = v := by simp [List.getD_eq_getElem?_getD, hv]
  rw [e1, e2]
  exact LtAt.int u v _ _
theorem nsKey_int {KC : FuncData → List V → (V → Hp → Prop) → Hp → Prop} {fd : FuncData} {kf : Int → Int} (xs : List Int) (h2 : 2 ≤ xs.length) (hK : ∀ x σ Q, Q (.int (kf x)) σ → KC fd [.int x] Q σ) (σ : Hp) : NsKey KC fd V.int V.int kf iLt xs 0 σ := by
  refine ⟨fun x _ σ' Q _ q => hK x σ' Q q, fun _ _ => ⟨trivial, trivial⟩, fun h vs r => ?_, fun A s' i j ki kj yi yj _ hi hj ri rj => ?_⟩
  · have e1 : (xs.map fun x => V.int (kf x)) = (xs.map kf).map V.int := by rw [List.map_map]; rfl
    rw [e1] at r
    have hl : vs.length = xs.length := by rw [r.length]; simp
    refine (sorts_ints (by simpa using h2) r).congr fun i j hi hj => ?_
    rw [getD_map' kf xs 0 0 (by omega), getD_map' kf xs 0 0 (by omega)]; rfl
  · rw [List.getElem?_map, Option.map_eq_some_iff] at hi hj
    obtain ⟨u, hu, rfl⟩ := hi
    obtain ⟨v, hv, rfl⟩ := hj
    have r1 := ri s'.heap
    have r2 := rj s'.heap
    have e1 : xs.getD i 0 = u := by simp [List.getD_eq_getElem?_getD, hu]
    have e2 : xs.getD j 0 = v := by simp [List.getD_eq_getElem?_getD, hv]
    obtain ⟨t, rfl⟩ := r1.iint; obtain ⟨t', rfl⟩ := r2.iint
    rw [e1, e2]
    exact LtAt.int _ _ _ _
/-- without a key -/
theorem nsC_none {KC : FuncData → List V → (V → Hp → Prop) → Hp → Prop} {n : Int} {x : V} {xs : List Int} {Q : V → Hp → Prop} {σ : Hp} (h2 : 2 ≤ xs.length) (h64 : xs.length < 64) (n0 : -1000 ≤ n) (n1 : n ≤ 1000) (hx : NSrc σ (xs.map .int) x)
    (q : ∀ b σ', LExt σ σ' → σ b = none → σ' b = some (.list (((stab iLt id xs).take n.toNat).map .int)) → Q (.ref b) σ') : nsC KC [.int n, x, .none] Q σ :=
  ⟨n, x, .none, Int, Int, V.int, V.int, id, iLt, _, xs, 0, rfl, h2, h64, n0, n1, hx, .inl ⟨rfl, nsOrd_A xs σ, nsNone_int xs h2 σ⟩, q⟩
theorem nsC_key {KC : FuncData → List V → (V → Hp → Prop) → Hp → Prop} {n : Int} {x : V} {xs : List Int} {Q : V → Hp → Prop} {σ : Hp} {fd : FuncData} {kf : Int → Int} (hK : ∀ x σ Q, Q (.int (kf x)) σ → KC fd [.int x] Q σ) (h2 : 2 ≤ xs.length) (h64 : xs.length < 64) (n0 : -1000 ≤ n) (n1 : n ≤ 1000) (hx : NSrc σ (xs.map .int) x)
    (q : ∀ b σ', LExt σ σ' → σ b = none → σ' b = some (.list (((stab iLt kf xs).take n.toNat).map .int)) → Q (.ref b) σ') : nsC KC [.int n, x, .func fd] Q σ :=
  ⟨n, x, .func fd, Int, Int, V.int, V.int, kf, iLt, _, xs, 0, rfl, h2, h64, n0, n1, hx, .inr ⟨fd, rfl, nsOrd_B kf xs σ, nsKey_int xs h2 hK σ⟩, q⟩

/-! Q11 -/
/-! the least so many together, told by all lots of the numbers -/
noncomputable def missF (xs : List Int) (t : Int) : Int := ((xs.filter fun x => decide (x < t)).map fun x => t - x).sum
theorem missF_cons (x : Int) (xs : List Int) (t : Int) : missF (x :: xs) t = (if x < t then t - x else 0) + missF xs t := by
  unfold missF
  rw [List.filter_cons]
  by_cases h : x < t
  · rw [if_pos (by simpa using h), if_pos h]; simp
  · rw [if_neg (by simpa using h), if_neg h]; simp
theorem missF_nonneg (t : Int) : ∀ xs : List Int, 0 ≤ missF xs t
  | [] => by simp [missF]
  | x :: xs => by rw [missF_cons]; have := missF_nonneg t xs; split <;> omega
theorem missF_zero {t : Int} : ∀ xs : List Int, (∀ y ∈ xs, t ≤ y) → missF xs t = 0
  | [], _ => rfl
  | x :: xs, h => by
    have := h x (.head _)
    rw [missF_cons, missF_zero xs fun y m => h y (.tail _ m), if_neg (by omega)]; rfl
theorem missF_perm {xs ys : List Int} (t : Int) (p : xs.Perm ys) : missF xs t = missF ys t := by
  induction p with
  | nil => rfl
  | cons x _ ih => rw [missF_cons, missF_cons, ih]
  | swap x y l => rw [missF_cons, missF_cons, missF_cons, missF_cons]; omega
  | trans _ _ ih ih' => rw [ih, ih']
theorem lot_le (t : Int) : ∀ (l : List Int) (k : Nat), k ≤ l.length → (k : Int) * t - missF l t ≤ (l.take k).sum
  | l, 0, _ => by have := missF_nonneg t l; simp; omega
  | [], k + 1, h => by simp at h
  | x :: l, k + 1, h => by
    have ih := lot_le t l k (by simpa using h)
    rw [missF_cons, List.take_succ_cons, List.sum_cons]
    have e : ((k + 1 : Nat) : Int) * t = (k : Int) * t + t := by rw [Int.natCast_add, Int.add_mul]; simp
    rw [e]
    split <;> omega
theorem lot_eq : ∀ (l : List Int) (k : Nat) (t : Int), l.Pairwise (· ≤ ·) → l[k]? = some t → ((k + 1 : Nat) : Int) * t - missF l t = (l.take (k + 1)).sum
  | [], k, t, _, h => by simp at h
  | x :: l, 0, t, p, h => by
    simp at h; subst h
    rw [List.pairwise_cons] at p
    rw [missF_cons, missF_zero l p.1]; simp
  | x :: l, k + 1, t, p, h => by
    rw [List.pairwise_cons] at p
    rw [List.getElem?_cons_succ] at h
    have ih := lot_eq l k t p.2 h
    have := p.1 t (List.mem_of_getElem? h)
    rw [missF_cons, List.take_succ_cons, List.sum_cons]
    have e : ((k + 1 + 1 : Nat) : Int) * t = ((k + 1 : Nat) : Int) * t + t := by rw [Int.natCast_add, Int.add_mul]; simp
    rw [e]
    split <;> omega
theorem stab_asc (xs : List Int) : (stab iLt id xs).Pairwise (· ≤ ·) := (stab_up iLt_sw xs).imp fun h => by unfold iLt at h; simpa using h
/-- the greatest lot is what the least k are together -/
theorem lot_best {xs : List Int} {k : Nat} (h1 : 1 ≤ k) (hk : k ≤ xs.length) {m : Int} (hm : m ∈ xs.map fun t => (k : Int) * t - missF xs t) (hb : ∀ y ∈ xs.map fun t => (k : Int) * t - missF xs t, y ≤ m) : m = ((stab iLt id xs).take k).sum := by
  have p := stab_perm (lt := iLt) (kf := id) xs
  have hl := stab_length (lt := iLt) (kf := id) xs
  obtain ⟨t, mt, rfl⟩ := List.mem_map.mp hm
  have a := lot_le t (stab iLt id xs) k (by omega)
  rw [missF_perm t p] at a
  have hk' : k - 1 < (stab iLt id xs).length := by omega
  have e := lot_eq (stab iLt id xs) (k - 1) _ (stab_asc xs) (List.getElem?_eq_getElem hk')
  rw [missF_perm _ p, show k - 1 + 1 = k by omega] at e
  have b := hb _ (List.mem_map_of_mem (f := fun t => (k : Int) * t - missF xs t) (p.mem_iff.mp (List.getElem_mem hk')))
  omega
theorem take_diff (l : List Int) (k : Nat) (h : k < l.length) : (l.take (k + 1)).sum - (l.take k).sum = l[k] := by
  rw [List.take_succ_eq_append_getElem h, List.sum_append]; simp; omega
theorem stab_neg (xs : List Int) : (stab iLt id (xs.map fun x => -x)).map (fun x => -x) = stab iLt (fun x => -x) xs := by
  have e : stab iLt id (xs.map fun x => -x) = (stab iLt (fun x => -x) xs).map fun x => -x := by
    refine List.Perm.eq_of_pairwise (le := (· ≤ ·)) (fun a b _ _ h g => Int.le_antisymm h g) (stab_asc _) ?_ ((stab_perm _).trans ((stab_perm xs).map _).symm)
    rw [List.pairwise_map]
    exact (stab_up iLt_sw xs).imp fun h => by unfold iLt at h; simpa using h
  rw [e, List.map_map]
  have : ((fun x : Int => -x) ∘ fun x => -x) = id := by funext x; simp
  rw [this, List.map_id]

/-! Vc11 -/
/-! the walk of law 11 -/
inductive leastC (args : List V) (Q : V → Hp → Prop) (σ : Hp) : Prop
  | mk (a : Addr) (xs : List Int) (wish : Int) (h1 : args = [.ref a, .int wish]) (h2 : listAt σ a = some (xs.map .int)) (h3 : 1 ≤ xs.length) (h4 : xs.length ≤ 500) (h5 : -1000 ≤ wish) (h6 : wish ≤ 1000) (h7 : ∀ b σ', Ext σ σ' → σ b = none → σ' b = some (.list (((stab iLt id xs).take wish.toNat).map .int)) → Q (.ref b) σ') : leastC args Q σ
noncomputable def turnedI (args : List V) (Q : V → Hp → Prop) (σ : Hp) : Prop := ∃ x : Int, args = [.int x] ∧ Q (.int (-x)) σ
theorem turned_v (Φ : Fns) (args : List V) (Q : V → Hp → Prop) (σ : Hp) (F : Frm) (h : turnedI args Q σ) (hF : F = args.map some ++ []) : vSs Φ ps_turned (retV Q) F σ := by
  obtain ⟨x, rfl, q⟩ := h
  subst hF
  unfold ps_turned
  ((with_reducible refine go_cons ?_); ((try simp only [e_int, e_bool, e_none, e_str, e_var, e_bin, e_neg, n_int, e_not, e_cmp, e_and, e_or, e_ite, e_sub, e_slice, e_list, e_tuple, e_call, e_ucall, e_meth, e_comp, e_gfn, e_vcall, e_sortk, e_mink, e_ucalld, e_ucallk, s_forx, s_tryLen, s_zipc, t_not, t_and, t_or, t_cmp, t_var, t_sub, t_call, t_ucall, s_expr, s_assign, s_setitem, s_aug, s_augi, s_ifs, s_while, s_for, s_ret, s_brk, s_cont, ss_nil, c_range1, c_range2, c_range3, i_rng, i_ref, i_tup, i_enm, i_rev, bt_name, bt_tup, look_zero, look_succ, r_next, r_ret, sa_nil, sa_cons, es_nil, es_cons, o_none, o_some, ts_nil, ts_cons, c_lt, c_le, c_gt, c_ge, c_eq, c_ne, b_add, b_sub, b_mul, b_div, b_mod, b_pow, b_shr, a_add, a_mul, t_bool, t_int, List.map, List.cons_append, List.nil_append, List.getElem?_cons_succ, List.getElem?_cons_zero, List.set_cons_succ, List.set_cons_zero, frOf]); (repeat (first | with_reducible refine q_nextI ?_ | with_reducible refine q_retI ?_ | with_reducible refine q_contI ?_ | with_reducible refine q_brkI ?_ | with_reducible refine ss_nilI ?_ | rw [q_next] | rw [q_ret] | rw [q_cont] | rw [q_brk] | rw [ss_nil])); (try simp only [r_next, r_ret])))
  exact q
theorem nth_int {xs : List Int} {i : Nat} {x : Int} (h : xs[i]? = some x) : nth (xs.map V.int) (i : Int) = some (.int x) := by
  rw [nth_nat, List.getElem?_map, h]; rfl
theorem fm_miss (t : Int) : ∀ xs : List Int, (xs.map V.int).filterMap (fun v => match v with | .int x => (if x < t then some (V.int (t - x)) else none) | _ => none) = ((xs.filter fun x => decide (x < t)).map fun x => t - x).map V.int
  | [] => rfl
  | x :: l => by
    rw [List.map_cons, List.filterMap_cons, List.filter_cons]
    by_cases h : x < t
    · simp only [if_pos h, decide_eq_true h, List.map_cons, if_true]
      rw [fm_miss t l]
    · simp only [if_neg h, decide_eq_false h, Bool.false_eq_true, if_false]
      exact fm_miss t l
theorem Ext.again {σ τ : Hp} {b : Addr} (o : AObj) (h : Ext σ τ) (hb : σ b = none) : Ext σ (Mine.upd τ b o) := fun a p e => by
  by_cases q : a = b
  · subst q; rw [hb] at e; cases e
  · rw [upd_ne _ _ q]; exact h a p e
theorem listAt_ne {σ : Hp} {a b : Addr} {o : AObj} {xs : List V} (h : listAt σ a = some xs) (n : a ≠ b) : listAt (upd σ b o) a = some xs := by
  unfold listAt at *; rw [upd_ne _ _ n]; exact h
noncomputable def sumK (xs : List Int) (k : Nat) : Int := ((stab iLt id xs).take k).sum
theorem least_v (Φ : Fns) (args : List V) (Q : V → Hp → Prop) (σ : Hp) (F : Frm) (h : leastC args Q σ) (hF : F = args.map some ++ [none, none, none]) : vSs Φ ps_least (retV Q) F σ := by
  obtain ⟨a, xs, wish, rfl, ha, h1, h5, w0, w1, q⟩ := h
  subst hF
  unfold ps_least
  ((with_reducible refine go_cons ?_); ((try simp only [e_int, e_bool, e_none, e_str, e_var, e_bin, e_neg, n_int, e_not, e_cmp, e_and, e_or, e_ite, e_sub, e_slice, e_list, e_tuple, e_call, e_ucall, e_meth, e_comp, e_gfn, e_vcall, e_sortk, e_mink, e_ucalld, e_ucallk, s_forx, s_tryLen, s_zipc, t_not, t_and, t_or, t_cmp, t_var, t_sub, t_call, t_ucall, s_expr, s_assign, s_setitem, s_aug, s_augi, s_ifs, s_while, s_for, s_ret, s_brk, s_cont, ss_nil, c_range1, c_range2, c_range3, i_rng, i_ref, i_tup, i_enm, i_rev, bt_name, bt_tup, look_zero, look_succ, r_next, r_ret, sa_nil, sa_cons, es_nil, es_cons, o_none, o_some, ts_nil, ts_cons, c_lt, c_le, c_gt, c_ge, c_eq, c_ne, b_add, b_sub, b_mul, b_div, b_mod, b_pow, b_shr, a_add, a_mul, t_bool, t_int, List.map, List.cons_append, List.nil_append, List.getElem?_cons_succ, List.getElem?_cons_zero, List.set_cons_succ, List.set_cons_zero, frOf]); (repeat (first | with_reducible refine q_nextI ?_ | with_reducible refine q_retI ?_ | with_reducible refine q_contI ?_ | with_reducible refine q_brkI ?_ | with_reducible refine ss_nilI ?_ | rw [q_next] | rw [q_ret] | rw [q_cont] | rw [q_brk] | rw [ss_nil])); (try simp only [r_next, r_ret])))
  refine ⟨⟨_, ha⟩, ?_⟩
  refine comp_rule (xs := xs.map V.int) (fun v => match v with | .int t => some (.int (missF xs t)) | _ => none) (by rw [List.length_map]; exact big_of (by omega)) (yields_lst (fun τ h => h.listAt ha) _ 0 rfl) ?_ ?_
  · intro x mx σ1 hE K N hK hN
    obtain ⟨t, _, rfl⟩ := List.mem_map.mp mx
    have ha1 := hE.listAt ha
    ((try simp only [e_int, e_bool, e_none, e_str, e_var, e_bin, e_neg, n_int, e_not, e_cmp, e_and, e_or, e_ite, e_sub, e_slice, e_list, e_tuple, e_call, e_ucall, e_meth, e_comp, e_gfn, e_vcall, e_sortk, e_mink, e_ucalld, e_ucallk, s_forx, s_tryLen, s_zipc, t_not, t_and, t_or, t_cmp, t_var, t_sub, t_call, t_ucall, s_expr, s_assign, s_setitem, s_aug, s_augi, s_ifs, s_while, s_for, s_ret, s_brk, s_cont, ss_nil, c_range1, c_range2, c_range3, i_rng, i_ref, i_tup, i_enm, i_rev, bt_name, bt_tup, look_zero, look_succ, r_next, r_ret, sa_nil, sa_cons, es_nil, es_cons, o_none, o_some, ts_nil, ts_cons, c_lt, c_le, c_gt, c_ge, c_eq, c_ne, b_add, b_sub, b_mul, b_div, b_mod, b_pow, b_shr, a_add, a_mul, t_bool, t_int, List.map, List.cons_append, List.nil_append, List.getElem?_cons_succ, List.getElem?_cons_zero, List.set_cons_succ, List.set_cons_zero, frOf]); (repeat (first | with_reducible refine q_nextI ?_ | with_reducible refine q_retI ?_ | with_reducible refine q_contI ?_ | with_reducible refine q_brkI ?_ | with_reducible refine ss_nilI ?_ | rw [q_next] | rw [q_ret] | rw [q_cont] | rw [q_brk] | rw [ss_nil])); (try simp only [r_next, r_ret]))
    simp only [if_true]
    ((try simp only [e_int, e_bool, e_none, e_str, e_var, e_bin, e_neg, n_int, e_not, e_cmp, e_and, e_or, e_ite, e_sub, e_slice, e_list, e_tuple, e_call, e_ucall, e_meth, e_comp, e_gfn, e_vcall, e_sortk, e_mink, e_ucalld, e_ucallk, s_forx, s_tryLen, s_zipc, t_not, t_and, t_or, t_cmp, t_var, t_sub, t_call, t_ucall, s_expr, s_assign, s_setitem, s_aug, s_augi, s_ifs, s_while, s_for, s_ret, s_brk, s_cont, ss_nil, c_range1, c_range2, c_range3, i_rng, i_ref, i_tup, i_enm, i_rev, bt_name, bt_tup, look_zero, look_succ, r_next, r_ret, sa_nil, sa_cons, es_nil, es_cons, o_none, o_some, ts_nil, ts_cons, c_lt, c_le, c_gt, c_ge, c_eq, c_ne, b_add, b_sub, b_mul, b_div, b_mod, b_pow, b_shr, a_add, a_mul, t_bool, t_int, List.map, List.cons_append, List.nil_append, List.getElem?_cons_succ, List.getElem?_cons_zero, List.set_cons_succ, List.set_cons_zero, frOf]); (repeat (first | with_reducible refine q_nextI ?_ | with_reducible refine q_retI ?_ | with_reducible refine q_contI ?_ | with_reducible refine q_brkI ?_ | with_reducible refine ss_nilI ?_ | rw [q_next] | rw [q_ret] | rw [q_cont] | rw [q_brk] | rw [ss_nil])); (try simp only [r_next, r_ret]))
    refine ⟨⟨_, ha1⟩, ?_⟩
    refine comp_rule (xs := xs.map V.int) (fun v => match v with | .int x => (if x < t then some (.int (t - x)) else none) | _ => none) (by rw [List.length_map]; exact big_of (by omega)) (yields_lst (fun τ h => h.listAt ha1) _ 0 rfl) ?_ ?_
    · intro y my σ2 hE2 K2 N2 hK2 hN2
      obtain ⟨x, _, rfl⟩ := List.mem_map.mp my
      ((try simp only [e_int, e_bool, e_none, e_str, e_var, e_bin, e_neg, n_int, e_not, e_cmp, e_and, e_or, e_ite, e_sub, e_slice, e_list, e_tuple, e_call, e_ucall, e_meth, e_comp, e_gfn, e_vcall, e_sortk, e_mink, e_ucalld, e_ucallk, s_forx, s_tryLen, s_zipc, t_not, t_and, t_or, t_cmp, t_var, t_sub, t_call, t_ucall, s_expr, s_assign, s_setitem, s_aug, s_augi, s_ifs, s_while, s_for, s_ret, s_brk, s_cont, ss_nil, c_range1, c_range2, c_range3, i_rng, i_ref, i_tup, i_enm, i_rev, bt_name, bt_tup, look_zero, look_succ, r_next, r_ret, sa_nil, sa_cons, es_nil, es_cons, o_none, o_some, ts_nil, ts_cons, c_lt, c_le, c_gt, c_ge, c_eq, c_ne, b_add, b_sub, b_mul, b_div, b_mod, b_pow, b_shr, a_add, a_mul, t_bool, t_int, List.map, List.cons_append, List.nil_append, List.getElem?_cons_succ, List.getElem?_cons_zero, List.set_cons_succ, List.set_cons_zero, frOf]); (repeat (first | with_reducible refine q_nextI ?_ | with_reducible refine q_retI ?_ | with_reducible refine q_contI ?_ | with_reducible refine q_brkI ?_ | with_reducible refine ss_nilI ?_ | rw [q_next] | rw [q_ret] | rw [q_cont] | rw [q_brk] | rw [ss_nil])); (try simp only [r_next, r_ret]))
      by_cases hx : x < t
      · rw [decide_eq_true hx]
        simp only [if_true]
        ((try simp only [e_int, e_bool, e_none, e_str, e_var, e_bin, e_neg, n_int, e_not, e_cmp, e_and, e_or, e_ite, e_sub, e_slice, e_list, e_tuple, e_call, e_ucall, e_meth, e_comp, e_gfn, e_vcall, e_sortk, e_mink, e_ucalld, e_ucallk, s_forx, s_tryLen, s_zipc, t_not, t_and, t_or, t_cmp, t_var, t_sub, t_call, t_ucall, s_expr, s_assign, s_setitem, s_aug, s_augi, s_ifs, s_while, s_for, s_ret, s_brk, s_cont, ss_nil, c_range1, c_range2, c_range3, i_rng, i_ref, i_tup, i_enm, i_rev, bt_name, bt_tup, look_zero, look_succ, r_next, r_ret, sa_nil, sa_cons, es_nil, es_cons, o_none, o_some, ts_nil, ts_cons, c_lt, c_le, c_gt, c_ge, c_eq, c_ne, b_add, b_sub, b_mul, b_div, b_mod, b_pow, b_shr, a_add, a_mul, t_bool, t_int, List.map, List.cons_append, List.nil_append, List.getElem?_cons_succ, List.getElem?_cons_zero, List.set_cons_succ, List.set_cons_zero, frOf]); (repeat (first | with_reducible refine q_nextI ?_ | with_reducible refine q_retI ?_ | with_reducible refine q_contI ?_ | with_reducible refine q_brkI ?_ | with_reducible refine ss_nilI ?_ | rw [q_next] | rw [q_ret] | rw [q_cont] | rw [q_brk] | rw [ss_nil])); (try simp only [r_next, r_ret]))
        exact hK2 _ _ (by simp only [if_pos hx]) .rfl
      · rw [decide_eq_false hx]
        simp only [Bool.false_eq_true, if_false]
        exact hN2 (by simp only [if_neg hx]) _ .rfl
    · intro σ2 hE2 b hb
      have e1 : (xs.map V.int).filterMap (fun v => match v with | .int x => (if x < t then some (V.int (t - x)) else none) | _ => none) = ((xs.filter fun x => decide (x < t)).map fun x => t - x).map V.int :=
        fm_miss t xs
      rw [e1]
      refine call_sum (listAt_list (upd_same _ _ _)) ?_
      exact hK _ _ rfl (hE2.trans (Ext.upd _ hb))
  · intro σ1 hE1 b hb
    have e1 : (xs.map V.int).filterMap (fun v => match v with | .int t => some (V.int (missF xs t)) | _ => none) = (xs.map (missF xs)).map V.int := by
      rw [List.filterMap_map, List.map_map]
      exact fm_some _ fun t _ => rfl
    rw [e1]
    ((try simp only [e_int, e_bool, e_none, e_str, e_var, e_bin, e_neg, n_int, e_not, e_cmp, e_and, e_or, e_ite, e_sub, e_slice, e_list, e_tuple, e_call, e_ucall, e_meth, e_comp, e_gfn, e_vcall, e_sortk, e_mink, e_ucalld, e_ucallk, s_forx, s_tryLen, s_zipc, t_not, t_and, t_or, t_cmp, t_var, t_sub, t_call, t_ucall, s_expr, s_assign, s_setitem, s_aug, s_augi, s_ifs, s_while, s_for, s_ret, s_brk, s_cont, ss_nil, c_range1, c_range2, c_range3, i_rng, i_ref, i_tup, i_enm, i_rev, bt_name, bt_tup, look_zero, look_succ, r_next, r_ret, sa_nil, sa_cons, es_nil, es_cons, o_none, o_some, ts_nil, ts_cons, c_lt, c_le, c_gt, c_ge, c_eq, c_ne, b_add, b_sub, b_mul, b_div, b_mod, b_pow, b_shr, a_add, a_mul, t_bool, t_int, List.map, List.cons_append, List.nil_append, List.getElem?_cons_succ, List.getElem?_cons_zero, List.set_cons_succ, List.set_cons_zero, frOf]); (repeat (first | with_reducible refine q_nextI ?_ | with_reducible refine q_retI ?_ | with_reducible refine q_contI ?_ | with_reducible refine q_brkI ?_ | with_reducible refine ss_nilI ?_ | rw [q_next] | rw [q_ret] | rw [q_cont] | rw [q_brk] | rw [ss_nil])); (try simp only [r_next, r_ret]))
    have hE1' := hE1.trans (Ext.upd (.list ((xs.map (missF xs)).map V.int)) hb)
    have hm : listAt (upd σ1 b (.list ((xs.map (missF xs)).map V.int))) b = some ((xs.map (missF xs)).map V.int) := listAt_list (upd_same _ _ _)
    generalize upd σ1 b (.list ((xs.map (missF xs)).map V.int)) = σ2 at hE1' hm
    have ha2 := hE1'.listAt ha
    ((with_reducible refine go_cons ?_); ((try simp only [e_int, e_bool, e_none, e_str, e_var, e_bin, e_neg, n_int, e_not, e_cmp, e_and, e_or, e_ite, e_sub, e_slice, e_list, e_tuple, e_call, e_ucall, e_meth, e_comp, e_gfn, e_vcall, e_sortk, e_mink, e_ucalld, e_ucallk, s_forx, s_tryLen, s_zipc, t_not, t_and, t_or, t_cmp, t_var, t_sub, t_call, t_ucall, s_expr, s_assign, s_setitem, s_aug, s_augi, s_ifs, s_while, s_for, s_ret, s_brk, s_cont, ss_nil, c_range1, c_range2, c_range3, i_rng, i_ref, i_tup, i_enm, i_rev, bt_name, bt_tup, look_zero, look_succ, r_next, r_ret, sa_nil, sa_cons, es_nil, es_cons, o_none, o_some, ts_nil, ts_cons, c_lt, c_le, c_gt, c_ge, c_eq, c_ne, b_add, b_sub, b_mul, b_div, b_mod, b_pow, b_shr, a_add, a_mul, t_bool, t_int, List.map, List.cons_append, List.nil_append, List.getElem?_cons_succ, List.getElem?_cons_zero, List.set_cons_succ, List.set_cons_zero, frOf]); (repeat (first | with_reducible refine q_nextI ?_ | with_reducible refine q_retI ?_ | with_reducible refine q_contI ?_ | with_reducible refine q_brkI ?_ | with_reducible refine ss_nilI ?_ | rw [q_next] | rw [q_ret] | rw [q_cont] | rw [q_brk] | rw [ss_nil])); (try simp only [r_next, r_ret])))
    refine ⟨big_of (n := 1) (by decide), fun c hc => ?_⟩
    ((try simp only [e_int, e_bool, e_none, e_str, e_var, e_bin, e_neg, n_int, e_not, e_cmp, e_and, e_or, e_ite, e_sub, e_slice, e_list, e_tuple, e_call, e_ucall, e_meth, e_comp, e_gfn, e_vcall, e_sortk, e_mink, e_ucalld, e_ucallk, s_forx, s_tryLen, s_zipc, t_not, t_and, t_or, t_cmp, t_var, t_sub, t_call, t_ucall, s_expr, s_assign, s_setitem, s_aug, s_augi, s_ifs, s_while, s_for, s_ret, s_brk, s_cont, ss_nil, c_range1, c_range2, c_range3, i_rng, i_ref, i_tup, i_enm, i_rev, bt_name, bt_tup, look_zero, look_succ, r_next, r_ret, sa_nil, sa_cons, es_nil, es_cons, o_none, o_some, ts_nil, ts_cons, c_lt, c_le, c_gt, c_ge, c_eq, c_ne, b_add, b_sub, b_mul, b_div, b_mod, b_pow, b_shr, a_add, a_mul, t_bool, t_int, List.map, List.cons_append, List.nil_append, List.getElem?_cons_succ, List.getElem?_cons_zero, List.set_cons_succ, List.set_cons_zero, frOf]); (repeat (first | with_reducible refine q_nextI ?_ | with_reducible refine q_retI ?_ | with_reducible refine q_contI ?_ | with_reducible refine q_brkI ?_ | with_reducible refine ss_nilI ?_ | rw [q_next] | rw [q_ret] | rw [q_cont] | rw [q_brk] | rw [ss_nil])); (try simp only [r_next, r_ret]))
    have cb : c ≠ b := by rintro rfl; unfold listAt at hm; rw [hc] at hm; cases hm
    have ca : c ≠ a := by rintro rfl; unfold listAt at ha2; rw [hc] at ha2; cases ha2
    ((with_reducible refine go_cons ?_); ((try simp only [e_int, e_bool, e_none, e_str, e_var, e_bin, e_neg, n_int, e_not, e_cmp, e_and, e_or, e_ite, e_sub, e_slice, e_list, e_tuple, e_call, e_ucall, e_meth, e_comp, e_gfn, e_vcall, e_sortk, e_mink, e_ucalld, e_ucallk, s_forx, s_tryLen, s_zipc, t_not, t_and, t_or, t_cmp, t_var, t_sub, t_call, t_ucall, s_expr, s_assign, s_setitem, s_aug, s_augi, s_ifs, s_while, s_for, s_ret, s_brk, s_cont, ss_nil, c_range1, c_range2, c_range3, i_rng, i_ref, i_tup, i_enm, i_rev, bt_name, bt_tup, look_zero, look_succ, r_next, r_ret, sa_nil, sa_cons, es_nil, es_cons, o_none, o_some, ts_nil, ts_cons, c_lt, c_le, c_gt, c_ge, c_eq, c_ne, b_add, b_sub, b_mul, b_div, b_mod, b_pow, b_shr, a_add, a_mul, t_bool, t_int, List.map, List.cons_append, List.nil_append, List.getElem?_cons_succ, List.getElem?_cons_zero, List.set_cons_succ, List.set_cons_zero, frOf]); (repeat (first | with_reducible refine q_nextI ?_ | with_reducible refine q_retI ?_ | with_reducible refine q_contI ?_ | with_reducible refine q_brkI ?_ | with_reducible refine ss_nilI ?_ | rw [q_next] | rw [q_ret] | rw [q_cont] | rw [q_brk] | rw [ss_nil])); (try simp only [r_next, r_ret])))
    refine call_len ((Ext.upd _ hc).listAt ha2) ?_
    refine call_min ?_
    rw [List.length_map]
    ((try simp only [e_int, e_bool, e_none, e_str, e_var, e_bin, e_neg, n_int, e_not, e_cmp, e_and, e_or, e_ite, e_sub, e_slice, e_list, e_tuple, e_call, e_ucall, e_meth, e_comp, e_gfn, e_vcall, e_sortk, e_mink, e_ucalld, e_ucallk, s_forx, s_tryLen, s_zipc, t_not, t_and, t_or, t_cmp, t_var, t_sub, t_call, t_ucall, s_expr, s_assign, s_setitem, s_aug, s_augi, s_ifs, s_while, s_for, s_ret, s_brk, s_cont, ss_nil, c_range1, c_range2, c_range3, i_rng, i_ref, i_tup, i_enm, i_rev, bt_name, bt_tup, look_zero, look_succ, r_next, r_ret, sa_nil, sa_cons, es_nil, es_cons, o_none, o_some, ts_nil, ts_cons, c_lt, c_le, c_gt, c_ge, c_eq, c_ne, b_add, b_sub, b_mul, b_div, b_mod, b_pow, b_shr, a_add, a_mul, t_bool, t_int, List.map, List.cons_append, List.nil_append, List.getElem?_cons_succ, List.getElem?_cons_zero, List.set_cons_succ, List.set_cons_zero, frOf]); (repeat (first | with_reducible refine q_nextI ?_ | with_reducible refine q_retI ?_ | with_reducible refine q_contI ?_ | with_reducible refine q_brkI ?_ | with_reducible refine ss_nilI ?_ | rw [q_next] | rw [q_ret] | rw [q_cont] | rw [q_brk] | rw [ss_nil])); (try simp only [r_next, r_ret]))
    generalize hK0 : (if (xs.length : Int) < wish then (xs.length : Int) else wish) = m
    have hm1 : m ≤ xs.length ∧ m ≤ 1000 ∧ -1000 ≤ m ∧ m.toNat = min wish.toNat xs.length := by subst hK0; split <;> omega
    refine ⟨⟨.inl rfl, by omega, by omega⟩, ?_⟩
    have rl : rlen 1 (m + 1) 1 = m.toNat := by unfold rlen; simp
    rw [rl]
    have hσb : σ b = none := hE1.fresh hb
    have hσc : σ c = none := hE1'.fresh hc
    refine for_rule (xs := (List.range m.toNat).map fun (i : Nat) => V.int (1 + (i : Int) * 1)) (fun k F τ => ∃ e4, F = [some (.ref a), some (.int wish), some (.ref b), some (.ref c), e4] ∧ Ext σ τ ∧ listAt τ a = some (xs.map .int) ∧ listAt τ b = some ((xs.map (missF xs)).map V.int) ∧ τ c = some (.list (((List.range (k + 1)).map (sumK xs)).map V.int))) (yields_rng _ _ _ _) ?_ ?_ ?_
    · exact ⟨none, rfl, hE1'.again _ hσc, listAt_ne ha2 ca.symm, listAt_ne hm cb.symm, upd_same _ _ _⟩
    · rintro k x F τ hx ⟨e4, rfl, hE, ha3, hb3, hc3⟩ K k1 k2 k3 k4
      have hk : k < m.toNat := by have := lt_of_some hx; simpa using this
      have hx' : x = .int ((k + 1 : Nat) : Int) := by simp [hk] at hx; rw [← hx]; congr 1; omega
      subst hx'
      ((try simp only [e_int, e_bool, e_none, e_str, e_var, e_bin, e_neg, n_int, e_not, e_cmp, e_and, e_or, e_ite, e_sub, e_slice, e_list, e_tuple, e_call, e_ucall, e_meth, e_comp, e_gfn, e_vcall, e_sortk, e_mink, e_ucalld, e_ucallk, s_forx, s_tryLen, s_zipc, t_not, t_and, t_or, t_cmp, t_var, t_sub, t_call, t_ucall, s_expr, s_assign, s_setitem, s_aug, s_augi, s_ifs, s_while, s_for, s_ret, s_brk, s_cont, ss_nil, c_range1, c_range2, c_range3, i_rng, i_ref, i_tup, i_enm, i_rev, bt_name, bt_tup, look_zero, look_succ, r_next, r_ret, sa_nil, sa_cons, es_nil, es_cons, o_none, o_some, ts_nil, ts_cons, c_lt, c_le, c_gt, c_ge, c_eq, c_ne, b_add, b_sub, b_mul, b_div, b_mod, b_pow, b_shr, a_add, a_mul, t_bool, t_int, List.map, List.cons_append, List.nil_append, List.getElem?_cons_succ, List.getElem?_cons_zero, List.set_cons_succ, List.set_cons_zero, frOf]); (repeat (first | with_reducible refine q_nextI ?_ | with_reducible refine q_retI ?_ | with_reducible refine q_contI ?_ | with_reducible refine q_brkI ?_ | with_reducible refine ss_nilI ?_ | rw [q_next] | rw [q_ret] | rw [q_cont] | rw [q_brk] | rw [ss_nil])); (try simp only [r_next, r_ret]))
      ((with_reducible refine go_cons ?_); ((try simp only [e_int, e_bool, e_none, e_str, e_var, e_bin, e_neg, n_int, e_not, e_cmp, e_and, e_or, e_ite, e_sub, e_slice, e_list, e_tuple, e_call, e_ucall, e_meth, e_comp, e_gfn, e_vcall, e_sortk, e_mink, e_ucalld, e_ucallk, s_forx, s_tryLen, s_zipc, t_not, t_and, t_or, t_cmp, t_var, t_sub, t_call, t_ucall, s_expr, s_assign, s_setitem, s_aug, s_augi, s_ifs, s_while, s_for, s_ret, s_brk, s_cont, ss_nil, c_range1, c_range2, c_range3, i_rng, i_ref, i_tup, i_enm, i_rev, bt_name, bt_tup, look_zero, look_succ, r_next, r_ret, sa_nil, sa_cons, es_nil, es_cons, o_none, o_some, ts_nil, ts_cons, c_lt, c_le, c_gt, c_ge, c_eq, c_ne, b_add, b_sub, b_mul, b_div, b_mod, b_pow, b_shr, a_add, a_mul, t_bool, t_int, List.map, List.cons_append, List.nil_append, List.getElem?_cons_succ, List.getElem?_cons_zero, List.set_cons_succ, List.set_cons_zero, frOf]); (repeat (first | with_reducible refine q_nextI ?_ | with_reducible refine q_retI ?_ | with_reducible refine q_contI ?_ | with_reducible refine q_brkI ?_ | with_reducible refine ss_nilI ?_ | rw [q_next] | rw [q_ret] | rw [q_cont] | rw [q_brk] | rw [ss_nil])); (try simp only [r_next, r_ret])))
      refine ⟨⟨c, _, rfl, hc3⟩, ?_⟩
      refine call_len ha3 ?_
      rw [List.length_map]
      ((try simp only [e_int, e_bool, e_none, e_str, e_var, e_bin, e_neg, n_int, e_not, e_cmp, e_and, e_or, e_ite, e_sub, e_slice, e_list, e_tuple, e_call, e_ucall, e_meth, e_comp, e_gfn, e_vcall, e_sortk, e_mink, e_ucalld, e_ucallk, s_forx, s_tryLen, s_zipc, t_not, t_and, t_or, t_cmp, t_var, t_sub, t_call, t_ucall, s_expr, s_assign, s_setitem, s_aug, s_augi, s_ifs, s_while, s_for, s_ret, s_brk, s_cont, ss_nil, c_range1, c_range2, c_range3, i_rng, i_ref, i_tup, i_enm, i_rev, bt_name, bt_tup, look_zero, look_succ, r_next, r_ret, sa_nil, sa_cons, es_nil, es_cons, o_none, o_some, ts_nil, ts_cons, c_lt, c_le, c_gt, c_ge, c_eq, c_ne, b_add, b_sub, b_mul, b_div, b_mod, b_pow, b_shr, a_add, a_mul, t_bool, t_int, List.map, List.cons_append, List.nil_append, List.getElem?_cons_succ, List.getElem?_cons_zero, List.set_cons_succ, List.set_cons_zero, frOf]); (repeat (first | with_reducible refine q_nextI ?_ | with_reducible refine q_retI ?_ | with_reducible refine q_contI ?_ | with_reducible refine q_brkI ?_ | with_reducible refine ss_nilI ?_ | rw [q_next] | rw [q_ret] | rw [q_cont] | rw [q_brk] | rw [ss_nil])); (try simp only [r_next, r_ret]))
      refine ⟨rok_of (by omega) (by omega) (by omega) (by omega), ?_⟩
      have rl2 : rlen 0 (xs.length : Int) 1 = xs.length := by unfold rlen; simp
      rw [rl2]
      refine comp_rule (xs := (List.range xs.length).map fun (i : Nat) => V.int (0 + (i : Int) * 1)) (fun v => match v with | .int i => some (.int (((k + 1 : Nat) : Int) * xs.getD i.toNat 0 - missF xs (xs.getD i.toNat 0))) | _ => none) (by rw [List.length_map, List.length_range]; exact big_of (by omega)) (yields_rng _ _ _ _) ?_ ?_
      · intro y my τ2 hE2 K2 N2 hK2 hN2
        obtain ⟨i, mi, rfl⟩ := List.mem_map.mp my
        have hi : i < xs.length := by simpa using mi
        have ei : 0 + (i : Int) * 1 = (i : Nat) := by omega
        rw [ei] at hK2 hN2 ⊢
        ((try simp only [e_int, e_bool, e_none, e_str, e_var, e_bin, e_neg, n_int, e_not, e_cmp, e_and, e_or, e_ite, e_sub, e_slice, e_list, e_tuple, e_call, e_ucall, e_meth, e_comp, e_gfn, e_vcall, e_sortk, e_mink, e_ucalld, e_ucallk, s_forx, s_tryLen, s_zipc, t_not, t_and, t_or, t_cmp, t_var, t_sub, t_call, t_ucall, s_expr, s_assign, s_setitem, s_aug, s_augi, s_ifs, s_while, s_for, s_ret, s_brk, s_cont, ss_nil, c_range1, c_range2, c_range3, i_rng, i_ref, i_tup, i_enm, i_rev, bt_name, bt_tup, look_zero, look_succ, r_next, r_ret, sa_nil, sa_cons, es_nil, es_cons, o_none, o_some, ts_nil, ts_cons, c_lt, c_le, c_gt, c_ge, c_eq, c_ne, b_add, b_sub, b_mul, b_div, b_mod, b_pow, b_shr, a_add, a_mul, t_bool, t_int, List.map, List.cons_append, List.nil_append, List.getElem?_cons_succ, List.getElem?_cons_zero, List.set_cons_succ, List.set_cons_zero, frOf]); (repeat (first | with_reducible refine q_nextI ?_ | with_reducible refine q_retI ?_ | with_reducible refine q_contI ?_ | with_reducible refine q_brkI ?_ | with_reducible refine ss_nilI ?_ | rw [q_next] | rw [q_ret] | rw [q_cont] | rw [q_brk] | rw [ss_nil])); (try simp only [r_next, r_ret]))
        refine sub_list (hE2.listAt ha3) (nth_int (getD_some (v := 0) hi)) ?_
        ((try simp only [e_int, e_bool, e_none, e_str, e_var, e_bin, e_neg, n_int, e_not, e_cmp, e_and, e_or, e_ite, e_sub, e_slice, e_list, e_tuple, e_call, e_ucall, e_meth, e_comp, e_gfn, e_vcall, e_sortk, e_mink, e_ucalld, e_ucallk, s_forx, s_tryLen, s_zipc, t_not, t_and, t_or, t_cmp, t_var, t_sub, t_call, t_ucall, s_expr, s_assign, s_setitem, s_aug, s_augi, s_ifs, s_while, s_for, s_ret, s_brk, s_cont, ss_nil, c_range1, c_range2, c_range3, i_rng, i_ref, i_tup, i_enm, i_rev, bt_name, bt_tup, look_zero, look_succ, r_next, r_ret, sa_nil, sa_cons, es_nil, es_cons, o_none, o_some, ts_nil, ts_cons, c_lt, c_le, c_gt, c_ge, c_eq, c_ne, b_add, b_sub, b_mul, b_div, b_mod, b_pow, b_shr, a_add, a_mul, t_bool, t_int, List.map, List.cons_append, List.nil_append, List.getElem?_cons_succ, List.getElem?_cons_zero, List.set_cons_succ, List.set_cons_zero, frOf]); (repeat (first | with_reducible refine q_nextI ?_ | with_reducible refine q_retI ?_ | with_reducible refine q_contI ?_ | with_reducible refine q_brkI ?_ | with_reducible refine ss_nilI ?_ | rw [q_next] | rw [q_ret] | rw [q_cont] | rw [q_brk] | rw [ss_nil])); (try simp only [r_next, r_ret]))
        refine ⟨IntMulOk.of_left (intBits_le_64 (by omega) (by omega)), ?_⟩
        refine sub_list (hE2.listAt hb3) (nth_int (x := missF xs (xs.getD i 0)) (by rw [List.getElem?_map, getD_some (v := 0) hi]; rfl)) ?_
        ((try simp only [e_int, e_bool, e_none, e_str, e_var, e_bin, e_neg, n_int, e_not, e_cmp, e_and, e_or, e_ite, e_sub, e_slice, e_list, e_tuple, e_call, e_ucall, e_meth, e_comp, e_gfn, e_vcall, e_sortk, e_mink, e_ucalld, e_ucallk, s_forx, s_tryLen, s_zipc, t_not, t_and, t_or, t_cmp, t_var, t_sub, t_call, t_ucall, s_expr, s_assign, s_setitem, s_aug, s_augi, s_ifs, s_while, s_for, s_ret, s_brk, s_cont, ss_nil, c_range1, c_range2, c_range3, i_rng, i_ref, i_tup, i_enm, i_rev, bt_name, bt_tup, look_zero, look_succ, r_next, r_ret, sa_nil, sa_cons, es_nil, es_cons, o_none, o_some, ts_nil, ts_cons, c_lt, c_le, c_gt, c_ge, c_eq, c_ne, b_add, b_sub, b_mul, b_div, b_mod, b_pow, b_shr, a_add, a_mul, t_bool, t_int, List.map, List.cons_append, List.nil_append, List.getElem?_cons_succ, List.getElem?_cons_zero, List.set_cons_succ, List.set_cons_zero, frOf]); (repeat (first | with_reducible refine q_nextI ?_ | with_reducible refine q_retI ?_ | with_reducible refine q_contI ?_ | with_reducible refine q_brkI ?_ | with_reducible refine ss_nilI ?_ | rw [q_next] | rw [q_ret] | rw [q_cont] | rw [q_brk] | rw [ss_nil])); (try simp only [r_next, r_ret]))
        exact hK2 _ _ rfl .rfl
      · intro τ2 hE2 e he
        have e1 : ((List.range xs.length).map fun (i : Nat) => V.int (0 + (i : Int) * 1)).filterMap (fun v => match v with | .int i => some (V.int (((k + 1 : Nat) : Int) * xs.getD i.toNat 0 - missF xs (xs.getD i.toNat 0))) | _ => none) = (xs.map fun t => ((k + 1 : Nat) : Int) * t - missF xs t).map V.int := by
          have e0 : (List.range xs.length).map (fun i => xs.getD i 0) = xs := by
            apply List.ext_getElem?; intro i
            rcases Nat.lt_or_ge i xs.length with h | h
            · simp [h]
            · rw [List.getElem?_eq_none (by simpa using h), List.getElem?_eq_none h]
          rw [List.filterMap_map]
          conv => rhs; rw [← e0]
          rw [List.map_map, List.map_map]
          refine (fm_some (f := fun (i : Nat) => V.int (((k + 1 : Nat) : Int) * xs.getD i 0 - missF xs (xs.getD i 0))) _ fun i _ => ?_).trans ?_
          · simp only [Function.comp]
            rw [show (0 + (i : Int) * 1).toNat = i by omega]
          · rw [e0]; rfl
        rw [e1]
        refine max_ints (listAt_list (upd_same _ _ _)) (by rw [List.length_map]; omega) fun y my hy => ?_
        have := lot_best (xs := xs) (k := k + 1) (by omega) (by omega) my hy
        subst this
        have ec : c ≠ e := by rintro rfl; rw [hE2 _ _ hc3] at he; cases he
        have he0 : τ e = none := hE2.fresh he
        refine m_append (by rw [upd_ne _ _ ec]; exact hE2 _ _ hc3) (by rw [List.length_map, List.length_map, List.length_range]; unfold BIG; omega) ?_
        ((try simp only [e_int, e_bool, e_none, e_str, e_var, e_bin, e_neg, n_int, e_not, e_cmp, e_and, e_or, e_ite, e_sub, e_slice, e_list, e_tuple, e_call, e_ucall, e_meth, e_comp, e_gfn, e_vcall, e_sortk, e_mink, e_ucalld, e_ucallk, s_forx, s_tryLen, s_zipc, t_not, t_and, t_or, t_cmp, t_var, t_sub, t_call, t_ucall, s_expr, s_assign, s_setitem, s_aug, s_augi, s_ifs, s_while, s_for, s_ret, s_brk, s_cont, ss_nil, c_range1, c_range2, c_range3, i_rng, i_ref, i_tup, i_enm, i_rev, bt_name, bt_tup, look_zero, look_succ, r_next, r_ret, sa_nil, sa_cons, es_nil, es_cons, o_none, o_some, ts_nil, ts_cons, c_lt, c_le, c_gt, c_ge, c_eq, c_ne, b_add, b_sub, b_mul, b_div, b_mod, b_pow, b_shr, a_add, a_mul, t_bool, t_int, List.map, List.cons_append, List.nil_append, List.getElem?_cons_succ, List.getElem?_cons_zero, List.set_cons_succ, List.set_cons_zero, frOf]); (repeat (first | with_reducible refine q_nextI ?_ | with_reducible refine q_retI ?_ | with_reducible refine q_contI ?_ | with_reducible refine q_brkI ?_ | with_reducible refine ss_nilI ?_ | rw [q_next] | rw [q_ret] | rw [q_cont] | rw [q_brk] | rw [ss_nil])); (try simp only [r_next, r_ret]))
        refine k1 _ _ ⟨_, rfl, ?_, ?_, ?_, ?_⟩
        · exact ((hE.trans hE2).trans (Ext.upd _ he)).again _ hσc
        · exact listAt_ne ((Ext.upd _ he).listAt (hE2.listAt ha3)) ca.symm
        · exact listAt_ne ((Ext.upd _ he).listAt (hE2.listAt hb3)) cb.symm
        · rw [upd_same, List.range_succ (n := k + 1), List.map_append, List.map_append]; rfl
    · rintro F τ ⟨e4, rfl, hE, ha3, hb3, hc3⟩
      rw [List.length_map, List.length_range] at hc3
      ((try simp only [e_int, e_bool, e_none, e_str, e_var, e_bin, e_neg, n_int, e_not, e_cmp, e_and, e_or, e_ite, e_sub, e_slice, e_list, e_tuple, e_call, e_ucall, e_meth, e_comp, e_gfn, e_vcall, e_sortk, e_mink, e_ucalld, e_ucallk, s_forx, s_tryLen, s_zipc, t_not, t_and, t_or, t_cmp, t_var, t_sub, t_call, t_ucall, s_expr, s_assign, s_setitem, s_aug, s_augi, s_ifs, s_while, s_for, s_ret, s_brk, s_cont, ss_nil, c_range1, c_range2, c_range3, i_rng, i_ref, i_tup, i_enm, i_rev, bt_name, bt_tup, look_zero, look_succ, r_next, r_ret, sa_nil, sa_cons, es_nil, es_cons, o_none, o_some, ts_nil, ts_cons, c_lt, c_le, c_gt, c_ge, c_eq, c_ne, b_add, b_sub, b_mul, b_div, b_mod, b_pow, b_shr, a_add, a_mul, t_bool, t_int, List.map, List.cons_append, List.nil_append, List.getElem?_cons_succ, List.getElem?_cons_zero, List.set_cons_succ, List.set_cons_zero, frOf]); (repeat (first | with_reducible refine q_nextI ?_ | with_reducible refine q_retI ?_ | with_reducible refine q_contI ?_ | with_reducible refine q_brkI ?_ | with_reducible refine ss_nilI ?_ | rw [q_next] | rw [q_ret] | rw [q_cont] | rw [q_brk] | rw [ss_nil])); (try simp only [r_next, r_ret]))
      ((with_reducible refine go_cons ?_); ((try simp only [e_int, e_bool, e_none, e_str, e_var, e_bin, e_neg, n_int, e_not, e_cmp, e_and, e_or, e_ite, e_sub, e_slice, e_list, e_tuple, e_call, e_ucall, e_meth, e_comp, e_gfn, e_vcall, e_sortk, e_mink, e_ucalld, e_ucallk, s_forx, s_tryLen, s_zipc, t_not, t_and, t_or, t_cmp, t_var, t_sub, t_call, t_ucall, s_expr, s_assign, s_setitem, s_aug, s_augi, s_ifs, s_while, s_for, s_ret, s_brk, s_cont, ss_nil, c_range1, c_range2, c_range3, i_rng, i_ref, i_tup, i_enm, i_rev, bt_name, bt_tup, look_zero, look_succ, r_next, r_ret, sa_nil, sa_cons, es_nil, es_cons, o_none, o_some, ts_nil, ts_cons, c_lt, c_le, c_gt, c_ge, c_eq, c_ne, b_add, b_sub, b_mul, b_div, b_mod, b_pow, b_shr, a_add, a_mul, t_bool, t_int, List.map, List.cons_append, List.nil_append, List.getElem?_cons_succ, List.getElem?_cons_zero, List.set_cons_succ, List.set_cons_zero, frOf]); (repeat (first | with_reducible refine q_nextI ?_ | with_reducible refine q_retI ?_ | with_reducible refine q_contI ?_ | with_reducible refine q_brkI ?_ | with_reducible refine ss_nilI ?_ | rw [q_next] | rw [q_ret] | rw [q_cont] | rw [q_brk] | rw [ss_nil])); (try simp only [r_next, r_ret])))
      refine call_len (listAt_list hc3) ?_
      rw [List.length_map, List.length_map, List.length_range]
      ((try simp only [e_int, e_bool, e_none, e_str, e_var, e_bin, e_neg, n_int, e_not, e_cmp, e_and, e_or, e_ite, e_sub, e_slice, e_list, e_tuple, e_call, e_ucall, e_meth, e_comp, e_gfn, e_vcall, e_sortk, e_mink, e_ucalld, e_ucallk, s_forx, s_tryLen, s_zipc, t_not, t_and, t_or, t_cmp, t_var, t_sub, t_call, t_ucall, s_expr, s_assign, s_setitem, s_aug, s_augi, s_ifs, s_while, s_for, s_ret, s_brk, s_cont, ss_nil, c_range1, c_range2, c_range3, i_rng, i_ref, i_tup, i_enm, i_rev, bt_name, bt_tup, look_zero, look_succ, r_next, r_ret, sa_nil, sa_cons, es_nil, es_cons, o_none, o_some, ts_nil, ts_cons, c_lt, c_le, c_gt, c_ge, c_eq, c_ne, b_add, b_sub, b_mul, b_div, b_mod, b_pow, b_shr, a_add, a_mul, t_bool, t_int, List.map, List.cons_append, List.nil_append, List.getElem?_cons_succ, List.getElem?_cons_zero, List.set_cons_succ, List.set_cons_zero, frOf]); (repeat (first | with_reducible refine q_nextI ?_ | with_reducible refine q_retI ?_ | with_reducible refine q_contI ?_ | with_reducible refine q_brkI ?_ | with_reducible refine ss_nilI ?_ | rw [q_next] | rw [q_ret] | rw [q_cont] | rw [q_brk] | rw [ss_nil])); (try simp only [r_next, r_ret]))
      refine ⟨⟨.inl rfl, by omega, by omega⟩, ?_⟩
      have rl2 : rlen 1 ((m.toNat + 1 : Nat) : Int) 1 = m.toNat := by unfold rlen; simp; omega
      rw [rl2]
      have hl := stab_length (lt := iLt) (kf := id) xs
      refine comp_rule (xs := (List.range m.toNat).map fun (i : Nat) => V.int (1 + (i : Int) * 1)) (fun v => match v with | .int i => some (.int ((stab iLt id xs).getD (i - 1).toNat 0)) | _ => none) (by rw [List.length_map, List.length_range]; exact big_of (by omega)) (yields_rng _ _ _ _) ?_ ?_
      · intro y my τ2 hE2 K2 N2 hK2 hN2
        obtain ⟨i, mi, rfl⟩ := List.mem_map.mp my
        have hi : i < m.toNat := by simpa using mi
        have hc4 := hE2 _ _ hc3
        have at' : ∀ j, j < m.toNat + 1 → (((List.range (m.toNat + 1)).map (sumK xs)).map V.int)[j]? = some (.int (sumK xs j)) := fun j hj => by
          rw [List.getElem?_map, List.getElem?_map, List.getElem?_range hj]; rfl
        have e0 : 1 + (i : Int) * 1 = ((i + 1 : Nat) : Int) := by omega
        rw [e0] at hK2 hN2 ⊢
        ((try simp only [e_int, e_bool, e_none, e_str, e_var, e_bin, e_neg, n_int, e_not, e_cmp, e_and, e_or, e_ite, e_sub, e_slice, e_list, e_tuple, e_call, e_ucall, e_meth, e_comp, e_gfn, e_vcall, e_sortk, e_mink, e_ucalld, e_ucallk, s_forx, s_tryLen, s_zipc, t_not, t_and, t_or, t_cmp, t_var, t_sub, t_call, t_ucall, s_expr, s_assign, s_setitem, s_aug, s_augi, s_ifs, s_while, s_for, s_ret, s_brk, s_cont, ss_nil, c_range1, c_range2, c_range3, i_rng, i_ref, i_tup, i_enm, i_rev, bt_name, bt_tup, look_zero, look_succ, r_next, r_ret, sa_nil, sa_cons, es_nil, es_cons, o_none, o_some, ts_nil, ts_cons, c_lt, c_le, c_gt, c_ge, c_eq, c_ne, b_add, b_sub, b_mul, b_div, b_mod, b_pow, b_shr, a_add, a_mul, t_bool, t_int, List.map, List.cons_append, List.nil_append, List.getElem?_cons_succ, List.getElem?_cons_zero, List.set_cons_succ, List.set_cons_zero, frOf]); (repeat (first | with_reducible refine q_nextI ?_ | with_reducible refine q_retI ?_ | with_reducible refine q_contI ?_ | with_reducible refine q_brkI ?_ | with_reducible refine ss_nilI ?_ | rw [q_next] | rw [q_ret] | rw [q_cont] | rw [q_brk] | rw [ss_nil])); (try simp only [r_next, r_ret]))
        refine opSub_list hc4 (at' (i + 1) (by omega)) ?_
        have e2 : ((i + 1 : Nat) : Int) - 1 = (i : Nat) := by omega
        rw [e2]
        refine opSub_list hc4 (at' i (by omega)) ?_
        ((try simp only [e_int, e_bool, e_none, e_str, e_var, e_bin, e_neg, n_int, e_not, e_cmp, e_and, e_or, e_ite, e_sub, e_slice, e_list, e_tuple, e_call, e_ucall, e_meth, e_comp, e_gfn, e_vcall, e_sortk, e_mink, e_ucalld, e_ucallk, s_forx, s_tryLen, s_zipc, t_not, t_and, t_or, t_cmp, t_var, t_sub, t_call, t_ucall, s_expr, s_assign, s_setitem, s_aug, s_augi, s_ifs, s_while, s_for, s_ret, s_brk, s_cont, ss_nil, c_range1, c_range2, c_range3, i_rng, i_ref, i_tup, i_enm, i_rev, bt_name, bt_tup, look_zero, look_succ, r_next, r_ret, sa_nil, sa_cons, es_nil, es_cons, o_none, o_some, ts_nil, ts_cons, c_lt, c_le, c_gt, c_ge, c_eq, c_ne, b_add, b_sub, b_mul, b_div, b_mod, b_pow, b_shr, a_add, a_mul, t_bool, t_int, List.map, List.cons_append, List.nil_append, List.getElem?_cons_succ, List.getElem?_cons_zero, List.set_cons_succ, List.set_cons_zero, frOf]); (repeat (first | with_reducible refine q_nextI ?_ | with_reducible refine q_retI ?_ | with_reducible refine q_contI ?_ | with_reducible refine q_brkI ?_ | with_reducible refine ss_nilI ?_ | rw [q_next] | rw [q_ret] | rw [q_cont] | rw [q_brk] | rw [ss_nil])); (try simp only [r_next, r_ret]))
        refine hK2 _ _ ?_ .rfl
        show some (V.int ((stab iLt id xs).getD (((i + 1 : Nat) : Int) - 1).toNat 0)) = _
        rw [e2]
        have d := take_diff (stab iLt id xs) i (by omega)
        unfold sumK
        rw [d]
        simp [show i < (stab iLt id xs).length by omega]
      · intro τ2 hE2 e he
        ((try simp only [e_int, e_bool, e_none, e_str, e_var, e_bin, e_neg, n_int, e_not, e_cmp, e_and, e_or, e_ite, e_sub, e_slice, e_list, e_tuple, e_call, e_ucall, e_meth, e_comp, e_gfn, e_vcall, e_sortk, e_mink, e_ucalld, e_ucallk, s_forx, s_tryLen, s_zipc, t_not, t_and, t_or, t_cmp, t_var, t_sub, t_call, t_ucall, s_expr, s_assign, s_setitem, s_aug, s_augi, s_ifs, s_while, s_for, s_ret, s_brk, s_cont, ss_nil, c_range1, c_range2, c_range3, i_rng, i_ref, i_tup, i_enm, i_rev, bt_name, bt_tup, look_zero, look_succ, r_next, r_ret, sa_nil, sa_cons, es_nil, es_cons, o_none, o_some, ts_nil, ts_cons, c_lt, c_le, c_gt, c_ge, c_eq, c_ne, b_add, b_sub, b_mul, b_div, b_mod, b_pow, b_shr, a_add, a_mul, t_bool, t_int, List.map, List.cons_append, List.nil_append, List.getElem?_cons_succ, List.getElem?_cons_zero, List.set_cons_succ, List.set_cons_zero, frOf]); (repeat (first | with_reducible refine q_nextI ?_ | with_reducible refine q_retI ?_ | with_reducible refine q_contI ?_ | with_reducible refine q_brkI ?_ | with_reducible refine ss_nilI ?_ | rw [q_next] | rw [q_ret] | rw [q_cont] | rw [q_brk] | rw [ss_nil])); (try simp only [r_next, r_ret]))
        have x1 := hE.trans hE2
        refine q e _ (x1.trans (Ext.upd _ he)) (x1.fresh he) ?_
        rw [upd_same, ← take_min (xs := xs) _ _ hl, ← hm1.2.2.2]
        congr 2
        rw [List.filterMap_map]
        refine (fm_some (f := fun (i : Nat) => V.int ((stab iLt id xs).getD i 0)) _ fun i _ => ?_).trans ?_
        · simp only [Function.comp]
          rw [show (1 + (i : Int) * 1 - 1).toNat = i by omega]
        · apply List.ext_getElem?; intro i
          simp only [List.getElem?_map, List.getElem?_take]
          rcases Nat.lt_or_ge i m.toNat with h | h
          · rw [if_pos h, List.getElem?_range h, getD_some (v := 0) (show i < (stab iLt id xs).length by omega)]; rfl
          · rw [if_neg (by omega), List.getElem?_eq_none (by simpa using h)]; rfl

/-! Vc11b -/
/-- a comprehension over a list of ints, one by one -/
theorem comp_ints {Φ : Fns} {elt : PE} {F0 : Frm} {Q : V → Hp → Prop} {σ : Hp} {a : Addr} {xs : List Int} (e : listAt σ a = some (xs.map .int)) (hb : xs.length ≤ BIG) (r : Int → Int) (el : ∀ x τ (K : V → Hp → Prop), K (.int (r x)) τ → vE Φ elt K (F0.set 1 (some (.int x))) τ)
    (q : ∀ σ' b, Ext σ σ' → σ b = none → σ' b = some (.list ((xs.map r).map V.int)) → Q (.ref b) σ') : CompG Φ [] elt (.name 1) F0 Q (.lst a 0) σ := by
  refine comp_rule (xs := xs.map V.int) (fun v => match v with | .int x => some (.int (r x)) | _ => none) (by rw [List.length_map]; exact hb) (yields_lst (fun τ h => h.listAt e) _ 0 rfl) ?_ ?_
  · intro y my τ hE K N hK hN
    obtain ⟨x, _, rfl⟩ := List.mem_map.mp my
    ((try simp only [e_int, e_bool, e_none, e_str, e_var, e_bin, e_neg, n_int, e_not, e_cmp, e_and, e_or, e_ite, e_sub, e_slice, e_list, e_tuple, e_call, e_ucall, e_meth, e_comp, e_gfn, e_vcall, e_sortk, e_mink, e_ucalld, e_ucallk, s_forx, s_tryLen, s_zipc, t_not, t_and, t_or, t_cmp, t_var, t_sub, t_call, t_ucall, s_expr, s_assign, s_setitem, s_aug, s_augi, s_ifs, s_while, s_for, s_ret, s_brk, s_cont, ss_nil, c_range1, c_range2, c_range3, i_rng, i_ref, i_tup, i_enm, i_rev, bt_name, bt_tup, look_zero, look_succ, r_next, r_ret, sa_nil, sa_cons, es_nil, es_cons, o_none, o_some, ts_nil, ts_cons, c_lt, c_le, c_gt, c_ge, c_eq, c_ne, b_add, b_sub, b_mul, b_div, b_mod, b_pow, b_shr, a_add, a_mul, t_bool, t_int, List.map, List.cons_append, List.nil_append, List.getElem?_cons_succ, List.getElem?_cons_zero, List.set_cons_succ, List.set_cons_zero, frOf]); (repeat (first | with_reducible refine q_nextI ?_ | with_reducible refine q_retI ?_ | with_reducible refine q_contI ?_ | with_reducible refine q_brkI ?_ | with_reducible refine ss_nilI ?_ | rw [q_next] | rw [q_ret] | rw [q_cont] | rw [q_brk] | rw [ss_nil])); (try simp only [r_next, r_ret]))
    simp only [if_true]
    exact el x τ K (hK _ _ rfl .rfl)
  · intro τ hE b hb
    have e1 : (xs.map V.int).filterMap (fun v => match v with | .int x => some (V.int (r x)) | _ => none) = (xs.map r).map V.int := by
      rw [List.filterMap_map, List.map_map]
      exact fm_some _ fun t _ => rfl
    rw [e1]
    exact q _ b (hE.trans (Ext.upd _ hb)) (hE.fresh hb) (upd_same _ _ _)
noncomputable def ps_law11b : List PS := [.assign (.name 2) (.bin .Sub (.bin .Mod (.bin .Add (.call .sum [(.var 0)]) (.int 3)) (.bin .Add (.call .len [(.var 1)]) (.int 3))) (.int 1)), .assign (.name 3) (.ucall 5 [(.var 1), (.var 2)]), .ifs (.or (.cmp .NotEq (.ucalld 4 (.var 2) (.var 1)) (.var 3)) (.cmp .NotEq (.ucalld 4 (.var 2) (.call .iter [(.var 1)])) (.var 3))) [.ret (.bool false)] [], .assign (.name 4) (.comp [none, none] (.neg (.var 1)) (.name 1) .plain (.ucall 5 [(.comp [none, none] (.neg (.var 1)) (.name 1) .plain (.var 1) []), (.var 2)]) []), .ifs (.cmp .NotEq (.ucallk 4 (.var 2) (.var 1) (.gfn 6)) (.var 4)) [.ret (.bool false)] [], .ret (.cmp .Eq (.ucallk 4 (.var 2) (.call .iter [(.var 1)]) (.gfn 6)) (.var 4))]
theorem law11b_v (Φ : Fns) (KC : FuncData → List V → (V → Hp → Prop) → Hp → Prop) (h4 : ∀ args Q σ, nsC KC args Q σ → Φ 4 args Q σ) (h5 : ∀ args Q σ, leastC args Q σ → Φ 5 args Q σ) (hT : ∀ fd σ, Φ 1001 [.int 6, .func fd] (fun _ _ => True) σ → ∀ args Q σ, turnedI args Q σ → KC fd args Q σ)
    (l ra : Addr) (ns xs : List Int) (hns : ns.length ≤ 63) (h3 : 3 ≤ xs.length) (h23 : xs.length ≤ 23) (σ : Hp) (hl : listAt σ l = some (ns.map .int)) (ha : listAt σ ra = some (xs.map .int)) :
    vSs Φ ps_law11b (retV fun v _ => v = .bool true) [some (.ref l), some (.ref ra), none, none, none] σ := by
  unfold ps_law11b
  ((with_reducible refine go_cons ?_); ((try simp only [e_int, e_bool, e_none, e_str, e_var, e_bin, e_neg, n_int, e_not, e_cmp, e_and, e_or, e_ite, e_sub, e_slice, e_list, e_tuple, e_call, e_ucall, e_meth, e_comp, e_gfn, e_vcall, e_sortk, e_mink, e_ucalld, e_ucallk, s_forx, s_tryLen, s_zipc, t_not, t_and, t_or, t_cmp, t_var, t_sub, t_call, t_ucall, s_expr, s_assign, s_setitem, s_aug, s_augi, s_ifs, s_while, s_for, s_ret, s_brk, s_cont, ss_nil, c_range1, c_range2, c_range3, i_rng, i_ref, i_tup, i_enm, i_rev, bt_name, bt_tup, look_zero, look_succ, r_next, r_ret, sa_nil, sa_cons, es_nil, es_cons, o_none, o_some, ts_nil, ts_cons, c_lt, c_le, c_gt, c_ge, c_eq, c_ne, b_add, b_sub, b_mul, b_div, b_mod, b_pow, b_shr, a_add, a_mul, t_bool, t_int, List.map, List.cons_append, List.nil_append, List.getElem?_cons_succ, List.getElem?_cons_zero, List.set_cons_succ, List.set_cons_zero, frOf]); (repeat (first | with_reducible refine q_nextI ?_ | with_reducible refine q_retI ?_ | with_reducible refine q_contI ?_ | with_reducible refine q_brkI ?_ | with_reducible refine ss_nilI ?_ | rw [q_next] | rw [q_ret] | rw [q_cont] | rw [q_brk] | rw [ss_nil])); (try simp only [r_next, r_ret])))
  refine call_sum hl ?_
  ((try simp only [e_int, e_bool, e_none, e_str, e_var, e_bin, e_neg, n_int, e_not, e_cmp, e_and, e_or, e_ite, e_sub, e_slice, e_list, e_tuple, e_call, e_ucall, e_meth, e_comp, e_gfn, e_vcall, e_sortk, e_mink, e_ucalld, e_ucallk, s_forx, s_tryLen, s_zipc, t_not, t_and, t_or, t_cmp, t_var, t_sub, t_call, t_ucall, s_expr, s_assign, s_setitem, s_aug, s_augi, s_ifs, s_while, s_for, s_ret, s_brk, s_cont, ss_nil, c_range1, c_range2, c_range3, i_rng, i_ref, i_tup, i_enm, i_rev, bt_name, bt_tup, look_zero, look_succ, r_next, r_ret, sa_nil, sa_cons, es_nil, es_cons, o_none, o_some, ts_nil, ts_cons, c_lt, c_le, c_gt, c_ge, c_eq, c_ne, b_add, b_sub, b_mul, b_div, b_mod, b_pow, b_shr, a_add, a_mul, t_bool, t_int, List.map, List.cons_append, List.nil_append, List.getElem?_cons_succ, List.getElem?_cons_zero, List.set_cons_succ, List.set_cons_zero, frOf]); (repeat (first | with_reducible refine q_nextI ?_ | with_reducible refine q_retI ?_ | with_reducible refine q_contI ?_ | with_reducible refine q_brkI ?_ | with_reducible refine ss_nilI ?_ | rw [q_next] | rw [q_ret] | rw [q_cont] | rw [q_brk] | rw [ss_nil])); (try simp only [r_next, r_ret]))
  refine call_len ha ?_
  rw [List.length_map]
  ((try simp only [e_int, e_bool, e_none, e_str, e_var, e_bin, e_neg, n_int, e_not, e_cmp, e_and, e_or, e_ite, e_sub, e_slice, e_list, e_tuple, e_call, e_ucall, e_meth, e_comp, e_gfn, e_vcall, e_sortk, e_mink, e_ucalld, e_ucallk, s_forx, s_tryLen, s_zipc, t_not, t_and, t_or, t_cmp, t_var, t_sub, t_call, t_ucall, s_expr, s_assign, s_setitem, s_aug, s_augi, s_ifs, s_while, s_for, s_ret, s_brk, s_cont, ss_nil, c_range1, c_range2, c_range3, i_rng, i_ref, i_tup, i_enm, i_rev, bt_name, bt_tup, look_zero, look_succ, r_next, r_ret, sa_nil, sa_cons, es_nil, es_cons, o_none, o_some, ts_nil, ts_cons, c_lt, c_le, c_gt, c_ge, c_eq, c_ne, b_add, b_sub, b_mul, b_div, b_mod, b_pow, b_shr, a_add, a_mul, t_bool, t_int, List.map, List.cons_append, List.nil_append, List.getElem?_cons_succ, List.getElem?_cons_zero, List.set_cons_succ, List.set_cons_zero, frOf]); (repeat (first | with_reducible refine q_nextI ?_ | with_reducible refine q_retI ?_ | with_reducible refine q_contI ?_ | with_reducible refine q_brkI ?_ | with_reducible refine ss_nilI ?_ | rw [q_next] | rw [q_ret] | rw [q_cont] | rw [q_brk] | rw [ss_nil])); (try simp only [r_next, r_ret]))
  refine ⟨by omega, ?_⟩
  generalize hw : (ns.sum + 3).fmod ((xs.length : Int) + 3) - 1 = wish
  have hwb : -1 ≤ wish ∧ wish ≤ 30 := by
    rw [Int.fmod_eq_emod_of_nonneg _ (by omega)] at hw
    have a1 := Int.emod_nonneg (ns.sum + 3) (show (xs.length : Int) + 3 ≠ 0 by omega)
    have a2 := Int.emod_lt_of_pos (ns.sum + 3) (show 0 < (xs.length : Int) + 3 by omega)
    omega
  ((with_reducible refine go_cons ?_); ((try simp only [e_int, e_bool, e_none, e_str, e_var, e_bin, e_neg, n_int, e_not, e_cmp, e_and, e_or, e_ite, e_sub, e_slice, e_list, e_tuple, e_call, e_ucall, e_meth, e_comp, e_gfn, e_vcall, e_sortk, e_mink, e_ucalld, e_ucallk, s_forx, s_tryLen, s_zipc, t_not, t_and, t_or, t_cmp, t_var, t_sub, t_call, t_ucall, s_expr, s_assign, s_setitem, s_aug, s_augi, s_ifs, s_while, s_for, s_ret, s_brk, s_cont, ss_nil, c_range1, c_range2, c_range3, i_rng, i_ref, i_tup, i_enm, i_rev, bt_name, bt_tup, look_zero, look_succ, r_next, r_ret, sa_nil, sa_cons, es_nil, es_cons, o_none, o_some, ts_nil, ts_cons, c_lt, c_le, c_gt, c_ge, c_eq, c_ne, b_add, b_sub, b_mul, b_div, b_mod, b_pow, b_shr, a_add, a_mul, t_bool, t_int, List.map, List.cons_append, List.nil_append, List.getElem?_cons_succ, List.getElem?_cons_zero, List.set_cons_succ, List.set_cons_zero, frOf]); (repeat (first | with_reducible refine q_nextI ?_ | with_reducible refine q_retI ?_ | with_reducible refine q_contI ?_ | with_reducible refine q_brkI ?_ | with_reducible refine ss_nilI ?_ | rw [q_next] | rw [q_ret] | rw [q_cont] | rw [q_brk] | rw [ss_nil])); (try simp only [r_next, r_ret])))
  refine h5 _ _ _ ⟨ra, xs, wish, rfl, ha, by omega, by omega, by omega, by omega, fun b σ1 x1 f1 g1 => ?_⟩
  have ha1 := x1.listAt ha
  ((try simp only [e_int, e_bool, e_none, e_str, e_var, e_bin, e_neg, n_int, e_not, e_cmp, e_and, e_or, e_ite, e_sub, e_slice, e_list, e_tuple, e_call, e_ucall, e_meth, e_comp, e_gfn, e_vcall, e_sortk, e_mink, e_ucalld, e_ucallk, s_forx, s_tryLen, s_zipc, t_not, t_and, t_or, t_cmp, t_var, t_sub, t_call, t_ucall, s_expr, s_assign, s_setitem, s_aug, s_augi, s_ifs, s_while, s_for, s_ret, s_brk, s_cont, ss_nil, c_range1, c_range2, c_range3, i_rng, i_ref, i_tup, i_enm, i_rev, bt_name, bt_tup, look_zero, look_succ, r_next, r_ret, sa_nil, sa_cons, es_nil, es_cons, o_none, o_some, ts_nil, ts_cons, c_lt, c_le, c_gt, c_ge, c_eq, c_ne, b_add, b_sub, b_mul, b_div, b_mod, b_pow, b_shr, a_add, a_mul, t_bool, t_int, List.map, List.cons_append, List.nil_append, List.getElem?_cons_succ, List.getElem?_cons_zero, List.set_cons_succ, List.set_cons_zero, frOf]); (repeat (first | with_reducible refine q_nextI ?_ | with_reducible refine q_retI ?_ | with_reducible refine q_contI ?_ | with_reducible refine q_brkI ?_ | with_reducible refine ss_nilI ?_ | rw [q_next] | rw [q_ret] | rw [q_cont] | rw [q_brk] | rw [ss_nil])); (try simp only [r_next, r_ret]))
  ((with_reducible refine go_cons ?_); ((try simp only [e_int, e_bool, e_none, e_str, e_var, e_bin, e_neg, n_int, e_not, e_cmp, e_and, e_or, e_ite, e_sub, e_slice, e_list, e_tuple, e_call, e_ucall, e_meth, e_comp, e_gfn, e_vcall, e_sortk, e_mink, e_ucalld, e_ucallk, s_forx, s_tryLen, s_zipc, t_not, t_and, t_or, t_cmp, t_var, t_sub, t_call, t_ucall, s_expr, s_assign, s_setitem, s_aug, s_augi, s_ifs, s_while, s_for, s_ret, s_brk, s_cont, ss_nil, c_range1, c_range2, c_range3, i_rng, i_ref, i_tup, i_enm, i_rev, bt_name, bt_tup, look_zero, look_succ, r_next, r_ret, sa_nil, sa_cons, es_nil, es_cons, o_none, o_some, ts_nil, ts_cons, c_lt, c_le, c_gt, c_ge, c_eq, c_ne, b_add, b_sub, b_mul, b_div, b_mod, b_pow, b_shr, a_add, a_mul, t_bool, t_int, List.map, List.cons_append, List.nil_append, List.getElem?_cons_succ, List.getElem?_cons_zero, List.set_cons_succ, List.set_cons_zero, frOf]); (repeat (first | with_reducible refine q_nextI ?_ | with_reducible refine q_retI ?_ | with_reducible refine q_contI ?_ | with_reducible refine q_brkI ?_ | with_reducible refine ss_nilI ?_ | rw [q_next] | rw [q_ret] | rw [q_cont] | rw [q_brk] | rw [ss_nil])); (try simp only [r_next, r_ret])))
  refine ⟨_, _, rfl, h4 _ _ _ (nsC_none (by omega) (by omega) (by omega) (by omega) (.list ha1) fun c σ2 x2 f2 g2 => ?_)⟩
  have hb2 := x2.ls _ _ (listAt_list g1)
  ((try simp only [e_int, e_bool, e_none, e_str, e_var, e_bin, e_neg, n_int, e_not, e_cmp, e_and, e_or, e_ite, e_sub, e_slice, e_list, e_tuple, e_call, e_ucall, e_meth, e_comp, e_gfn, e_vcall, e_sortk, e_mink, e_ucalld, e_ucallk, s_forx, s_tryLen, s_zipc, t_not, t_and, t_or, t_cmp, t_var, t_sub, t_call, t_ucall, s_expr, s_assign, s_setitem, s_aug, s_augi, s_ifs, s_while, s_for, s_ret, s_brk, s_cont, ss_nil, c_range1, c_range2, c_range3, i_rng, i_ref, i_tup, i_enm, i_rev, bt_name, bt_tup, look_zero, look_succ, r_next, r_ret, sa_nil, sa_cons, es_nil, es_cons, o_none, o_some, ts_nil, ts_cons, c_lt, c_le, c_gt, c_ge, c_eq, c_ne, b_add, b_sub, b_mul, b_div, b_mod, b_pow, b_shr, a_add, a_mul, t_bool, t_int, List.map, List.cons_append, List.nil_append, List.getElem?_cons_succ, List.getElem?_cons_zero, List.set_cons_succ, List.set_cons_zero, frOf]); (repeat (first | with_reducible refine q_nextI ?_ | with_reducible refine q_retI ?_ | with_reducible refine q_contI ?_ | with_reducible refine q_brkI ?_ | with_reducible refine ss_nilI ?_ | rw [q_next] | rw [q_ret] | rw [q_cont] | rw [q_brk] | rw [ss_nil])); (try simp only [r_next, r_ret]))
  refine isDat_int.ne (listAt_list g2) hb2 ?_
  ((try simp only [e_int, e_bool, e_none, e_str, e_var, e_bin, e_neg, n_int, e_not, e_cmp, e_and, e_or, e_ite, e_sub, e_slice, e_list, e_tuple, e_call, e_ucall, e_meth, e_comp, e_gfn, e_vcall, e_sortk, e_mink, e_ucalld, e_ucallk, s_forx, s_tryLen, s_zipc, t_not, t_and, t_or, t_cmp, t_var, t_sub, t_call, t_ucall, s_expr, s_assign, s_setitem, s_aug, s_augi, s_ifs, s_while, s_for, s_ret, s_brk, s_cont, ss_nil, c_range1, c_range2, c_range3, i_rng, i_ref, i_tup, i_enm, i_rev, bt_name, bt_tup, look_zero, look_succ, r_next, r_ret, sa_nil, sa_cons, es_nil, es_cons, o_none, o_some, ts_nil, ts_cons, c_lt, c_le, c_gt, c_ge, c_eq, c_ne, b_add, b_sub, b_mul, b_div, b_mod, b_pow, b_shr, a_add, a_mul, t_bool, t_int, List.map, List.cons_append, List.nil_append, List.getElem?_cons_succ, List.getElem?_cons_zero, List.set_cons_succ, List.set_cons_zero, frOf]); (repeat (first | with_reducible refine q_nextI ?_ | with_reducible refine q_retI ?_ | with_reducible refine q_contI ?_ | with_reducible refine q_brkI ?_ | with_reducible refine ss_nilI ?_ | rw [q_next] | rw [q_ret] | rw [q_cont] | rw [q_brk] | rw [ss_nil])); (try simp only [r_next, r_ret]))
  simp only [Bool.false_eq_true, if_false]
  ((try simp only [e_int, e_bool, e_none, e_str, e_var, e_bin, e_neg, n_int, e_not, e_cmp, e_and, e_or, e_ite, e_sub, e_slice, e_list, e_tuple, e_call, e_ucall, e_meth, e_comp, e_gfn, e_vcall, e_sortk, e_mink, e_ucalld, e_ucallk, s_forx, s_tryLen, s_zipc, t_not, t_and, t_or, t_cmp, t_var, t_sub, t_call, t_ucall, s_expr, s_assign, s_setitem, s_aug, s_augi, s_ifs, s_while, s_for, s_ret, s_brk, s_cont, ss_nil, c_range1, c_range2, c_range3, i_rng, i_ref, i_tup, i_enm, i_rev, bt_name, bt_tup, look_zero, look_succ, r_next, r_ret, sa_nil, sa_cons, es_nil, es_cons, o_none, o_some, ts_nil, ts_cons, c_lt, c_le, c_gt, c_ge, c_eq, c_ne, b_add, b_sub, b_mul, b_div, b_mod, b_pow, b_shr, a_add, a_mul, t_bool, t_int, List.map, List.cons_append, List.nil_append, List.getElem?_cons_succ, List.getElem?_cons_zero, List.set_cons_succ, List.set_cons_zero, frOf]); (repeat (first | with_reducible refine q_nextI ?_ | with_reducible refine q_retI ?_ | with_reducible refine q_contI ?_ | with_reducible refine q_brkI ?_ | with_reducible refine ss_nilI ?_ | rw [q_next] | rw [q_ret] | rw [q_cont] | rw [q_brk] | rw [ss_nil])); (try simp only [r_next, r_ret]))
  refine call_iter_list (x2.ls _ _ ha1) fun it hit => ?_
  have x2' : LExt σ1 (upd σ2 it (.iter (some ra) 0)) := x2.trans (.new _ hit)
  refine ⟨_, _, rfl, h4 _ _ _ (nsC_none (by omega) (by omega) (by omega) (by omega) (.iter (upd_same _ _ _) (x2'.ls _ _ ha1)) fun d σ3 x3 f3 g3 => ?_)⟩
  have x3' := x2'.trans x3
  ((try simp only [e_int, e_bool, e_none, e_str, e_var, e_bin, e_neg, n_int, e_not, e_cmp, e_and, e_or, e_ite, e_sub, e_slice, e_list, e_tuple, e_call, e_ucall, e_meth, e_comp, e_gfn, e_vcall, e_sortk, e_mink, e_ucalld, e_ucallk, s_forx, s_tryLen, s_zipc, t_not, t_and, t_or, t_cmp, t_var, t_sub, t_call, t_ucall, s_expr, s_assign, s_setitem, s_aug, s_augi, s_ifs, s_while, s_for, s_ret, s_brk, s_cont, ss_nil, c_range1, c_range2, c_range3, i_rng, i_ref, i_tup, i_enm, i_rev, bt_name, bt_tup, look_zero, look_succ, r_next, r_ret, sa_nil, sa_cons, es_nil, es_cons, o_none, o_some, ts_nil, ts_cons, c_lt, c_le, c_gt, c_ge, c_eq, c_ne, b_add, b_sub, b_mul, b_div, b_mod, b_pow, b_shr, a_add, a_mul, t_bool, t_int, List.map, List.cons_append, List.nil_append, List.getElem?_cons_succ, List.getElem?_cons_zero, List.set_cons_succ, List.set_cons_zero, frOf]); (repeat (first | with_reducible refine q_nextI ?_ | with_reducible refine q_retI ?_ | with_reducible refine q_contI ?_ | with_reducible refine q_brkI ?_ | with_reducible refine ss_nilI ?_ | rw [q_next] | rw [q_ret] | rw [q_cont] | rw [q_brk] | rw [ss_nil])); (try simp only [r_next, r_ret]))
  refine isDat_int.ne (listAt_list g3) (x3'.ls _ _ (listAt_list g1)) ?_
  ((try simp only [e_int, e_bool, e_none, e_str, e_var, e_bin, e_neg, n_int, e_not, e_cmp, e_and, e_or, e_ite, e_sub, e_slice, e_list, e_tuple, e_call, e_ucall, e_meth, e_comp, e_gfn, e_vcall, e_sortk, e_mink, e_ucalld, e_ucallk, s_forx, s_tryLen, s_zipc, t_not, t_and, t_or, t_cmp, t_var, t_sub, t_call, t_ucall, s_expr, s_assign, s_setitem, s_aug, s_augi, s_ifs, s_while, s_for, s_ret, s_brk, s_cont, ss_nil, c_range1, c_range2, c_range3, i_rng, i_ref, i_tup, i_enm, i_rev, bt_name, bt_tup, look_zero, look_succ, r_next, r_ret, sa_nil, sa_cons, es_nil, es_cons, o_none, o_some, ts_nil, ts_cons, c_lt, c_le, c_gt, c_ge, c_eq, c_ne, b_add, b_sub, b_mul, b_div, b_mod, b_pow, b_shr, a_add, a_mul, t_bool, t_int, List.map, List.cons_append, List.nil_append, List.getElem?_cons_succ, List.getElem?_cons_zero, List.set_cons_succ, List.set_cons_zero, frOf]); (repeat (first | with_reducible refine q_nextI ?_ | with_reducible refine q_retI ?_ | with_reducible refine q_contI ?_ | with_reducible refine q_brkI ?_ | with_reducible refine ss_nilI ?_ | rw [q_next] | rw [q_ret] | rw [q_cont] | rw [q_brk] | rw [ss_nil])); (try simp only [r_next, r_ret]))
  simp only [Bool.false_eq_true, if_false]
  ((try simp only [e_int, e_bool, e_none, e_str, e_var, e_bin, e_neg, n_int, e_not, e_cmp, e_and, e_or, e_ite, e_sub, e_slice, e_list, e_tuple, e_call, e_ucall, e_meth, e_comp, e_gfn, e_vcall, e_sortk, e_mink, e_ucalld, e_ucallk, s_forx, s_tryLen, s_zipc, t_not, t_and, t_or, t_cmp, t_var, t_sub, t_call, t_ucall, s_expr, s_assign, s_setitem, s_aug, s_augi, s_ifs, s_while, s_for, s_ret, s_brk, s_cont, ss_nil, c_range1, c_range2, c_range3, i_rng, i_ref, i_tup, i_enm, i_rev, bt_name, bt_tup, look_zero, look_succ, r_next, r_ret, sa_nil, sa_cons, es_nil, es_cons, o_none, o_some, ts_nil, ts_cons, c_lt, c_le, c_gt, c_ge, c_eq, c_ne, b_add, b_sub, b_mul, b_div, b_mod, b_pow, b_shr, a_add, a_mul, t_bool, t_int, List.map, List.cons_append, List.nil_append, List.getElem?_cons_succ, List.getElem?_cons_zero, List.set_cons_succ, List.set_cons_zero, frOf]); (repeat (first | with_reducible refine q_nextI ?_ | with_reducible refine q_retI ?_ | with_reducible refine q_contI ?_ | with_reducible refine q_brkI ?_ | with_reducible refine ss_nilI ?_ | rw [q_next] | rw [q_ret] | rw [q_cont] | rw [q_brk] | rw [ss_nil])); (try simp only [r_next, r_ret]))
  have ha3 := x3'.ls _ _ ha1
  clear hb2
  ((with_reducible refine go_cons ?_); ((try simp only [e_int, e_bool, e_none, e_str, e_var, e_bin, e_neg, n_int, e_not, e_cmp, e_and, e_or, e_ite, e_sub, e_slice, e_list, e_tuple, e_call, e_ucall, e_meth, e_comp, e_gfn, e_vcall, e_sortk, e_mink, e_ucalld, e_ucallk, s_forx, s_tryLen, s_zipc, t_not, t_and, t_or, t_cmp, t_var, t_sub, t_call, t_ucall, s_expr, s_assign, s_setitem, s_aug, s_augi, s_ifs, s_while, s_for, s_ret, s_brk, s_cont, ss_nil, c_range1, c_range2, c_range3, i_rng, i_ref, i_tup, i_enm, i_rev, bt_name, bt_tup, look_zero, look_succ, r_next, r_ret, sa_nil, sa_cons, es_nil, es_cons, o_none, o_some, ts_nil, ts_cons, c_lt, c_le, c_gt, c_ge, c_eq, c_ne, b_add, b_sub, b_mul, b_div, b_mod, b_pow, b_shr, a_add, a_mul, t_bool, t_int, List.map, List.cons_append, List.nil_append, List.getElem?_cons_succ, List.getElem?_cons_zero, List.set_cons_succ, List.set_cons_zero, frOf]); (repeat (first | with_reducible refine q_nextI ?_ | with_reducible refine q_retI ?_ | with_reducible refine q_contI ?_ | with_reducible refine q_brkI ?_ | with_reducible refine ss_nilI ?_ | rw [q_next] | rw [q_ret] | rw [q_cont] | rw [q_brk] | rw [ss_nil])); (try simp only [r_next, r_ret])))
  refine ⟨⟨_, ha3⟩, ?_⟩
  refine comp_ints ha3 (big_of (by omega)) (fun x => -x) (fun x τ K k => by ((try simp only [e_int, e_bool, e_none, e_str, e_var, e_bin, e_neg, n_int, e_not, e_cmp, e_and, e_or, e_ite, e_sub, e_slice, e_list, e_tuple, e_call, e_ucall, e_meth, e_comp, e_gfn, e_vcall, e_sortk, e_mink, e_ucalld, e_ucallk, s_forx, s_tryLen, s_zipc, t_not, t_and, t_or, t_cmp, t_var, t_sub, t_call, t_ucall, s_expr, s_assign, s_setitem, s_aug, s_augi, s_ifs, s_while, s_for, s_ret, s_brk, s_cont, ss_nil, c_range1, c_range2, c_range3, i_rng, i_ref, i_tup, i_enm, i_rev, bt_name, bt_tup, look_zero, look_succ, r_next, r_ret, sa_nil, sa_cons, es_nil, es_cons, o_none, o_some, ts_nil, ts_cons, c_lt, c_le, c_gt, c_ge, c_eq, c_ne, b_add, b_sub, b_mul, b_div, b_mod, b_pow, b_shr, a_add, a_mul, t_bool, t_int, List.map, List.cons_append, List.nil_append, List.getElem?_cons_succ, List.getElem?_cons_zero, List.set_cons_succ, List.set_cons_zero, frOf]); (repeat (first | with_reducible refine q_nextI ?_ | with_reducible refine q_retI ?_ | with_reducible refine q_contI ?_ | with_reducible refine q_brkI ?_ | with_reducible refine ss_nilI ?_ | rw [q_next] | rw [q_ret] | rw [q_cont] | rw [q_brk] | rw [ss_nil])); (try simp only [r_next, r_ret])); exact k) fun σ4 e x4 f4 g4 => ?_
  ((try simp only [e_int, e_bool, e_none, e_str, e_var, e_bin, e_neg, n_int, e_not, e_cmp, e_and, e_or, e_ite, e_sub, e_slice, e_list, e_tuple, e_call, e_ucall, e_meth, e_comp, e_gfn, e_vcall, e_sortk, e_mink, e_ucalld, e_ucallk, s_forx, s_tryLen, s_zipc, t_not, t_and, t_or, t_cmp, t_var, t_sub, t_call, t_ucall, s_expr, s_assign, s_setitem, s_aug, s_augi, s_ifs, s_while, s_for, s_ret, s_brk, s_cont, ss_nil, c_range1, c_range2, c_range3, i_rng, i_ref, i_tup, i_enm, i_rev, bt_name, bt_tup, look_zero, look_succ, r_next, r_ret, sa_nil, sa_cons, es_nil, es_cons, o_none, o_some, ts_nil, ts_cons, c_lt, c_le, c_gt, c_ge, c_eq, c_ne, b_add, b_sub, b_mul, b_div, b_mod, b_pow, b_shr, a_add, a_mul, t_bool, t_int, List.map, List.cons_append, List.nil_append, List.getElem?_cons_succ, List.getElem?_cons_zero, List.set_cons_succ, List.set_cons_zero, frOf]); (repeat (first | with_reducible refine q_nextI ?_ | with_reducible refine q_retI ?_ | with_reducible refine q_contI ?_ | with_reducible refine q_brkI ?_ | with_reducible refine ss_nilI ?_ | rw [q_next] | rw [q_ret] | rw [q_cont] | rw [q_brk] | rw [ss_nil])); (try simp only [r_next, r_ret]))
  refine h5 _ _ _ ⟨e, xs.map (fun x => -x), wish, rfl, listAt_list g4, by rw [List.length_map]; omega, by rw [List.length_map]; omega, by omega, by omega, fun b' σ5 x5 f5 g5 => ?_⟩
  ((try simp only [e_int, e_bool, e_none, e_str, e_var, e_bin, e_neg, n_int, e_not, e_cmp, e_and, e_or, e_ite, e_sub, e_slice, e_list, e_tuple, e_call, e_ucall, e_meth, e_comp, e_gfn, e_vcall, e_sortk, e_mink, e_ucalld, e_ucallk, s_forx, s_tryLen, s_zipc, t_not, t_and, t_or, t_cmp, t_var, t_sub, t_call, t_ucall, s_expr, s_assign, s_setitem, s_aug, s_augi, s_ifs, s_while, s_for, s_ret, s_brk, s_cont, ss_nil, c_range1, c_range2, c_range3, i_rng, i_ref, i_tup, i_enm, i_rev, bt_name, bt_tup, look_zero, look_succ, r_next, r_ret, sa_nil, sa_cons, es_nil, es_cons, o_none, o_some, ts_nil, ts_cons, c_lt, c_le, c_gt, c_ge, c_eq, c_ne, b_add, b_sub, b_mul, b_div, b_mod, b_pow, b_shr, a_add, a_mul, t_bool, t_int, List.map, List.cons_append, List.nil_append, List.getElem?_cons_succ, List.getElem?_cons_zero, List.set_cons_succ, List.set_cons_zero, frOf]); (repeat (first | with_reducible refine q_nextI ?_ | with_reducible refine q_retI ?_ | with_reducible refine q_contI ?_ | with_reducible refine q_brkI ?_ | with_reducible refine ss_nilI ?_ | rw [q_next] | rw [q_ret] | rw [q_cont] | rw [q_brk] | rw [ss_nil])); (try simp only [r_next, r_ret]))
  refine ⟨⟨_, listAt_list g5⟩, ?_⟩
  refine comp_ints (listAt_list g5) (big_of (by rw [List.length_take, stab_length, List.length_map]; omega)) (fun x => -x) (fun x τ K k => by ((try simp only [e_int, e_bool, e_none, e_str, e_var, e_bin, e_neg, n_int, e_not, e_cmp, e_and, e_or, e_ite, e_sub, e_slice, e_list, e_tuple, e_call, e_ucall, e_meth, e_comp, e_gfn, e_vcall, e_sortk, e_mink, e_ucalld, e_ucallk, s_forx, s_tryLen, s_zipc, t_not, t_and, t_or, t_cmp, t_var, t_sub, t_call, t_ucall, s_expr, s_assign, s_setitem, s_aug, s_augi, s_ifs, s_while, s_for, s_ret, s_brk, s_cont, ss_nil, c_range1, c_range2, c_range3, i_rng, i_ref, i_tup, i_enm, i_rev, bt_name, bt_tup, look_zero, look_succ, r_next, r_ret, sa_nil, sa_cons, es_nil, es_cons, o_none, o_some, ts_nil, ts_cons, c_lt, c_le, c_gt, c_ge, c_eq, c_ne, b_add, b_sub, b_mul, b_div, b_mod, b_pow, b_shr, a_add, a_mul, t_bool, t_int, List.map, List.cons_append, List.nil_append, List.getElem?_cons_succ, List.getElem?_cons_zero, List.set_cons_succ, List.set_cons_zero, frOf]); (repeat (first | with_reducible refine q_nextI ?_ | with_reducible refine q_retI ?_ | with_reducible refine q_contI ?_ | with_reducible refine q_brkI ?_ | with_reducible refine ss_nilI ?_ | rw [q_next] | rw [q_ret] | rw [q_cont] | rw [q_brk] | rw [ss_nil])); (try simp only [r_next, r_ret])); exact k) fun σ6 gr x6 f6 g6 => ?_
  rw [List.map_take, stab_neg] at g6
  have ha6 := x6.listAt (x5.listAt (x4.listAt ha3))
  ((try simp only [e_int, e_bool, e_none, e_str, e_var, e_bin, e_neg, n_int, e_not, e_cmp, e_and, e_or, e_ite, e_sub, e_slice, e_list, e_tuple, e_call, e_ucall, e_meth, e_comp, e_gfn, e_vcall, e_sortk, e_mink, e_ucalld, e_ucallk, s_forx, s_tryLen, s_zipc, t_not, t_and, t_or, t_cmp, t_var, t_sub, t_call, t_ucall, s_expr, s_assign, s_setitem, s_aug, s_augi, s_ifs, s_while, s_for, s_ret, s_brk, s_cont, ss_nil, c_range1, c_range2, c_range3, i_rng, i_ref, i_tup, i_enm, i_rev, bt_name, bt_tup, look_zero, look_succ, r_next, r_ret, sa_nil, sa_cons, es_nil, es_cons, o_none, o_some, ts_nil, ts_cons, c_lt, c_le, c_gt, c_ge, c_eq, c_ne, b_add, b_sub, b_mul, b_div, b_mod, b_pow, b_shr, a_add, a_mul, t_bool, t_int, List.map, List.cons_append, List.nil_append, List.getElem?_cons_succ, List.getElem?_cons_zero, List.set_cons_succ, List.set_cons_zero, frOf]); (repeat (first | with_reducible refine q_nextI ?_ | with_reducible refine q_retI ?_ | with_reducible refine q_contI ?_ | with_reducible refine q_brkI ?_ | with_reducible refine ss_nilI ?_ | rw [q_next] | rw [q_ret] | rw [q_cont] | rw [q_brk] | rw [ss_nil])); (try simp only [r_next, r_ret]))
  ((with_reducible refine go_cons ?_); ((try simp only [e_int, e_bool, e_none, e_str, e_var, e_bin, e_neg, n_int, e_not, e_cmp, e_and, e_or, e_ite, e_sub, e_slice, e_list, e_tuple, e_call, e_ucall, e_meth, e_comp, e_gfn, e_vcall, e_sortk, e_mink, e_ucalld, e_ucallk, s_forx, s_tryLen, s_zipc, t_not, t_and, t_or, t_cmp, t_var, t_sub, t_call, t_ucall, s_expr, s_assign, s_setitem, s_aug, s_augi, s_ifs, s_while, s_for, s_ret, s_brk, s_cont, ss_nil, c_range1, c_range2, c_range3, i_rng, i_ref, i_tup, i_enm, i_rev, bt_name, bt_tup, look_zero, look_succ, r_next, r_ret, sa_nil, sa_cons, es_nil, es_cons, o_none, o_some, ts_nil, ts_cons, c_lt, c_le, c_gt, c_ge, c_eq, c_ne, b_add, b_sub, b_mul, b_div, b_mod, b_pow, b_shr, a_add, a_mul, t_bool, t_int, List.map, List.cons_append, List.nil_append, List.getElem?_cons_succ, List.getElem?_cons_zero, List.set_cons_succ, List.set_cons_zero, frOf]); (repeat (first | with_reducible refine q_nextI ?_ | with_reducible refine q_retI ?_ | with_reducible refine q_contI ?_ | with_reducible refine q_brkI ?_ | with_reducible refine ss_nilI ?_ | rw [q_next] | rw [q_ret] | rw [q_cont] | rw [q_brk] | rw [ss_nil])); (try simp only [r_next, r_ret])))
  refine ⟨_, _, rfl, fun fd hfd => h4 _ _ _ (nsC_key (kf := fun x => -x) (fun x σ Q q => hT fd _ hfd _ _ _ ⟨x, rfl, q⟩) (by omega) (by omega) (by omega) (by omega) (.list ha6) fun c' σ7 x7 f7 g7 => ?_)⟩
  ((try simp only [e_int, e_bool, e_none, e_str, e_var, e_bin, e_neg, n_int, e_not, e_cmp, e_and, e_or, e_ite, e_sub, e_slice, e_list, e_tuple, e_call, e_ucall, e_meth, e_comp, e_gfn, e_vcall, e_sortk, e_mink, e_ucalld, e_ucallk, s_forx, s_tryLen, s_zipc, t_not, t_and, t_or, t_cmp, t_var, t_sub, t_call, t_ucall, s_expr, s_assign, s_setitem, s_aug, s_augi, s_ifs, s_while, s_for, s_ret, s_brk, s_cont, ss_nil, c_range1, c_range2, c_range3, i_rng, i_ref, i_tup, i_enm, i_rev, bt_name, bt_tup, look_zero, look_succ, r_next, r_ret, sa_nil, sa_cons, es_nil, es_cons, o_none, o_some, ts_nil, ts_cons, c_lt, c_le, c_gt, c_ge, c_eq, c_ne, b_add, b_sub, b_mul, b_div, b_mod, b_pow, b_shr, a_add, a_mul, t_bool, t_int, List.map, List.cons_append, List.nil_append, List.getElem?_cons_succ, List.getElem?_cons_zero, List.set_cons_succ, List.set_cons_zero, frOf]); (repeat (first | with_reducible refine q_nextI ?_ | with_reducible refine q_retI ?_ | with_reducible refine q_contI ?_ | with_reducible refine q_brkI ?_ | with_reducible refine ss_nilI ?_ | rw [q_next] | rw [q_ret] | rw [q_cont] | rw [q_brk] | rw [ss_nil])); (try simp only [r_next, r_ret]))
  refine isDat_int.ne (listAt_list g7) (x7.ls _ _ (listAt_list g6)) ?_
  ((try simp only [e_int, e_bool, e_none, e_str, e_var, e_bin, e_neg, n_int, e_not, e_cmp, e_and, e_or, e_ite, e_sub, e_slice, e_list, e_tuple, e_call, e_ucall, e_meth, e_comp, e_gfn, e_vcall, e_sortk, e_mink, e_ucalld, e_ucallk, s_forx, s_tryLen, s_zipc, t_not, t_and, t_or, t_cmp, t_var, t_sub, t_call, t_ucall, s_expr, s_assign, s_setitem, s_aug, s_augi, s_ifs, s_while, s_for, s_ret, s_brk, s_cont, ss_nil, c_range1, c_range2, c_range3, i_rng, i_ref, i_tup, i_enm, i_rev, bt_name, bt_tup, look_zero, look_succ, r_next, r_ret, sa_nil, sa_cons, es_nil, es_cons, o_none, o_some, ts_nil, ts_cons, c_lt, c_le, c_gt, c_ge, c_eq, c_ne, b_add, b_sub, b_mul, b_div, b_mod, b_pow, b_shr, a_add, a_mul, t_bool, t_int, List.map, List.cons_append, List.nil_append, List.getElem?_cons_succ, List.getElem?_cons_zero, List.set_cons_succ, List.set_cons_zero, frOf]); (repeat (first | with_reducible refine q_nextI ?_ | with_reducible refine q_retI ?_ | with_reducible refine q_contI ?_ | with_reducible refine q_brkI ?_ | with_reducible refine ss_nilI ?_ | rw [q_next] | rw [q_ret] | rw [q_cont] | rw [q_brk] | rw [ss_nil])); (try simp only [r_next, r_ret]))
  simp only [Bool.false_eq_true, if_false]
  ((try simp only [e_int, e_bool, e_none, e_str, e_var, e_bin, e_neg, n_int, e_not, e_cmp, e_and, e_or, e_ite, e_sub, e_slice, e_list, e_tuple, e_call, e_ucall, e_meth, e_comp, e_gfn, e_vcall, e_sortk, e_mink, e_ucalld, e_ucallk, s_forx, s_tryLen, s_zipc, t_not, t_and, t_or, t_cmp, t_var, t_sub, t_call, t_ucall, s_expr, s_assign, s_setitem, s_aug, s_augi, s_ifs, s_while, s_for, s_ret, s_brk, s_cont, ss_nil, c_range1, c_range2, c_range3, i_rng, i_ref, i_tup, i_enm, i_rev, bt_name, bt_tup, look_zero, look_succ, r_next, r_ret, sa_nil, sa_cons, es_nil, es_cons, o_none, o_some, ts_nil, ts_cons, c_lt, c_le, c_gt, c_ge, c_eq, c_ne, b_add, b_sub, b_mul, b_div, b_mod, b_pow, b_shr, a_add, a_mul, t_bool, t_int, List.map, List.cons_append, List.nil_append, List.getElem?_cons_succ, List.getElem?_cons_zero, List.set_cons_succ, List.set_cons_zero, frOf]); (repeat (first | with_reducible refine q_nextI ?_ | with_reducible refine q_retI ?_ | with_reducible refine q_contI ?_ | with_reducible refine q_brkI ?_ | with_reducible refine ss_nilI ?_ | rw [q_next] | rw [q_ret] | rw [q_cont] | rw [q_brk] | rw [ss_nil])); (try simp only [r_next, r_ret]))
  ((with_reducible refine go_cons ?_); ((try simp only [e_int, e_bool, e_none, e_str, e_var, e_bin, e_neg, n_int, e_not, e_cmp, e_and, e_or, e_ite, e_sub, e_slice, e_list, e_tuple, e_call, e_ucall, e_meth, e_comp, e_gfn, e_vcall, e_sortk, e_mink, e_ucalld, e_ucallk, s_forx, s_tryLen, s_zipc, t_not, t_and, t_or, t_cmp, t_var, t_sub, t_call, t_ucall, s_expr, s_assign, s_setitem, s_aug, s_augi, s_ifs, s_while, s_for, s_ret, s_brk, s_cont, ss_nil, c_range1, c_range2, c_range3, i_rng, i_ref, i_tup, i_enm, i_rev, bt_name, bt_tup, look_zero, look_succ, r_next, r_ret, sa_nil, sa_cons, es_nil, es_cons, o_none, o_some, ts_nil, ts_cons, c_lt, c_le, c_gt, c_ge, c_eq, c_ne, b_add, b_sub, b_mul, b_div, b_mod, b_pow, b_shr, a_add, a_mul, t_bool, t_int, List.map, List.cons_append, List.nil_append, List.getElem?_cons_succ, List.getElem?_cons_zero, List.set_cons_succ, List.set_cons_zero, frOf]); (repeat (first | with_reducible refine q_nextI ?_ | with_reducible refine q_retI ?_ | with_reducible refine q_contI ?_ | with_reducible refine q_brkI ?_ | with_reducible refine ss_nilI ?_ | rw [q_next] | rw [q_ret] | rw [q_cont] | rw [q_brk] | rw [ss_nil])); (try simp only [r_next, r_ret])))
  refine call_iter_list (x7.ls _ _ ha6) fun it' hit' => ?_
  have x7' := x7.trans (.new (.iter (some ra) 0) hit')
  refine ⟨_, _, rfl, fun fd hfd => h4 _ _ _ (nsC_key (kf := fun x => -x) (fun x σ Q q => hT fd _ hfd _ _ _ ⟨x, rfl, q⟩) (by omega) (by omega) (by omega) (by omega) (.iter (upd_same _ _ _) (x7'.ls _ _ ha6)) fun c8 σ8 x8 f8 g8 => ?_)⟩
  have x8' := x7'.trans x8
  ((try simp only [e_int, e_bool, e_none, e_str, e_var, e_bin, e_neg, n_int, e_not, e_cmp, e_and, e_or, e_ite, e_sub, e_slice, e_list, e_tuple, e_call, e_ucall, e_meth, e_comp, e_gfn, e_vcall, e_sortk, e_mink, e_ucalld, e_ucallk, s_forx, s_tryLen, s_zipc, t_not, t_and, t_or, t_cmp, t_var, t_sub, t_call, t_ucall, s_expr, s_assign, s_setitem, s_aug, s_augi, s_ifs, s_while, s_for, s_ret, s_brk, s_cont, ss_nil, c_range1, c_range2, c_range3, i_rng, i_ref, i_tup, i_enm, i_rev, bt_name, bt_tup, look_zero, look_succ, r_next, r_ret, sa_nil, sa_cons, es_nil, es_cons, o_none, o_some, ts_nil, ts_cons, c_lt, c_le, c_gt, c_ge, c_eq, c_ne, b_add, b_sub, b_mul, b_div, b_mod, b_pow, b_shr, a_add, a_mul, t_bool, t_int, List.map, List.cons_append, List.nil_append, List.getElem?_cons_succ, List.getElem?_cons_zero, List.set_cons_succ, List.set_cons_zero, frOf]); (repeat (first | with_reducible refine q_nextI ?_ | with_reducible refine q_retI ?_ | with_reducible refine q_contI ?_ | with_reducible refine q_brkI ?_ | with_reducible refine ss_nilI ?_ | rw [q_next] | rw [q_ret] | rw [q_cont] | rw [q_brk] | rw [ss_nil])); (try simp only [r_next, r_ret]))
  refine isDat_int.eq (listAt_list g8) (x8'.ls _ _ (listAt_list g6)) ?_
  ((try simp only [e_int, e_bool, e_none, e_str, e_var, e_bin, e_neg, n_int, e_not, e_cmp, e_and, e_or, e_ite, e_sub, e_slice, e_list, e_tuple, e_call, e_ucall, e_meth, e_comp, e_gfn, e_vcall, e_sortk, e_mink, e_ucalld, e_ucallk, s_forx, s_tryLen, s_zipc, t_not, t_and, t_or, t_cmp, t_var, t_sub, t_call, t_ucall, s_expr, s_assign, s_setitem, s_aug, s_augi, s_ifs, s_while, s_for, s_ret, s_brk, s_cont, ss_nil, c_range1, c_range2, c_range3, i_rng, i_ref, i_tup, i_enm, i_rev, bt_name, bt_tup, look_zero, look_succ, r_next, r_ret, sa_nil, sa_cons, es_nil, es_cons, o_none, o_some, ts_nil, ts_cons, c_lt, c_le, c_gt, c_ge, c_eq, c_ne, b_add, b_sub, b_mul, b_div, b_mod, b_pow, b_shr, a_add, a_mul, t_bool, t_int, List.map, List.cons_append, List.nil_append, List.getElem?_cons_succ, List.getElem?_cons_zero, List.set_cons_succ, List.set_cons_zero, frOf]); (repeat (first | with_reducible refine q_nextI ?_ | with_reducible refine q_retI ?_ | with_reducible refine q_contI ?_ | with_reducible refine q_brkI ?_ | with_reducible refine ss_nilI ?_ | rw [q_next] | rw [q_ret] | rw [q_cont] | rw [q_brk] | rw [ss_nil])); (try simp only [r_next, r_ret]))
theorem ps_law11_eq : ps_law11 = .assign (.name 1) (.bin .Add (.list [(.int 3), (.neg (.int 1)), (.int 4)]) (.comp [none, none, some 0] (.call .sum [(.slice (.var 2) (some (.var 1)) none (some (.int 20)))]) (.name 1) .plain (.call .range [(.call .min [(.call .len [(.var 0)]), (.int 20)])]) [])) :: .ifs (.cmp .Eq (.bin .Mod (.call .len [(.var 0)]) (.int 2)) (.int 1)) [.assign (.name 1) (.comp [none, none] (.bin .Mod (.var 1) (.int 5)) (.name 1) .plain (.var 1) [])] [] :: ps_law11b := rfl
theorem law11_v (Φ : Fns) (KC : FuncData → List V → (V → Hp → Prop) → Hp → Prop) (h4 : ∀ args Q σ, nsC KC args Q σ → Φ 4 args Q σ) (h5 : ∀ args Q σ, leastC args Q σ → Φ 5 args Q σ) (hT : ∀ fd σ, Φ 1001 [.int 6, .func fd] (fun _ _ => True) σ → ∀ args Q σ, turnedI args Q σ → KC fd args Q σ)
    (l : Addr) (ns : List Int) (hns : ns.length ≤ 63) (σ : Hp) (hl : listAt σ l = some (ns.map .int)) : vSs Φ ps_law11 (retV fun v _ => v = .bool true) [some (.ref l), none, none, none, none] σ := by
  have hbn : ns.length ≤ BIG := big_of (by omega)
  rw [ps_law11_eq]
  ((with_reducible refine go_cons ?_); ((try simp only [e_int, e_bool, e_none, e_str, e_var, e_bin, e_neg, n_int, e_not, e_cmp, e_and, e_or, e_ite, e_sub, e_slice, e_list, e_tuple, e_call, e_ucall, e_meth, e_comp, e_gfn, e_vcall, e_sortk, e_mink, e_ucalld, e_ucallk, s_forx, s_tryLen, s_zipc, t_not, t_and, t_or, t_cmp, t_var, t_sub, t_call, t_ucall, s_expr, s_assign, s_setitem, s_aug, s_augi, s_ifs, s_while, s_for, s_ret, s_brk, s_cont, ss_nil, c_range1, c_range2, c_range3, i_rng, i_ref, i_tup, i_enm, i_rev, bt_name, bt_tup, look_zero, look_succ, r_next, r_ret, sa_nil, sa_cons, es_nil, es_cons, o_none, o_some, ts_nil, ts_cons, c_lt, c_le, c_gt, c_ge, c_eq, c_ne, b_add, b_sub, b_mul, b_div, b_mod, b_pow, b_shr, a_add, a_mul, t_bool, t_int, List.map, List.cons_append, List.nil_append, List.getElem?_cons_succ, List.getElem?_cons_zero, List.set_cons_succ, List.set_cons_zero, frOf]); (repeat (first | with_reducible refine q_nextI ?_ | with_reducible refine q_retI ?_ | with_reducible refine q_contI ?_ | with_reducible refine q_brkI ?_ | with_reducible refine ss_nilI ?_ | rw [q_next] | rw [q_ret] | rw [q_cont] | rw [q_brk] | rw [ss_nil])); (try simp only [r_next, r_ret])))
  refine ⟨big_of (n := 3) (by decide), fun b hb => ?_⟩
  have hl1 := (Ext.upd (.list [.int 3, .int (-1), .int 4]) hb).listAt hl
  have g1 : upd σ b (.list [.int 3, .int (-1), .int 4]) b = some (.list (([3, -1, 4] : List Int).map V.int)) := upd_same _ _ _
  generalize upd σ b (.list [.int 3, .int (-1), .int 4]) = σ1 at hl1 g1
  refine call_len hl1 ?_
  rw [List.length_map]
  refine call_min ?_
  generalize hm : (if (20 : Int) < ns.length then (20 : Int) else ns.length) = m
  have hm1 : 0 ≤ m ∧ m ≤ 20 := by subst hm; split <;> omega
  ((try simp only [e_int, e_bool, e_none, e_str, e_var, e_bin, e_neg, n_int, e_not, e_cmp, e_and, e_or, e_ite, e_sub, e_slice, e_list, e_tuple, e_call, e_ucall, e_meth, e_comp, e_gfn, e_vcall, e_sortk, e_mink, e_ucalld, e_ucallk, s_forx, s_tryLen, s_zipc, t_not, t_and, t_or, t_cmp, t_var, t_sub, t_call, t_ucall, s_expr, s_assign, s_setitem, s_aug, s_augi, s_ifs, s_while, s_for, s_ret, s_brk, s_cont, ss_nil, c_range1, c_range2, c_range3, i_rng, i_ref, i_tup, i_enm, i_rev, bt_name, bt_tup, look_zero, look_succ, r_next, r_ret, sa_nil, sa_cons, es_nil, es_cons, o_none, o_some, ts_nil, ts_cons, c_lt, c_le, c_gt, c_ge, c_eq, c_ne, b_add, b_sub, b_mul, b_div, b_mod, b_pow, b_shr, a_add, a_mul, t_bool, t_int, List.map, List.cons_append, List.nil_append, List.getElem?_cons_succ, List.getElem?_cons_zero, List.set_cons_succ, List.set_cons_zero, frOf]); (repeat (first | with_reducible refine q_nextI ?_ | with_reducible refine q_retI ?_ | with_reducible refine q_contI ?_ | with_reducible refine q_brkI ?_ | with_reducible refine ss_nilI ?_ | rw [q_next] | rw [q_ret] | rw [q_cont] | rw [q_brk] | rw [ss_nil])); (try simp only [r_next, r_ret]))
  refine ⟨rok_of (by omega) (by omega) (by omega) (by omega), ?_⟩
  have rl : rlen 0 m 1 = m.toNat := by unfold rlen; simp
  rw [rl]
  refine comp_rule (xs := (List.range m.toNat).map fun (i : Nat) => V.int (0 + (i : Int) * 1)) (fun v => match v with | .int i => some (.int (pickI ns (some i) none (some 20)).sum) | _ => none) (big_of (by simp; omega)) (yields_rng _ _ _ _) ?_ ?_
  · intro y my τ hE K N hK hN
    obtain ⟨i, mi, rfl⟩ := List.mem_map.mp my
    ((try simp only [e_int, e_bool, e_none, e_str, e_var, e_bin, e_neg, n_int, e_not, e_cmp, e_and, e_or, e_ite, e_sub, e_slice, e_list, e_tuple, e_call, e_ucall, e_meth, e_comp, e_gfn, e_vcall, e_sortk, e_mink, e_ucalld, e_ucallk, s_forx, s_tryLen, s_zipc, t_not, t_and, t_or, t_cmp, t_var, t_sub, t_call, t_ucall, s_expr, s_assign, s_setitem, s_aug, s_augi, s_ifs, s_while, s_for, s_ret, s_brk, s_cont, ss_nil, c_range1, c_range2, c_range3, i_rng, i_ref, i_tup, i_enm, i_rev, bt_name, bt_tup, look_zero, look_succ, r_next, r_ret, sa_nil, sa_cons, es_nil, es_cons, o_none, o_some, ts_nil, ts_cons, c_lt, c_le, c_gt, c_ge, c_eq, c_ne, b_add, b_sub, b_mul, b_div, b_mod, b_pow, b_shr, a_add, a_mul, t_bool, t_int, List.map, List.cons_append, List.nil_append, List.getElem?_cons_succ, List.getElem?_cons_zero, List.set_cons_succ, List.set_cons_zero, frOf]); (repeat (first | with_reducible refine q_nextI ?_ | with_reducible refine q_retI ?_ | with_reducible refine q_contI ?_ | with_reducible refine q_brkI ?_ | with_reducible refine ss_nilI ?_ | rw [q_next] | rw [q_ret] | rw [q_cont] | rw [q_brk] | rw [ss_nil])); (try simp only [r_next, r_ret]))
    simp only [if_true]
    refine slice_sum (hE.listAt hl1) hbn (by omega) (by omega) fun τ' x' => ?_
    exact hK _ _ rfl x'
  · intro τ hE c hc
    have e1 : ((List.range m.toNat).map fun (i : Nat) => V.int (0 + (i : Int) * 1)).filterMap (fun v => match v with | .int i => some (V.int (pickI ns (some i) none (some 20)).sum) | _ => none) = ((List.range m.toNat).map fun (i : Nat) => (pickI ns (some (0 + (i : Int) * 1)) none (some 20)).sum).map V.int := by
      rw [List.filterMap_map, List.map_map]
      exact fm_some _ fun t _ => rfl
    rw [e1]
    generalize hss : ((List.range m.toNat).map fun (i : Nat) => (pickI ns (some (0 + (i : Int) * 1)) none (some 20)).sum) = ss
    have hsl : ss.length ≤ 20 := by subst hss; simp; omega
    have bc : b ≠ c := by rintro rfl; rw [hE _ _ g1] at hc; cases hc
    refine add_lists (xs := ([3, -1, 4] : List Int).map V.int) (listAt_ne (listAt_list (hE _ _ g1)) bc) (listAt_list (upd_same _ _ _)) ?_
    rw [← List.map_append]
    refine ⟨by rw [List.length_map, List.length_append]; exact big_of (by simp; omega), fun ra hra => ?_⟩
    have hl2 := (Ext.upd (.list (([3, -1, 4] ++ ss).map V.int)) hra).listAt ((Ext.upd (.list (ss.map V.int)) hc).listAt (hE.listAt hl1))
    have g2 : listAt (upd (upd τ c (.list (ss.map V.int))) ra (.list (([3, -1, 4] ++ ss).map V.int))) ra = some ((([3, -1, 4] : List Int) ++ ss).map V.int) := listAt_list (upd_same _ _ _)
    have h3 : 3 ≤ (([3, -1, 4] : List Int) ++ ss).length := by simp
    have h23 : (([3, -1, 4] : List Int) ++ ss).length ≤ 23 := by simp; omega
    generalize ([3, -1, 4] : List Int) ++ ss = xs at *
    generalize upd (upd τ c (.list (ss.map V.int))) ra (.list (xs.map V.int)) = σ2 at hl2 g2
    ((try simp only [e_int, e_bool, e_none, e_str, e_var, e_bin, e_neg, n_int, e_not, e_cmp, e_and, e_or, e_ite, e_sub, e_slice, e_list, e_tuple, e_call, e_ucall, e_meth, e_comp, e_gfn, e_vcall, e_sortk, e_mink, e_ucalld, e_ucallk, s_forx, s_tryLen, s_zipc, t_not, t_and, t_or, t_cmp, t_var, t_sub, t_call, t_ucall, s_expr, s_assign, s_setitem, s_aug, s_augi, s_ifs, s_while, s_for, s_ret, s_brk, s_cont, ss_nil, c_range1, c_range2, c_range3, i_rng, i_ref, i_tup, i_enm, i_rev, bt_name, bt_tup, look_zero, look_succ, r_next, r_ret, sa_nil, sa_cons, es_nil, es_cons, o_none, o_some, ts_nil, ts_cons, c_lt, c_le, c_gt, c_ge, c_eq, c_ne, b_add, b_sub, b_mul, b_div, b_mod, b_pow, b_shr, a_add, a_mul, t_bool, t_int, List.map, List.cons_append, List.nil_append, List.getElem?_cons_succ, List.getElem?_cons_zero, List.set_cons_succ, List.set_cons_zero, frOf]); (repeat (first | with_reducible refine q_nextI ?_ | with_reducible refine q_retI ?_ | with_reducible refine q_contI ?_ | with_reducible refine q_brkI ?_ | with_reducible refine ss_nilI ?_ | rw [q_next] | rw [q_ret] | rw [q_cont] | rw [q_brk] | rw [ss_nil])); (try simp only [r_next, r_ret]))
    ((with_reducible refine go_cons ?_); ((try simp only [e_int, e_bool, e_none, e_str, e_var, e_bin, e_neg, n_int, e_not, e_cmp, e_and, e_or, e_ite, e_sub, e_slice, e_list, e_tuple, e_call, e_ucall, e_meth, e_comp, e_gfn, e_vcall, e_sortk, e_mink, e_ucalld, e_ucallk, s_forx, s_tryLen, s_zipc, t_not, t_and, t_or, t_cmp, t_var, t_sub, t_call, t_ucall, s_expr, s_assign, s_setitem, s_aug, s_augi, s_ifs, s_while, s_for, s_ret, s_brk, s_cont, ss_nil, c_range1, c_range2, c_range3, i_rng, i_ref, i_tup, i_enm, i_rev, bt_name, bt_tup, look_zero, look_succ, r_next, r_ret, sa_nil, sa_cons, es_nil, es_cons, o_none, o_some, ts_nil, ts_cons, c_lt, c_le, c_gt, c_ge, c_eq, c_ne, b_add, b_sub, b_mul, b_div, b_mod, b_pow, b_shr, a_add, a_mul, t_bool, t_int, List.map, List.cons_append, List.nil_append, List.getElem?_cons_succ, List.getElem?_cons_zero, List.set_cons_succ, List.set_cons_zero, frOf]); (repeat (first | with_reducible refine q_nextI ?_ | with_reducible refine q_retI ?_ | with_reducible refine q_contI ?_ | with_reducible refine q_brkI ?_ | with_reducible refine ss_nilI ?_ | rw [q_next] | rw [q_ret] | rw [q_cont] | rw [q_brk] | rw [ss_nil])); (try simp only [r_next, r_ret])))
    refine call_len hl2 ?_
    rw [List.length_map]
    ((try simp only [e_int, e_bool, e_none, e_str, e_var, e_bin, e_neg, n_int, e_not, e_cmp, e_and, e_or, e_ite, e_sub, e_slice, e_list, e_tuple, e_call, e_ucall, e_meth, e_comp, e_gfn, e_vcall, e_sortk, e_mink, e_ucalld, e_ucallk, s_forx, s_tryLen, s_zipc, t_not, t_and, t_or, t_cmp, t_var, t_sub, t_call, t_ucall, s_expr, s_assign, s_setitem, s_aug, s_augi, s_ifs, s_while, s_for, s_ret, s_brk, s_cont, ss_nil, c_range1, c_range2, c_range3, i_rng, i_ref, i_tup, i_enm, i_rev, bt_name, bt_tup, look_zero, look_succ, r_next, r_ret, sa_nil, sa_cons, es_nil, es_cons, o_none, o_some, ts_nil, ts_cons, c_lt, c_le, c_gt, c_ge, c_eq, c_ne, b_add, b_sub, b_mul, b_div, b_mod, b_pow, b_shr, a_add, a_mul, t_bool, t_int, List.map, List.cons_append, List.nil_append, List.getElem?_cons_succ, List.getElem?_cons_zero, List.set_cons_succ, List.set_cons_zero, frOf]); (repeat (first | with_reducible refine q_nextI ?_ | with_reducible refine q_retI ?_ | with_reducible refine q_contI ?_ | with_reducible refine q_brkI ?_ | with_reducible refine ss_nilI ?_ | rw [q_next] | rw [q_ret] | rw [q_cont] | rw [q_brk] | rw [ss_nil])); (try simp only [r_next, r_ret]))
    refine ⟨by decide, ?_⟩
    cases hodd : ((ns.length : Int).fmod 2 == 1) with
    | false =>
      simp only [Bool.false_eq_true, if_false]
      ((try simp only [e_int, e_bool, e_none, e_str, e_var, e_bin, e_neg, n_int, e_not, e_cmp, e_and, e_or, e_ite, e_sub, e_slice, e_list, e_tuple, e_call, e_ucall, e_meth, e_comp, e_gfn, e_vcall, e_sortk, e_mink, e_ucalld, e_ucallk, s_forx, s_tryLen, s_zipc, t_not, t_and, t_or, t_cmp, t_var, t_sub, t_call, t_ucall, s_expr, s_assign, s_setitem, s_aug, s_augi, s_ifs, s_while, s_for, s_ret, s_brk, s_cont, ss_nil, c_range1, c_range2, c_range3, i_rng, i_ref, i_tup, i_enm, i_rev, bt_name, bt_tup, look_zero, look_succ, r_next, r_ret, sa_nil, sa_cons, es_nil, es_cons, o_none, o_some, ts_nil, ts_cons, c_lt, c_le, c_gt, c_ge, c_eq, c_ne, b_add, b_sub, b_mul, b_div, b_mod, b_pow, b_shr, a_add, a_mul, t_bool, t_int, List.map, List.cons_append, List.nil_append, List.getElem?_cons_succ, List.getElem?_cons_zero, List.set_cons_succ, List.set_cons_zero, frOf]); (repeat (first | with_reducible refine q_nextI ?_ | with_reducible refine q_retI ?_ | with_reducible refine q_contI ?_ | with_reducible refine q_brkI ?_ | with_reducible refine ss_nilI ?_ | rw [q_next] | rw [q_ret] | rw [q_cont] | rw [q_brk] | rw [ss_nil])); (try simp only [r_next, r_ret]))
      exact law11b_v Φ KC h4 h5 hT l ra ns xs hns h3 h23 σ2 hl2 g2
    | true =>
      simp only [if_true]
      ((with_reducible refine go_cons ?_); ((try simp only [e_int, e_bool, e_none, e_str, e_var, e_bin, e_neg, n_int, e_not, e_cmp, e_and, e_or, e_ite, e_sub, e_slice, e_list, e_tuple, e_call, e_ucall, e_meth, e_comp, e_gfn, e_vcall, e_sortk, e_mink, e_ucalld, e_ucallk, s_forx, s_tryLen, s_zipc, t_not, t_and, t_or, t_cmp, t_var, t_sub, t_call, t_ucall, s_expr, s_assign, s_setitem, s_aug, s_augi, s_ifs, s_while, s_for, s_ret, s_brk, s_cont, ss_nil, c_range1, c_range2, c_range3, i_rng, i_ref, i_tup, i_enm, i_rev, bt_name, bt_tup, look_zero, look_succ, r_next, r_ret, sa_nil, sa_cons, es_nil, es_cons, o_none, o_some, ts_nil, ts_cons, c_lt, c_le, c_gt, c_ge, c_eq, c_ne, b_add, b_sub, b_mul, b_div, b_mod, b_pow, b_shr, a_add, a_mul, t_bool, t_int, List.map, List.cons_append, List.nil_append, List.getElem?_cons_succ, List.getElem?_cons_zero, List.set_cons_succ, List.set_cons_zero, frOf]); (repeat (first | with_reducible refine q_nextI ?_ | with_reducible refine q_retI ?_ | with_reducible refine q_contI ?_ | with_reducible refine q_brkI ?_ | with_reducible refine ss_nilI ?_ | rw [q_next] | rw [q_ret] | rw [q_cont] | rw [q_brk] | rw [ss_nil])); (try simp only [r_next, r_ret])))
      refine ⟨⟨_, g2⟩, ?_⟩
      refine comp_ints g2 (big_of (by omega)) (fun x => x.fmod 5) (fun x τ K k => by ((try simp only [e_int, e_bool, e_none, e_str, e_var, e_bin, e_neg, n_int, e_not, e_cmp, e_and, e_or, e_ite, e_sub, e_slice, e_list, e_tuple, e_call, e_ucall, e_meth, e_comp, e_gfn, e_vcall, e_sortk, e_mink, e_ucalld, e_ucallk, s_forx, s_tryLen, s_zipc, t_not, t_and, t_or, t_cmp, t_var, t_sub, t_call, t_ucall, s_expr, s_assign, s_setitem, s_aug, s_augi, s_ifs, s_while, s_for, s_ret, s_brk, s_cont, ss_nil, c_range1, c_range2, c_range3, i_rng, i_ref, i_tup, i_enm, i_rev, bt_name, bt_tup, look_zero, look_succ, r_next, r_ret, sa_nil, sa_cons, es_nil, es_cons, o_none, o_some, ts_nil, ts_cons, c_lt, c_le, c_gt, c_ge, c_eq, c_ne, b_add, b_sub, b_mul, b_div, b_mod, b_pow, b_shr, a_add, a_mul, t_bool, t_int, List.map, List.cons_append, List.nil_append, List.getElem?_cons_succ, List.getElem?_cons_zero, List.set_cons_succ, List.set_cons_zero, frOf]); (repeat (first | with_reducible refine q_nextI ?_ | with_reducible refine q_retI ?_ | with_reducible refine q_contI ?_ | with_reducible refine q_brkI ?_ | with_reducible refine ss_nilI ?_ | rw [q_next] | rw [q_ret] | rw [q_cont] | rw [q_brk] | rw [ss_nil])); (try simp only [r_next, r_ret])); exact ⟨by decide, k⟩) fun σ3 e x3 f3 g3 => ?_
      ((try simp only [e_int, e_bool, e_none, e_str, e_var, e_bin, e_neg, n_int, e_not, e_cmp, e_and, e_or, e_ite, e_sub, e_slice, e_list, e_tuple, e_call, e_ucall, e_meth, e_comp, e_gfn, e_vcall, e_sortk, e_mink, e_ucalld, e_ucallk, s_forx, s_tryLen, s_zipc, t_not, t_and, t_or, t_cmp, t_var, t_sub, t_call, t_ucall, s_expr, s_assign, s_setitem, s_aug, s_augi, s_ifs, s_while, s_for, s_ret, s_brk, s_cont, ss_nil, c_range1, c_range2, c_range3, i_rng, i_ref, i_tup, i_enm, i_rev, bt_name, bt_tup, look_zero, look_succ, r_next, r_ret, sa_nil, sa_cons, es_nil, es_cons, o_none, o_some, ts_nil, ts_cons, c_lt, c_le, c_gt, c_ge, c_eq, c_ne, b_add, b_sub, b_mul, b_div, b_mod, b_pow, b_shr, a_add, a_mul, t_bool, t_int, List.map, List.cons_append, List.nil_append, List.getElem?_cons_succ, List.getElem?_cons_zero, List.set_cons_succ, List.set_cons_zero, frOf]); (repeat (first | with_reducible refine q_nextI ?_ | with_reducible refine q_retI ?_ | with_reducible refine q_contI ?_ | with_reducible refine q_brkI ?_ | with_reducible refine ss_nilI ?_ | rw [q_next] | rw [q_ret] | rw [q_cont] | rw [q_brk] | rw [ss_nil])); (try simp only [r_next, r_ret]))
      exact law11b_v Φ KC h4 h5 hT l e ns (xs.map fun x => x.fmod 5) hns (by rw [List.length_map]; exact h3) (by rw [List.length_map]; exact h23) σ3 (x3.listAt hl2) (listAt_list g3)

/-! GcN -/
/-- the end: the law answers True -/
theorem good_true {l : OpenLaw} {cl : Str → Option Addr} {mean : ExcName → Option Value} {args : List WData} {s₁ s' : Shared} {σ : Hp} {v : Value} (hg : s₁.gens = #[]) (p : PV s₁.heap σ s₁ (fun v _ => v = .bool true) v s') :
    GoodW l.row.claim cl mean args s₁ (.ok (.ret v)) s' := by
  obtain ⟨x, σ', r, ⟨st, m⟩, rfl⟩ := p
  cases r
  refine ⟨.inl ⟨.bool true, .bool true, [], rfl, fun cls => rfl, ?_, ?_, ?_⟩, st.w.stays, m.1, m.2.trans hg⟩
  · exact .bool true
  · exact postW_of (r := l.row.toRowW) (by simp only [OpenLaw.row]; unfold WShape.has; simp; exact ⟨.bool, by simp [WShape.arms], rfl⟩) (w_eq_bool (w_res rfl) w_lit) rfl
  · intro _; exact ⟨List.nodup_nil, fun a m => by cases m⟩
theorem len_cons {α : Type} {n : Nat} {l : List α} (h : l.length = n + 1) : ∃ a t, l = a :: t ∧ t.length = n := by
  cases l with
  | nil => cases h
  | cons a t => exact ⟨a, t, rfl, Nat.succ.inj h⟩
/-- the def at a place of the text -/
noncomputable def defAt (p : Program) (i : Nat) : Arguments × List Stmt × Scope := match p.main.body[i]? with
  | some (.FunctionDef _ a b _ _ _ sc _ _ _) => (a, b, sc)
  | _ => (⟨[], [], none, [], [], none, []⟩, [], ⟨.function, [], false, false, []⟩)
noncomputable def recIn (p : Program) (name : Str) : DefRec := match defOf p name with
  | some (d, _) => d
  | none => ⟨name, ⟨[], [], none, [], [], none, []⟩, [], ⟨.function, [], false, false, []⟩, ⟨0, 0, 0, 0⟩⟩
theorem FnOk.false {prog : Program} {w : World} {h₀ : Heap} {n : Nat} {fa : Addr} {o : Obj} {fd : FuncData} (ho : h₀.get? fa = some o) (hd : o.data = .func fd) : FnOk prog w h₀ n (.ref fa) (fun _ _ _ => False) :=
  ⟨fa, o, fd, rfl, ho, hd, fun _ _ _ _ _ _ _ _ _ _ _ _ _ _ _ _ f => f.elim⟩
noncomputable def Φs (l : List (List V → (V → Hp → Prop) → Hp → Prop)) : Fns := fun i => match l[i]? with | some C => C | none => fun _ _ _ => False
theorem bi_free {p : Program} {loose : List Str} {mean : ExcName → Option Value} {mg mb : Str → Option Value} {h : Heap} (T : Top p loose mean mg mb h)
    (hf : ∀ x ∈ freeNames, x ∉ startupNames ∧ x ∉ loose ∧ x ∉ (recsOf p).map (·.name) ∧ x ∉ (litsOf p).map (·.1) ∧ x ∉ (clssOf p loose).map (·.name)) :
    ∀ x ∈ freeNames, mg x = none := fun x hx => by
    obtain ⟨a, b, c, d, e⟩ := hf x hx; exact T.free x a b c d e
theorem dfl {mg : Str → Option Value} {h : Heap} {params : Arguments} {dV kV : Value} (D : Dflts mg h params [] dV kV) (hp : params.defaults = []) : dV = .none ∧ kV = .none := by
  refine ⟨?_, ?_⟩
  · rcases D.pos with ⟨_, e⟩ | ⟨n, _⟩
    · exact e
    · exact absurd hp n
  · rcases D.kw with ⟨_, e⟩ | ⟨n, _⟩
    · exact e
    · exact absurd rfl n
/-- a def with no defaults, as the ground shows it -/
noncomputable def Shown (mg : Str → Option Value) (h : Heap) (name : Str) (d : DefRec) : Prop :=
  ∃ a o pm cd doc, mg name = some (.ref a) ∧ h.get? a = some o ∧ o.data = .func { Calls.docDef d.name d.params d.body d.scope pm cd doc with defaults := .none, kwdefaults := .none } ∧ h.CodeRec cd d.name
theorem shown_of {p : Program} {loose : List Str} {R : WRecords} {XP : (Str → Option Value) → Heap → Prop} {w : World} {s₀ : Shared} {mg mb : Str → Option Value} {h : Heap}
    (G : Ground p loose R XP w s₀ mg mb h) (name : Str) (d : DefRec) (e : defOf p name = some (d, [])) (hp : d.params.defaults = []) : Shown mg h name d := by
  obtain ⟨a, o, pm, cd, doc, dV, kV, h1, h2, h3, h4, h5⟩ := G.fn e
  obtain ⟨rfl, rfl⟩ := dfl h5 hp
  exact ⟨a, o, pm, cd, doc, h1, h2, h3, h4⟩

/-! GcK -/
/-! the ground of laws with functions as values -/
noncomputable def noC : List V → (V → Hp → Prop) → Hp → Prop := fun _ _ _ => False
noncomputable def ΦK (l : List (List V → (V → Hp → Prop) → Hp → Prop)) (cv gv : List V → (V → Hp → Prop) → Hp → Prop) : Fns := fun i => if i = 1000 then cv else if i = 1001 then gv else Φs l i
noncomputable def cvC (fdH : FuncData) (KC : FuncData → List V → (V → Hp → Prop) → Hp → Prop) (args : List V) (Q : V → Hp → Prop) (σ : Hp) : Prop := ∃ fd rest, args = .func fd :: rest ∧ ((fd = fdH ∧ heapreplaceC rest Q σ) ∨ KC fd rest Q σ)
noncomputable def gvC (fdH fdT : FuncData) (iH iT : Int) (args : List V) (Q : V → Hp → Prop) (σ : Hp) : Prop := ∃ (i : Int) (fd : FuncData), args = [.int i, .func fd] ∧ (i = iH → fd = fdH) ∧ (i = iT → fd = fdT)
theorem FnOk.fd {prog : Program} {w : World} {h₀ : Heap} {n : Nat} {fa : Addr} {Φ : List V → (V → Hp → Prop) → Hp → Prop} {o : Obj} {fd : FuncData} (h : FnOk prog w h₀ n (.ref fa) Φ) (ho : h₀.get? fa = some o) (hd : o.data = .func fd) : FdOk prog w h₀ n fd Φ := by
  obtain ⟨fa', o', fd', e, a, b, call⟩ := h
  cases e
  rw [ho] at a; cases a
  rw [hd] at b; cases b
  exact call
theorem cv_ok {prog : Program} {w : World} {h₀ : Heap} {n : Nat} {fdH : FuncData} {KC : FuncData → List V → (V → Hp → Prop) → Hp → Prop} (h1 : FdOk prog w h₀ n fdH heapreplaceC) (h2 : ∀ fd, FdOk prog w h₀ n fd (KC fd)) (fd : FuncData) : FdOk prog w h₀ n fd (fun args Q σ => cvC fdH KC (.func fd :: args) Q σ) := by
  intro A s σ fa o ar vals args Q ho hd hb R fs hw ra v
  obtain ⟨fd', rest, e, v⟩ := v
  cases e
  rcases v with ⟨rfl, v⟩ | v
  · exact h1 A s σ fa o ar vals args Q ho hd hb R fs hw ra v
  · exact h2 fd A s σ fa o ar vals args Q ho hd hb R fs hw ra v
theorem cv_no {prog : Program} {w : World} {h₀ : Heap} {n : Nat} (fd : FuncData) : FdOk prog w h₀ n fd (fun args Q σ => noC (.func fd :: args) Q σ) := fun _ _ _ _ _ _ _ _ _ _ _ _ _ _ _ _ f => f.elim
noncomputable def only (fdT : FuncData) (C : List V → (V → Hp → Prop) → Hp → Prop) (fd : FuncData) (args : List V) (Q : V → Hp → Prop) (σ : Hp) : Prop := fd = fdT ∧ C args Q σ
theorem only_ok {prog : Program} {w : World} {h₀ : Heap} {n : Nat} {fdT : FuncData} {C : List V → (V → Hp → Prop) → Hp → Prop} (h : FdOk prog w h₀ n fdT C) (fd : FuncData) : FdOk prog w h₀ n fd (only fdT C fd) := by
  intro A s σ fa o ar vals args Q ho hd hb R fs hw ra ⟨e, v⟩
  subst e
  exact h A s σ fa o ar vals args Q ho hd hb R fs hw ra v
/-- how a call with a default is bound -/
noncomputable def BA (fd : FuncData) (ar : Args) (items : Array Value) (binds : List (Str × Value)) : Prop := ∃ k : Option (Array Value) → Sem (List (Str × Value)), bindArgs fd ar = seqItems? fd.defaults >>= k ∧ k (some items) = pure binds
theorem BA.to {s : Shared} {fd : FuncData} {ar : Args} {items : Array Value} {binds : List (Str × Value)} (h : BA fd ar items binds) {T : Addr} {o : Obj} {n : Nat} (hd : fd.defaults = .ref T) (ho : s.heap.get? T = some o) (hs : o.data = .seq items n) : BindsTo s fd ar binds := by
  obtain ⟨k, h1, h2⟩ := h
  exact BindsTo.of_defaults hd ho hs h1 h2
theorem BA.swap {s : Shared} {fd : FuncData} {ar ar' : Args} {items : Array Value} {binds : List (Str × Value)} (h : BA fd ar items binds) (h' : BA fd ar' items binds) {T : Addr} {o : Obj} {n : Nat} (hd : fd.defaults = .ref T) (ho : s.heap.get? T = some o) (hs : o.data = .seq items n) {b : List (Str × Value)} (hb : BindsTo s fd ar b) : BindsTo s fd ar' b := fun M A E Q q Γ p hΓ => by
  obtain ⟨k, h1, h2⟩ := h
  obtain ⟨k', h1', h2'⟩ := h'
  have := hb M A E Q q Γ p hΓ
  rw [h1, hd] at this
  rw [h1', hd]
  unfold seqItems? at this ⊢
  simp only [Sem.wp_bind', Sem.wp_load_of M Γ _ p s ho, hs, Sem.wp_pure'] at this ⊢
  rw [h2'] ; rw [h2] at this; exact this
/-- two sights of one def -/
theorem fd_uniq {mg : Str → Option Value} {h : Heap} {x : Str} {a a' : Addr} {o o' : Obj} {fd fd' : FuncData} (m : mg x = some (.ref a)) (m' : mg x = some (.ref a')) (g : h.get? a = some o) (g' : h.get? a' = some o') (d : o.data = .func fd) (d' : o'.data = .func fd') : fd' = fd := by
  rw [m] at m'; cases m'
  rw [g] at g'; cases g'
  rw [d] at d'; cases d'; rfl
/-- a def as the ground shows it -/
inductive AtDef (mg : Str → Option Value) (h₀ : Heap) (name : Str) (A : Arguments × List Stmt × Scope) (fns params : List Str) (ps : List PS) : Prop
  | mk (a : Addr) (o : Obj) (fd : FuncData) (m : mg name = some (.ref a)) (g : h₀.get? a = some o) (d : o.data = .func fd) (c : h₀.CodeRec fd.code fd.qualname) (p : fd.params = A.1) (s : fd.scope = A.2.2) (D : DefOk h₀ fd fns params A.2.1 ps) : AtDef mg h₀ name A fns params ps
inductive AtDefD (mg : Str → Option Value) (h₀ : Heap) (name : Str) (A : Arguments × List Stmt × Scope) (fns params : List Str) (ps : List PS) : Prop
  | mk (a : Addr) (o : Obj) (fd : FuncData) (m : mg name = some (.ref a)) (g : h₀.get? a = some o) (d : o.data = .func fd) (c : h₀.CodeRec fd.code fd.qualname) (p : fd.params = A.1) (s : fd.scope = A.2.2) (D : DefOk h₀ fd fns params A.2.1 ps) (T : Addr) (oT : Obj) (n : Nat) (t1 : fd.defaults = .ref T) (t2 : h₀.get? T = some oT) (t3 : oT.data = .seq #[.none] n) : AtDefD mg h₀ name A fns params ps
/-- a def whose one default is None, as the ground shows it -/
noncomputable def ShownD (mg : Str → Option Value) (h : Heap) (name : Str) (d : DefRec) : Prop :=
  ∃ a o pm cd doc T oT n, mg name = some (.ref a) ∧ h.get? a = some o ∧ o.data = .func { Calls.docDef d.name d.params d.body d.scope pm cd doc with defaults := .ref T, kwdefaults := .none } ∧ h.CodeRec cd d.name ∧ h.get? T = some oT ∧ oT.data = .seq #[.none] n
theorem shownD_of {p : Program} {loose : List Str} {R : WRecords} {XP : (Str → Option Value) → Heap → Prop} {w : World} {s₀ : Shared} {mg mb : Str → Option Value} {h : Heap}
    (G : Ground p loose R XP w s₀ mg mb h) (name : Str) (d : DefRec) (e : defOf p name = some (d, [])) (hp : ∃ e, d.params.defaults = [e] ∧ literalOfW? e = some .none) : ShownD mg h name d := by
  obtain ⟨a, o, pm, cd, doc, dV, kV, h1, h2, h3, h4, h5⟩ := G.fn e
  obtain ⟨e, he, hl⟩ := hp
  obtain ⟨D1, D2⟩ := h5
  have hk : kV = .none := by
    rcases D2 with ⟨_, e⟩ | ⟨n, _⟩
    · exact e
    · exact absurd rfl n
  subst hk
  rcases D1 with ⟨n, _⟩ | ⟨_, T, oT, vs, n, rfl, t1, t2, t3, t4⟩
  · rw [he] at n; cases n
  rw [he] at t4
  obtain ⟨l⟩ := vs
  cases t4 with
  | cons q r =>
    cases r
    refine ⟨a, o, pm, cd, doc, T, oT, n, h1, h2, h3, h4, t1, ?_⟩
    rcases q with ⟨d, x, rd⟩ | ⟨c, p, x, _⟩
    · rw [hl] at x; cases x
      cases rd
      exact t3
    · subst x; cases hl

/-! Hn11 -/
set_option Elab.async false
set_option maxHeartbeats 8000000
noncomputable def vw11 : Program := PySem.Challenge.rw_dm0137_11.row.prog
theorem said11 : OpenLaw.wellSaid PySem.Challenge.rw_dm0137_11 = true := by decide +kernel
theorem left11 : LeftO PySem.Challenge.rw_dm0137_11.row.toRowW.prog vw11 [] (fun s => xlAt vw11 [] s && recOk (RowW.records PySem.Challenge.rw_dm0137_11.row.toRowW) s) (Hook.obs Hook.none) (Hook.val Hook.none) 900 := fun w => by kernel_rfl
theorem deflaw11 : defOf vw11 "law" = some (recIn vw11 "law", []) := by kernel_rfl
theorem thelaw11 : vw11.theDef "law" = some ((recIn vw11 "law").params, (recIn vw11 "law").body, (recIn vw11 "law").scope) := by kernel_rfl
theorem kwlaw11 : kwWritten? (recIn vw11 "law").params.kwonlyargs (recIn vw11 "law").params.kw_defaults = some [] := by kernel_rfl
theorem hd11 (call : WalkO vw11 [] (XL vw11 []) (Hook.says Hook.none) PySem.Challenge.rw_dm0137_11.row.toRowW (recIn vw11 "law") [] fun f vs => PySem.call f vs) : PySem.Challenge.rw_dm0137_11.Holds :=
  holds_law said11 fun said => holds_open (q := vw11) (loose := []) (Xt := fun s => xlAt vw11 [] s && recOk (RowW.records PySem.Challenge.rw_dm0137_11.row.toRowW) s) (XP := XL vw11 []) (Yf := Hook.obs Hook.none) (Ya := Hook.val Hook.none) (YP := Hook.says Hook.none) (N := 900) left11 (Hook.of Hook.none) (Hook.keeps Hook.none)
    (fun s e => xl_of s (Bool.and_eq_true_iff.mp e).1) XL.keeps deflaw11 thelaw11 kwlaw11 (fun s e => recFacts_of (Bool.and_eq_true_iff.mp e).2) (by rfl) said (by decide +kernel) ⟨rfl, rfl, rfl, rfl, rfl, by decide +kernel⟩ (by w_witness2) call

/-! Go11 -/
noncomputable def fns11 : List Str := ["_siftdown_max", "_siftup_max", "_heapreplace_max", "_heapify_max", "nsmallest", "_law_least", "_law_turned", "law"]
theorem def_sd : defOf vw11 "_siftdown_max" = some ((recIn vw11 "_siftdown_max"), []) := by kernel_rfl
theorem bd_sd : (recIn vw11 "_siftdown_max").params = (defAt PySem.Challenge.pw_dm0137_11 3).1 ∧ (recIn vw11 "_siftdown_max").body = (defAt PySem.Challenge.pw_dm0137_11 3).2.1 ∧ (recIn vw11 "_siftdown_max").scope = (defAt PySem.Challenge.pw_dm0137_11 3).2.2 := ⟨by kernel_rfl, by kernel_rfl, by kernel_rfl⟩
theorem bind_sd (fd : FuncData) (h1 : fd.params = (defAt PySem.Challenge.pw_dm0137_11 3).1) (h2 : fd.defaults = .none) (h3 : fd.kwdefaults = .none) : ∀ vals : List Value, vals.length = (["heap", "startpos", "pos"] : List Str).length → bindArgs fd ⟨vals, []⟩ = pure ((["heap", "startpos", "pos"] : List Str).zip vals) := by
  intro vals hv
  obtain ⟨x0, t0, rfl, q0⟩ := len_cons (n := 2) hv
  obtain ⟨x1, t1, rfl, q1⟩ := len_cons (n := 1) q0
  obtain ⟨x2, t2, rfl, q2⟩ := len_cons (n := 0) q1
  obtain rfl := List.eq_nil_of_length_eq_zero q2
  unfold bindArgs
  rw [h1, h2, h3]
  rfl
theorem cs_sd : CSs { sc := (defAt PySem.Challenge.pw_dm0137_11 3).2.2.names, fns := fns11 } (defAt PySem.Challenge.pw_dm0137_11 3).2.1 ps_siftdown := by
  unfold ps_siftdown
  exact (CSs.cons (CS.assign rfl (by decide) (CE.sub (CE.var rfl (by decide) (by decide)) (CE.var rfl (by decide) (by decide)) (fun _ _ => rfl)) (fun _ => rfl)) (CSs.cons (CS.whil (CT.cmp (CE.var rfl (by decide) (by decide)) (CE.var rfl (by decide) (by decide)) rfl) (CSs.cons (CS.assign rfl (by decide) (CE.bin (CE.bin (CE.var rfl (by decide) (by decide)) CE.int) CE.int) (fun _ => rfl)) (CSs.cons (CS.assign rfl (by decide) (CE.sub (CE.var rfl (by decide) (by decide)) (CE.var rfl (by decide) (by decide)) (fun _ _ => rfl)) (fun _ => rfl)) (CSs.cons (CS.ifs (CT.cmp (CE.var rfl (by decide) (by decide)) (CE.var rfl (by decide) (by decide)) rfl) (CSs.cons (CS.setitem (CE.var rfl (by decide) (by decide)) (CE.var rfl (by decide) (by decide)) (CE.var rfl (by decide) (by decide)) (fun _ => rfl)) (CSs.cons (CS.assign rfl (by decide) (CE.var rfl (by decide) (by decide)) (fun _ => rfl)) (CSs.cons CS.cont CSs.nil))) CSs.nil) (CSs.cons CS.brk CSs.nil))))) (CSs.cons (CS.setitem (CE.var rfl (by decide) (by decide)) (CE.var rfl (by decide) (by decide)) (CE.var rfl (by decide) (by decide)) (fun _ => rfl)) CSs.nil)))
theorem fr_sd (a b c : V) : initF { sc := (defAt PySem.Challenge.pw_dm0137_11 3).2.2.names, fns := fns11 } (["heap", "startpos", "pos"] : List Str) [a, b, c] = [a, b, c].map some ++ [none, none, none] := by first | rfl | kernel_rfl
/-- the def as the ground shows it -/
theorem at_sd {mg : Str → Option Value} {h₀ : Heap} (h : Shown mg h₀ "_siftdown_max" (recIn vw11 "_siftdown_max")) : AtDef mg h₀ "_siftdown_max" (defAt PySem.Challenge.pw_dm0137_11 3) fns11 (["heap", "startpos", "pos"] : List Str) ps_siftdown := by
  obtain ⟨a, o, pm, cd, doc, h1, h2, h3, h4⟩ := h
  obtain ⟨e1, e2, e3⟩ := bd_sd
  refine ⟨a, o, _, h1, h2, h3, h4, e1, e3, ⟨congrArg FuncBody.stmts e2, fun s hs vals hv => BindsTo.of_eq (bind_sd _ e1 rfl rfl vals hv), rfl, rfl, rfl, ?_, ?_, ?_, ?_, ?_, ?_, by decide, ?_⟩⟩
  · show (recIn vw11 "_siftdown_max").scope.isCoroutine = false
    rw [e3]; rfl
  · show (recIn vw11 "_siftdown_max").scope.isGenerator = false
    rw [e3]; rfl
  · show (recIn vw11 "_siftdown_max").scope.kind = .function
    rw [e3]; rfl
  · show ((recIn vw11 "_siftdown_max").scope.names.map (·.1)).Nodup
    rw [e3]; decide +kernel
  · show ∀ x ∈ (recIn vw11 "_siftdown_max").scope.names, x.2 ≠ .free
    rw [e3]; decide +kernel
  · show ∀ x ∈ (["heap", "startpos", "pos"] : List Str), (recIn vw11 "_siftdown_max").scope.names.lookup x = some .local ∨ (recIn vw11 "_siftdown_max").scope.names.lookup x = some .cell
    rw [e3]; decide +kernel
  · show CSs { sc := (recIn vw11 "_siftdown_max").scope.names, fns := fns11 } _ _
    rw [e3]; exact cs_sd

theorem def_su : defOf vw11 "_siftup_max" = some ((recIn vw11 "_siftup_max"), []) := by kernel_rfl
theorem bd_su : (recIn vw11 "_siftup_max").params = (defAt PySem.Challenge.pw_dm0137_11 4).1 ∧ (recIn vw11 "_siftup_max").body = (defAt PySem.Challenge.pw_dm0137_11 4).2.1 ∧ (recIn vw11 "_siftup_max").scope = (defAt PySem.Challenge.pw_dm0137_11 4).2.2 := ⟨by kernel_rfl, by kernel_rfl, by kernel_rfl⟩
theorem bind_su (fd : FuncData) (h1 : fd.params = (defAt PySem.Challenge.pw_dm0137_11 4).1) (h2 : fd.defaults = .none) (h3 : fd.kwdefaults = .none) : ∀ vals : List Value, vals.length = (["heap", "pos"] : List Str).length → bindArgs fd ⟨vals, []⟩ = pure ((["heap", "pos"] : List Str).zip vals) := by
  intro vals hv
  obtain ⟨x0, t0, rfl, q0⟩ := len_cons (n := 1) hv
  obtain ⟨x1, t1, rfl, q1⟩ := len_cons (n := 0) q0
  obtain rfl := List.eq_nil_of_length_eq_zero q1
  unfold bindArgs
  rw [h1, h2, h3]
  rfl
theorem cs_su : CSs { sc := (defAt PySem.Challenge.pw_dm0137_11 4).2.2.names, fns := fns11 } (defAt PySem.Challenge.pw_dm0137_11 4).2.1 (ps_siftup 0) := by
  unfold ps_siftup
  exact (CSs.cons (CS.assign rfl (by decide) (CE.call rfl (by decide) (CEs.cons (CE.var rfl (by decide) (by decide)) CEs.nil (fun _ => rfl))) (fun _ => rfl)) (CSs.cons (CS.assign rfl (by decide) (CE.var rfl (by decide) (by decide)) (fun _ => rfl)) (CSs.cons (CS.assign rfl (by decide) (CE.sub (CE.var rfl (by decide) (by decide)) (CE.var rfl (by decide) (by decide)) (fun _ _ => rfl)) (fun _ => rfl)) (CSs.cons (CS.assign rfl (by decide) (CE.bin (CE.bin CE.int (CE.var rfl (by decide) (by decide))) CE.int) (fun _ => rfl)) (CSs.cons (CS.whil (CT.cmp (CE.var rfl (by decide) (by decide)) (CE.var rfl (by decide) (by decide)) rfl) (CSs.cons (CS.assign rfl (by decide) (CE.bin (CE.var rfl (by decide) (by decide)) CE.int) (fun _ => rfl)) (CSs.cons (CS.ifs (CT.and (CT.cmp (CE.var rfl (by decide) (by decide)) (CE.var rfl (by decide) (by decide)) rfl) (CT.not (CT.cmp (CE.sub (CE.var rfl (by decide) (by decide)) (CE.var rfl (by decide) (by decide)) (fun _ _ => rfl)) (CE.sub (CE.var rfl (by decide) (by decide)) (CE.var rfl (by decide) (by decide)) (fun _ _ => rfl)) rfl))) (CSs.cons (CS.assign rfl (by decide) (CE.var rfl (by decide) (by decide)) (fun _ => rfl)) CSs.nil) CSs.nil) (CSs.cons (CS.setitem (CE.var rfl (by decide) (by decide)) (CE.var rfl (by decide) (by decide)) (CE.sub (CE.var rfl (by decide) (by decide)) (CE.var rfl (by decide) (by decide)) (fun _ _ => rfl)) (fun _ => rfl)) (CSs.cons (CS.assign rfl (by decide) (CE.var rfl (by decide) (by decide)) (fun _ => rfl)) (CSs.cons (CS.assign rfl (by decide) (CE.bin (CE.bin CE.int (CE.var rfl (by decide) (by decide))) CE.int) (fun _ => rfl)) CSs.nil)))))) (CSs.cons (CS.setitem (CE.var rfl (by decide) (by decide)) (CE.var rfl (by decide) (by decide)) (CE.var rfl (by decide) (by decide)) (fun _ => rfl)) (CSs.cons (CS.expr (CE.ucall rfl (by decide) (by decide) (by decide) (CEs.cons (CE.var rfl (by decide) (by decide)) (CEs.cons (CE.var rfl (by decide) (by decide)) (CEs.cons (CE.var rfl (by decide) (by decide)) CEs.nil (fun _ => rfl)) (fun _ => rfl)) (fun _ => rfl))) (fun _ => rfl)) CSs.nil)))))))
theorem fr_su (a b : V) : initF { sc := (defAt PySem.Challenge.pw_dm0137_11 4).2.2.names, fns := fns11 } (["heap", "pos"] : List Str) [a, b] = [a, b].map some ++ [none, none, none, none, none] := by first | rfl | kernel_rfl
/-- the def as the ground shows it -/
theorem at_su {mg : Str → Option Value} {h₀ : Heap} (h : Shown mg h₀ "_siftup_max" (recIn vw11 "_siftup_max")) : AtDef mg h₀ "_siftup_max" (defAt PySem.Challenge.pw_dm0137_11 4) fns11 (["heap", "pos"] : List Str) (ps_siftup 0) := by
  obtain ⟨a, o, pm, cd, doc, h1, h2, h3, h4⟩ := h
  obtain ⟨e1, e2, e3⟩ := bd_su
  refine ⟨a, o, _, h1, h2, h3, h4, e1, e3, ⟨congrArg FuncBody.stmts e2, fun s hs vals hv => BindsTo.of_eq (bind_su _ e1 rfl rfl vals hv), rfl, rfl, rfl, ?_, ?_, ?_, ?_, ?_, ?_, by decide, ?_⟩⟩
  · show (recIn vw11 "_siftup_max").scope.isCoroutine = false
    rw [e3]; rfl
  · show (recIn vw11 "_siftup_max").scope.isGenerator = false
    rw [e3]; rfl
  · show (recIn vw11 "_siftup_max").scope.kind = .function
    rw [e3]; rfl
  · show ((recIn vw11 "_siftup_max").scope.names.map (·.1)).Nodup
    rw [e3]; decide +kernel
  · show ∀ x ∈ (recIn vw11 "_siftup_max").scope.names, x.2 ≠ .free
    rw [e3]; decide +kernel
  · show ∀ x ∈ (["heap", "pos"] : List Str), (recIn vw11 "_siftup_max").scope.names.lookup x = some .local ∨ (recIn vw11 "_siftup_max").scope.names.lookup x = some .cell
    rw [e3]; decide +kernel
  · show CSs { sc := (recIn vw11 "_siftup_max").scope.names, fns := fns11 } _ _
    rw [e3]; exact cs_su

theorem def_hr : defOf vw11 "_heapreplace_max" = some ((recIn vw11 "_heapreplace_max"), []) := by kernel_rfl
theorem bd_hr : (recIn vw11 "_heapreplace_max").params = (defAt PySem.Challenge.pw_dm0137_11 1).1 ∧ (recIn vw11 "_heapreplace_max").body = (defAt PySem.Challenge.pw_dm0137_11 1).2.1 ∧ (recIn vw11 "_heapreplace_max").scope = (defAt PySem.Challenge.pw_dm0137_11 1).2.2 := ⟨by kernel_rfl, by kernel_rfl, by kernel_rfl⟩
theorem bind_hr (fd : FuncData) (h1 : fd.params = (defAt PySem.Challenge.pw_dm0137_11 1).1) (h2 : fd.defaults = .none) (h3 : fd.kwdefaults = .none) : ∀ vals : List Value, vals.length = (["heap", "item"] : List Str).length → bindArgs fd ⟨vals, []⟩ = pure ((["heap", "item"] : List Str).zip vals) := by
  intro vals hv
  obtain ⟨x0, t0, rfl, q0⟩ := len_cons (n := 1) hv
  obtain ⟨x1, t1, rfl, q1⟩ := len_cons (n := 0) q0
  obtain rfl := List.eq_nil_of_length_eq_zero q1
  unfold bindArgs
  rw [h1, h2, h3]
  rfl
theorem cs_hr : CSs { sc := (defAt PySem.Challenge.pw_dm0137_11 1).2.2.names, fns := fns11 } (defAt PySem.Challenge.pw_dm0137_11 1).2.1 (ps_heapreplace 1) := by
  unfold ps_heapreplace
  exact (CSs.cons (CS.assign rfl (by decide) (CE.sub (CE.var rfl (by decide) (by decide)) CE.int (fun _ _ => rfl)) (fun _ => rfl)) (CSs.cons (CS.setitem (CE.var rfl (by decide) (by decide)) CE.int (CE.var rfl (by decide) (by decide)) (fun _ => rfl)) (CSs.cons (CS.expr (CE.ucall rfl (by decide) (by decide) (by decide) (CEs.cons (CE.var rfl (by decide) (by decide)) (CEs.cons CE.int CEs.nil (fun _ => rfl)) (fun _ => rfl))) (fun _ => rfl)) (CSs.cons (CS.ret (CE.var rfl (by decide) (by decide))) CSs.nil))))
theorem fr_hr (a b : V) : initF { sc := (defAt PySem.Challenge.pw_dm0137_11 1).2.2.names, fns := fns11 } (["heap", "item"] : List Str) [a, b] = [a, b].map some ++ [none] := by first | rfl | kernel_rfl
/-- the def as the ground shows it -/
theorem at_hr {mg : Str → Option Value} {h₀ : Heap} (h : Shown mg h₀ "_heapreplace_max" (recIn vw11 "_heapreplace_max")) : AtDef mg h₀ "_heapreplace_max" (defAt PySem.Challenge.pw_dm0137_11 1) fns11 (["heap", "item"] : List Str) (ps_heapreplace 1) := by
  obtain ⟨a, o, pm, cd, doc, h1, h2, h3, h4⟩ := h
  obtain ⟨e1, e2, e3⟩ := bd_hr
  refine ⟨a, o, _, h1, h2, h3, h4, e1, e3, ⟨congrArg FuncBody.stmts e2, fun s hs vals hv => BindsTo.of_eq (bind_hr _ e1 rfl rfl vals hv), rfl, rfl, rfl, ?_, ?_, ?_, ?_, ?_, ?_, by decide, ?_⟩⟩
  · show (recIn vw11 "_heapreplace_max").scope.isCoroutine = false
    rw [e3]; rfl
  · show (recIn vw11 "_heapreplace_max").scope.isGenerator = false
    rw [e3]; rfl
  · show (recIn vw11 "_heapreplace_max").scope.kind = .function
    rw [e3]; rfl
  · show ((recIn vw11 "_heapreplace_max").scope.names.map (·.1)).Nodup
    rw [e3]; decide +kernel
  · show ∀ x ∈ (recIn vw11 "_heapreplace_max").scope.names, x.2 ≠ .free
    rw [e3]; decide +kernel
  · show ∀ x ∈ (["heap", "item"] : List Str), (recIn vw11 "_heapreplace_max").scope.names.lookup x = some .local ∨ (recIn vw11 "_heapreplace_max").scope.names.lookup x = some .cell
    rw [e3]; decide +kernel
  · show CSs { sc := (recIn vw11 "_heapreplace_max").scope.names, fns := fns11 } _ _
    rw [e3]; exact cs_hr

theorem def_hf : defOf vw11 "_heapify_max" = some ((recIn vw11 "_heapify_max"), []) := by kernel_rfl
theorem bd_hf : (recIn vw11 "_heapify_max").params = (defAt PySem.Challenge.pw_dm0137_11 2).1 ∧ (recIn vw11 "_heapify_max").body = (defAt PySem.Challenge.pw_dm0137_11 2).2.1 ∧ (recIn vw11 "_heapify_max").scope = (defAt PySem.Challenge.pw_dm0137_11 2).2.2 := ⟨by kernel_rfl, by kernel_rfl, by kernel_rfl⟩
theorem bind_hf (fd : FuncData) (h1 : fd.params = (defAt PySem.Challenge.pw_dm0137_11 2).1) (h2 : fd.defaults = .none) (h3 : fd.kwdefaults = .none) : ∀ vals : List Value, vals.length = (["x"] : List Str).length → bindArgs fd ⟨vals, []⟩ = pure ((["x"] : List Str).zip vals) := by
  intro vals hv
  obtain ⟨x0, t0, rfl, q0⟩ := len_cons (n := 0) hv
  obtain rfl := List.eq_nil_of_length_eq_zero q0
  unfold bindArgs
  rw [h1, h2, h3]
  rfl
theorem cs_hf : CSs { sc := (defAt PySem.Challenge.pw_dm0137_11 2).2.2.names, fns := fns11 } (defAt PySem.Challenge.pw_dm0137_11 2).2.1 (ps_heapify 1) := by
  unfold ps_heapify
  exact (CSs.cons (CS.assign rfl (by decide) (CE.call rfl (by decide) (CEs.cons (CE.var rfl (by decide) (by decide)) CEs.nil (fun _ => rfl))) (fun _ => rfl)) (CSs.cons (CS.for (CG.name rfl (by decide)) (CI.rev rfl (by decide) (CE.call rfl (by decide) (CEs.cons (CE.bin (CE.var rfl (by decide) (by decide)) CE.int) CEs.nil (fun _ => rfl))) (fun _ => rfl)) ((by intro h; cases h)) (CSs.cons (CS.expr (CE.ucall rfl (by decide) (by decide) (by decide) (CEs.cons (CE.var rfl (by decide) (by decide)) (CEs.cons (CE.var rfl (by decide) (by decide)) CEs.nil (fun _ => rfl)) (fun _ => rfl))) (fun _ => rfl)) CSs.nil)) CSs.nil))
theorem fr_hf (a : V) : initF { sc := (defAt PySem.Challenge.pw_dm0137_11 2).2.2.names, fns := fns11 } (["x"] : List Str) [a] = [a].map some ++ [none, none] := by first | rfl | kernel_rfl
/-- the def as the ground shows it -/
theorem at_hf {mg : Str → Option Value} {h₀ : Heap} (h : Shown mg h₀ "_heapify_max" (recIn vw11 "_heapify_max")) : AtDef mg h₀ "_heapify_max" (defAt PySem.Challenge.pw_dm0137_11 2) fns11 (["x"] : List Str) (ps_heapify 1) := by
  obtain ⟨a, o, pm, cd, doc, h1, h2, h3, h4⟩ := h
  obtain ⟨e1, e2, e3⟩ := bd_hf
  refine ⟨a, o, _, h1, h2, h3, h4, e1, e3, ⟨congrArg FuncBody.stmts e2, fun s hs vals hv => BindsTo.of_eq (bind_hf _ e1 rfl rfl vals hv), rfl, rfl, rfl, ?_, ?_, ?_, ?_, ?_, ?_, by decide, ?_⟩⟩
  · show (recIn vw11 "_heapify_max").scope.isCoroutine = false
    rw [e3]; rfl
  · show (recIn vw11 "_heapify_max").scope.isGenerator = false
    rw [e3]; rfl
  · show (recIn vw11 "_heapify_max").scope.kind = .function
    rw [e3]; rfl
  · show ((recIn vw11 "_heapify_max").scope.names.map (·.1)).Nodup
    rw [e3]; decide +kernel
  · show ∀ x ∈ (recIn vw11 "_heapify_max").scope.names, x.2 ≠ .free
    rw [e3]; decide +kernel
  · show ∀ x ∈ (["x"] : List Str), (recIn vw11 "_heapify_max").scope.names.lookup x = some .local ∨ (recIn vw11 "_heapify_max").scope.names.lookup x = some .cell
    rw [e3]; decide +kernel
  · show CSs { sc := (recIn vw11 "_heapify_max").scope.names, fns := fns11 } _ _
    rw [e3]; exact cs_hf

theorem def_ns : defOf vw11 "nsmallest" = some ((recIn vw11 "nsmallest"), []) := by kernel_rfl
theorem bd_ns : (recIn vw11 "nsmallest").params = (defAt PySem.Challenge.pw_dm0137_11 5).1 ∧ (recIn vw11 "nsmallest").body = (defAt PySem.Challenge.pw_dm0137_11 5).2.1 ∧ (recIn vw11 "nsmallest").scope = (defAt PySem.Challenge.pw_dm0137_11 5).2.2 := ⟨by kernel_rfl, by kernel_rfl, by kernel_rfl⟩
theorem ba1 (fd : FuncData) (h1 : fd.params = (defAt PySem.Challenge.pw_dm0137_11 5).1) (a b c : Value) : BA fd ⟨[a, b, c], []⟩ #[.none] [("n", a), ("iterable", b), ("key", c)] := by
  unfold BA bindArgs
  rw [h1]
  exact ⟨_, rfl, rfl⟩
theorem ba2 (fd : FuncData) (h1 : fd.params = (defAt PySem.Challenge.pw_dm0137_11 5).1) (a b c : Value) : BA fd ⟨[a, b], [("key", c)]⟩ #[.none] [("n", a), ("iterable", b), ("key", c)] := by
  unfold BA bindArgs
  rw [h1]
  exact ⟨_, rfl, rfl⟩
theorem ba3 (fd : FuncData) (h1 : fd.params = (defAt PySem.Challenge.pw_dm0137_11 5).1) (a b : Value) : BA fd ⟨[a, b], []⟩ #[.none] [("n", a), ("iterable", b), ("key", .none)] := by
  unfold BA bindArgs
  rw [h1]
  exact ⟨_, rfl, rfl⟩
theorem cs_ns : CSs { sc := (defAt PySem.Challenge.pw_dm0137_11 5).2.2.names, fns := fns11 } (defAt PySem.Challenge.pw_dm0137_11 5).2.1 ps_ns := by
  unfold ps_ns
  exact (CSs.cons (CS.ifs (CT.cmp (CE.var rfl (by decide) (by decide)) CE.int rfl) (CSs.cons (CS.assign rfl (by decide) (CE.call rfl (by decide) (CEs.cons (CE.var rfl (by decide) (by decide)) CEs.nil (fun _ => rfl))) (fun _ => rfl)) (CSs.cons (CS.assign rfl (by decide) (CE.call rfl (by decide) CEs.nil) (fun _ => rfl)) (CSs.cons (CS.assign rfl (by decide) (CE.mink rfl (by decide) (CE.var rfl (by decide) (by decide)) (fun _ => rfl) (CE.var rfl (by decide) (by decide)) (CE.var rfl (by decide) (by decide))) (fun _ => rfl)) (CSs.cons (CS.ret (CE.ite (CT.cmp (CE.var rfl (by decide) (by decide)) (CE.var rfl (by decide) (by decide)) rfl) (CE.list CEs.nil) (CE.list (CEs.cons (CE.var rfl (by decide) (by decide)) CEs.nil (fun _ => rfl))))) CSs.nil)))) CSs.nil) (CSs.cons (CS.tryLen rfl (by decide) rfl (by decide) (by decide) (by decide) (by decide) (by decide) (CSs.cons (CS.ifs (CT.cmp (CE.var rfl (by decide) (by decide)) (CE.var rfl (by decide) (by decide)) rfl) (CSs.cons (CS.ret (CE.slice (CE.sortk rfl (by decide) (CE.var rfl (by decide) (by decide)) (fun _ => rfl) (CE.var rfl (by decide) (by decide))) CO.none (CO.some (CE.var rfl (by decide) (by decide))) CO.none)) CSs.nil) CSs.nil) CSs.nil) (fun _ => rfl)) (CSs.cons (CS.ifs (CT.cmp (CE.var rfl (by decide) (by decide)) CE.none rfl) (CSs.cons (CS.assign rfl (by decide) (CE.call rfl (by decide) (CEs.cons (CE.var rfl (by decide) (by decide)) CEs.nil (fun _ => rfl))) (fun _ => rfl)) (CSs.cons (CS.zipc rfl (by decide) ⟨by decide, rfl, by decide, by decide, rfl, rfl, by decide, by decide, by decide, rfl, by decide, (CEs.cons (CE.call rfl (by decide) (CEs.cons (CE.var rfl (by decide) (by decide)) CEs.nil (fun _ => rfl))) (CEs.cons (CE.var rfl (by decide) (by decide)) CEs.nil (fun _ => rfl)) (fun _ => rfl)), (CEs.cons (CE.var rfl (by decide) (by decide)) (CEs.cons (CE.var rfl (by decide) (by decide)) CEs.nil (fun _ => rfl)) (fun _ => rfl))⟩) (CSs.cons (CS.ifs (CT.not (CT.var (CE.var rfl (by decide) (by decide)))) (CSs.cons (CS.ret (CE.var rfl (by decide) (by decide))) CSs.nil) CSs.nil) (CSs.cons (CS.expr (CE.ucall rfl (by decide) (by decide) (by decide) (CEs.cons (CE.var rfl (by decide) (by decide)) CEs.nil (fun _ => rfl))) (fun _ => rfl)) (CSs.cons (CS.assign rfl (by decide) (CE.sub (CE.sub (CE.var rfl (by decide) (by decide)) CE.int (fun _ _ => rfl)) CE.int (fun _ _ => rfl)) (fun _ => rfl)) (CSs.cons (CS.assign rfl (by decide) (CE.var rfl (by decide) (by decide)) (fun _ => rfl)) (CSs.cons (CS.assign rfl (by decide) (CE.gfn rfl (by decide) (by decide)) (fun _ => rfl)) (CSs.cons (CS.forx rfl (by decide) (CE.var rfl (by decide) (by decide)) (fun _ _ => rfl) (CSs.cons (CS.ifs (CT.cmp (CE.var rfl (by decide) (by decide)) (CE.var rfl (by decide) (by decide)) rfl) (CSs.cons (CS.expr (CE.vcall rfl (by decide) (by decide) (CEs.cons (CE.var rfl (by decide) (by decide)) (CEs.cons (CE.tuple (CEs.cons (CE.var rfl (by decide) (by decide)) (CEs.cons (CE.var rfl (by decide) (by decide)) CEs.nil (fun _ => rfl)) (fun _ => rfl))) CEs.nil (fun _ => rfl)) (fun _ => rfl))) (fun _ => rfl)) (CSs.cons (CS.assignT (CGs.cons rfl (by decide) (CGs.cons rfl (by decide) CGs.nil)) (CE.sub (CE.var rfl (by decide) (by decide)) CE.int (fun _ _ => rfl)) (fun _ => rfl) (fun _ => rfl)) (CSs.cons (CS.aug rfl (by decide) (by decide) (by decide) CE.int) CSs.nil))) CSs.nil) CSs.nil)) (CSs.cons (CS.expr (CE.meth rfl (by decide) (by decide) (fun _ => rfl) (CE.var rfl (by decide) (by decide)) CEs.nil) (fun _ => rfl)) (CSs.cons (CS.ret (CE.comp ⟨by decide, rfl, by decide, (CI.plain (CE.var rfl (by decide) (by decide)) (fun _ _ => rfl)), (by intro h; cases h), (CG.tup (CGs.cons rfl (by decide) (CGs.cons rfl (by decide) CGs.nil))), (CE.var rfl (by decide) (by decide)), CTs.nil⟩)) CSs.nil)))))))))) CSs.nil) (CSs.cons (CS.assign rfl (by decide) (CE.call rfl (by decide) (CEs.cons (CE.var rfl (by decide) (by decide)) CEs.nil (fun _ => rfl))) (fun _ => rfl)) (CSs.cons (CS.zipc rfl (by decide) ⟨by decide, rfl, by decide, by decide, rfl, rfl, by decide, by decide, by decide, rfl, by decide, (CEs.cons (CE.call rfl (by decide) (CEs.cons (CE.var rfl (by decide) (by decide)) CEs.nil (fun _ => rfl))) (CEs.cons (CE.var rfl (by decide) (by decide)) CEs.nil (fun _ => rfl)) (fun _ => rfl)), (CEs.cons (CE.vcall rfl (by decide) (by decide) (CEs.cons (CE.var rfl (by decide) (by decide)) CEs.nil (fun _ => rfl))) (CEs.cons (CE.var rfl (by decide) (by decide)) (CEs.cons (CE.var rfl (by decide) (by decide)) CEs.nil (fun _ => rfl)) (fun _ => rfl)) (fun _ => rfl))⟩) (CSs.cons (CS.ifs (CT.not (CT.var (CE.var rfl (by decide) (by decide)))) (CSs.cons (CS.ret (CE.var rfl (by decide) (by decide))) CSs.nil) CSs.nil) (CSs.cons (CS.expr (CE.ucall rfl (by decide) (by decide) (by decide) (CEs.cons (CE.var rfl (by decide) (by decide)) CEs.nil (fun _ => rfl))) (fun _ => rfl)) (CSs.cons (CS.assign rfl (by decide) (CE.sub (CE.sub (CE.var rfl (by decide) (by decide)) CE.int (fun _ _ => rfl)) CE.int (fun _ _ => rfl)) (fun _ => rfl)) (CSs.cons (CS.assign rfl (by decide) (CE.var rfl (by decide) (by decide)) (fun _ => rfl)) (CSs.cons (CS.assign rfl (by decide) (CE.gfn rfl (by decide) (by decide)) (fun _ => rfl)) (CSs.cons (CS.forx rfl (by decide) (CE.var rfl (by decide) (by decide)) (fun _ _ => rfl) (CSs.cons (CS.assign rfl (by decide) (CE.vcall rfl (by decide) (by decide) (CEs.cons (CE.var rfl (by decide) (by decide)) CEs.nil (fun _ => rfl))) (fun _ => rfl)) (CSs.cons (CS.ifs (CT.cmp (CE.var rfl (by decide) (by decide)) (CE.var rfl (by decide) (by decide)) rfl) (CSs.cons (CS.expr (CE.vcall rfl (by decide) (by decide) (CEs.cons (CE.var rfl (by decide) (by decide)) (CEs.cons (CE.tuple (CEs.cons (CE.var rfl (by decide) (by decide)) (CEs.cons (CE.var rfl (by decide) (by decide)) (CEs.cons (CE.var rfl (by decide) (by decide)) CEs.nil (fun _ => rfl)) (fun _ => rfl)) (fun _ => rfl))) CEs.nil (fun _ => rfl)) (fun _ => rfl))) (fun _ => rfl)) (CSs.cons (CS.assignT (CGs.cons rfl (by decide) (CGs.cons rfl (by decide) (CGs.cons rfl (by decide) CGs.nil))) (CE.sub (CE.var rfl (by decide) (by decide)) CE.int (fun _ _ => rfl)) (fun _ => rfl) (fun _ => rfl)) (CSs.cons (CS.aug rfl (by decide) (by decide) (by decide) CE.int) CSs.nil))) CSs.nil) CSs.nil))) (CSs.cons (CS.expr (CE.meth rfl (by decide) (by decide) (fun _ => rfl) (CE.var rfl (by decide) (by decide)) CEs.nil) (fun _ => rfl)) (CSs.cons (CS.ret (CE.comp ⟨by decide, rfl, by decide, (CI.plain (CE.var rfl (by decide) (by decide)) (fun _ _ => rfl)), (by intro h; cases h), (CG.tup (CGs.cons rfl (by decide) (CGs.cons rfl (by decide) (CGs.cons rfl (by decide) CGs.nil)))), (CE.var rfl (by decide) (by decide)), CTs.nil⟩)) CSs.nil)))))))))))))
theorem fr_ns (a b c : V) : initF { sc := (defAt PySem.Challenge.pw_dm0137_11 5).2.2.names, fns := fns11 } (["n", "iterable", "key"] : List Str) [a, b, c] = [a, b, c].map some ++ [none, none, none, none, none, none, none, none, none, none, none] := by first | rfl | kernel_rfl
/-- the def as the ground shows it -/
theorem at_ns {mg : Str → Option Value} {h₀ : Heap} (h : ShownD mg h₀ "nsmallest" (recIn vw11 "nsmallest")) : AtDefD mg h₀ "nsmallest" (defAt PySem.Challenge.pw_dm0137_11 5) fns11 (["n", "iterable", "key"] : List Str) ps_ns := by
  obtain ⟨a, o, pm, cd, doc, T, oT, n, h1, h2, h3, h4, h5, h6⟩ := h
  obtain ⟨e1, e2, e3⟩ := bd_ns
  refine ⟨a, o, _, h1, h2, h3, h4, e1, e3, ⟨congrArg FuncBody.stmts e2, fun s hs vals hv => ?_, rfl, rfl, rfl, ?_, ?_, ?_, ?_, ?_, ?_, by decide, ?_⟩, T, oT, n, rfl, h5, h6⟩
  · skip
    obtain ⟨x0, t0, rfl, q0⟩ := len_cons (n := 2) hv
    obtain ⟨x1, t1, rfl, q1⟩ := len_cons (n := 1) q0
    obtain ⟨x2, t2, rfl, q2⟩ := len_cons (n := 0) q1
    obtain rfl := List.eq_nil_of_length_eq_zero q2
    exact BA.to (ba1 _ e1 x0 x1 x2) rfl (hs _ _ h5) h6
  · show (recIn vw11 "nsmallest").scope.isCoroutine = false
    rw [e3]; rfl
  · show (recIn vw11 "nsmallest").scope.isGenerator = false
    rw [e3]; rfl
  · show (recIn vw11 "nsmallest").scope.kind = .function
    rw [e3]; rfl
  · show ((recIn vw11 "nsmallest").scope.names.map (·.1)).Nodup
    rw [e3]; decide +kernel
  · show ∀ x ∈ (recIn vw11 "nsmallest").scope.names, x.2 ≠ .free
    rw [e3]; decide +kernel
  · show ∀ x ∈ (["n", "iterable", "key"] : List Str), (recIn vw11 "nsmallest").scope.names.lookup x = some .local ∨ (recIn vw11 "nsmallest").scope.names.lookup x = some .cell
    rw [e3]; decide +kernel
  · show CSs { sc := (recIn vw11 "nsmallest").scope.names, fns := fns11 } _ _
    rw [e3]; exact cs_ns

theorem def_ll : defOf vw11 "_law_least" = some ((recIn vw11 "_law_least"), []) := by kernel_rfl
theorem bd_ll : (recIn vw11 "_law_least").params = (defAt PySem.Challenge.pw_dm0137_11 7).1 ∧ (recIn vw11 "_law_least").body = (defAt PySem.Challenge.pw_dm0137_11 7).2.1 ∧ (recIn vw11 "_law_least").scope = (defAt PySem.Challenge.pw_dm0137_11 7).2.2 := ⟨by kernel_rfl, by kernel_rfl, by kernel_rfl⟩
theorem bind_ll (fd : FuncData) (h1 : fd.params = (defAt PySem.Challenge.pw_dm0137_11 7).1) (h2 : fd.defaults = .none) (h3 : fd.kwdefaults = .none) : ∀ vals : List Value, vals.length = (["row", "wish"] : List Str).length → bindArgs fd ⟨vals, []⟩ = pure ((["row", "wish"] : List Str).zip vals) := by
  intro vals hv
  obtain ⟨x0, t0, rfl, q0⟩ := len_cons (n := 1) hv
  obtain ⟨x1, t1, rfl, q1⟩ := len_cons (n := 0) q0
  obtain rfl := List.eq_nil_of_length_eq_zero q1
  unfold bindArgs
  rw [h1, h2, h3]
  rfl
theorem cs_ll : CSs { sc := (defAt PySem.Challenge.pw_dm0137_11 7).2.2.names, fns := fns11 } (defAt PySem.Challenge.pw_dm0137_11 7).2.1 ps_least := by
  unfold ps_least
  exact (CSs.cons (CS.assignC rfl (by decide) ⟨by decide, rfl, by decide, (CI.plain (CE.var rfl (by decide) (by decide)) (fun _ _ => rfl)), (by intro h; cases h), (CG.name rfl (by decide)), (CE.call rfl (by decide) (CEs.cons (CE.comp ⟨by decide, rfl, by decide, (CI.plain (CE.var rfl (by decide) (by decide)) (fun _ _ => rfl)), (by intro h; cases h), (CG.name rfl (by decide)), (CE.bin (CE.var rfl (by decide) (by decide)) (CE.var rfl (by decide) (by decide))), (CTs.cons (CT.cmp (CE.var rfl (by decide) (by decide)) (CE.var rfl (by decide) (by decide)) rfl) CTs.nil)⟩) CEs.nil (fun _ => rfl))), CTs.nil⟩) (CSs.cons (CS.assign rfl (by decide) (CE.list (CEs.cons CE.int CEs.nil (fun _ => rfl))) (fun _ => rfl)) (CSs.cons (CS.for (CG.name rfl (by decide)) (CI.plain (CE.call rfl (by decide) (CEs.cons CE.int (CEs.cons (CE.bin (CE.call rfl (by decide) (CEs.cons (CE.var rfl (by decide) (by decide)) (CEs.cons (CE.call rfl (by decide) (CEs.cons (CE.var rfl (by decide) (by decide)) CEs.nil (fun _ => rfl))) CEs.nil (fun _ => rfl)) (fun _ => rfl))) CE.int) CEs.nil (fun _ => rfl)) (fun _ => rfl))) (fun _ _ => rfl)) ((by intro h; cases h)) (CSs.cons (CS.expr (CE.meth rfl (by decide) (by decide) (fun _ => rfl) (CE.var rfl (by decide) (by decide)) (CEs.cons (CE.call rfl (by decide) (CEs.cons (CE.comp ⟨by decide, rfl, by decide, (CI.plain (CE.call rfl (by decide) (CEs.cons (CE.call rfl (by decide) (CEs.cons (CE.var rfl (by decide) (by decide)) CEs.nil (fun _ => rfl))) CEs.nil (fun _ => rfl))) (fun _ _ => rfl)), (by intro h; cases h), (CG.name rfl (by decide)), (CE.bin (CE.bin (CE.var rfl (by decide) (by decide)) (CE.sub (CE.var rfl (by decide) (by decide)) (CE.var rfl (by decide) (by decide)) (fun _ _ => rfl))) (CE.sub (CE.var rfl (by decide) (by decide)) (CE.var rfl (by decide) (by decide)) (fun _ _ => rfl))), CTs.nil⟩) CEs.nil (fun _ => rfl))) CEs.nil (fun _ => rfl))) (fun _ => rfl)) CSs.nil)) (CSs.cons (CS.ret (CE.comp ⟨by decide, rfl, by decide, (CI.plain (CE.call rfl (by decide) (CEs.cons CE.int (CEs.cons (CE.call rfl (by decide) (CEs.cons (CE.var rfl (by decide) (by decide)) CEs.nil (fun _ => rfl))) CEs.nil (fun _ => rfl)) (fun _ => rfl))) (fun _ _ => rfl)), (by intro h; cases h), (CG.name rfl (by decide)), (CE.bin (CE.sub (CE.var rfl (by decide) (by decide)) (CE.var rfl (by decide) (by decide)) (fun _ _ => rfl)) (CE.sub (CE.var rfl (by decide) (by decide)) (CE.bin (CE.var rfl (by decide) (by decide)) CE.int) (fun _ _ => rfl))), CTs.nil⟩)) CSs.nil))))
theorem fr_ll (a b : V) : initF { sc := (defAt PySem.Challenge.pw_dm0137_11 7).2.2.names, fns := fns11 } (["row", "wish"] : List Str) [a, b] = [a, b].map some ++ [none, none, none] := by first | rfl | kernel_rfl
/-- the def as the ground shows it -/
theorem at_ll {mg : Str → Option Value} {h₀ : Heap} (h : Shown mg h₀ "_law_least" (recIn vw11 "_law_least")) : AtDef mg h₀ "_law_least" (defAt PySem.Challenge.pw_dm0137_11 7) fns11 (["row", "wish"] : List Str) ps_least := by
  obtain ⟨a, o, pm, cd, doc, h1, h2, h3, h4⟩ := h
  obtain ⟨e1, e2, e3⟩ := bd_ll
  refine ⟨a, o, _, h1, h2, h3, h4, e1, e3, ⟨congrArg FuncBody.stmts e2, fun s hs vals hv => BindsTo.of_eq (bind_ll _ e1 rfl rfl vals hv), rfl, rfl, rfl, ?_, ?_, ?_, ?_, ?_, ?_, by decide, ?_⟩⟩
  · show (recIn vw11 "_law_least").scope.isCoroutine = false
    rw [e3]; rfl
  · show (recIn vw11 "_law_least").scope.isGenerator = false
    rw [e3]; rfl
  · show (recIn vw11 "_law_least").scope.kind = .function
    rw [e3]; rfl
  · show ((recIn vw11 "_law_least").scope.names.map (·.1)).Nodup
    rw [e3]; decide +kernel
  · show ∀ x ∈ (recIn vw11 "_law_least").scope.names, x.2 ≠ .free
    rw [e3]; decide +kernel
  · show ∀ x ∈ (["row", "wish"] : List Str), (recIn vw11 "_law_least").scope.names.lookup x = some .local ∨ (recIn vw11 "_law_least").scope.names.lookup x = some .cell
    rw [e3]; decide +kernel
  · show CSs { sc := (recIn vw11 "_law_least").scope.names, fns := fns11 } _ _
    rw [e3]; exact cs_ll

theorem def_lt : defOf vw11 "_law_turned" = some ((recIn vw11 "_law_turned"), []) := by kernel_rfl
theorem bd_lt : (recIn vw11 "_law_turned").params = (defAt PySem.Challenge.pw_dm0137_11 8).1 ∧ (recIn vw11 "_law_turned").body = (defAt PySem.Challenge.pw_dm0137_11 8).2.1 ∧ (recIn vw11 "_law_turned").scope = (defAt PySem.Challenge.pw_dm0137_11 8).2.2 := ⟨by kernel_rfl, by kernel_rfl, by kernel_rfl⟩
theorem bind_lt (fd : FuncData) (h1 : fd.params = (defAt PySem.Challenge.pw_dm0137_11 8).1) (h2 : fd.defaults = .none) (h3 : fd.kwdefaults = .none) : ∀ vals : List Value, vals.length = (["x"] : List Str).length → bindArgs fd ⟨vals, []⟩ = pure ((["x"] : List Str).zip vals) := by
  intro vals hv
  obtain ⟨x0, t0, rfl, q0⟩ := len_cons (n := 0) hv
  obtain rfl := List.eq_nil_of_length_eq_zero q0
  unfold bindArgs
  rw [h1, h2, h3]
  rfl
theorem cs_lt : CSs { sc := (defAt PySem.Challenge.pw_dm0137_11 8).2.2.names, fns := fns11 } (defAt PySem.Challenge.pw_dm0137_11 8).2.1 ps_turned := by
  unfold ps_turned
  exact (CSs.cons (CS.ret (CE.neg (CE.var rfl (by decide) (by decide)))) CSs.nil)
theorem fr_lt (a : V) : initF { sc := (defAt PySem.Challenge.pw_dm0137_11 8).2.2.names, fns := fns11 } (["x"] : List Str) [a] = [a].map some ++ [] := by first | rfl | kernel_rfl
/-- the def as the ground shows it -/
theorem at_lt {mg : Str → Option Value} {h₀ : Heap} (h : Shown mg h₀ "_law_turned" (recIn vw11 "_law_turned")) : AtDef mg h₀ "_law_turned" (defAt PySem.Challenge.pw_dm0137_11 8) fns11 (["x"] : List Str) ps_turned := by
  obtain ⟨a, o, pm, cd, doc, h1, h2, h3, h4⟩ := h
  obtain ⟨e1, e2, e3⟩ := bd_lt
  refine ⟨a, o, _, h1, h2, h3, h4, e1, e3, ⟨congrArg FuncBody.stmts e2, fun s hs vals hv => BindsTo.of_eq (bind_lt _ e1 rfl rfl vals hv), rfl, rfl, rfl, ?_, ?_, ?_, ?_, ?_, ?_, by decide, ?_⟩⟩
  · show (recIn vw11 "_law_turned").scope.isCoroutine = false
    rw [e3]; rfl
  · show (recIn vw11 "_law_turned").scope.isGenerator = false
    rw [e3]; rfl
  · show (recIn vw11 "_law_turned").scope.kind = .function
    rw [e3]; rfl
  · show ((recIn vw11 "_law_turned").scope.names.map (·.1)).Nodup
    rw [e3]; decide +kernel
  · show ∀ x ∈ (recIn vw11 "_law_turned").scope.names, x.2 ≠ .free
    rw [e3]; decide +kernel
  · show ∀ x ∈ (["x"] : List Str), (recIn vw11 "_law_turned").scope.names.lookup x = some .local ∨ (recIn vw11 "_law_turned").scope.names.lookup x = some .cell
    rw [e3]; decide +kernel
  · show CSs { sc := (recIn vw11 "_law_turned").scope.names, fns := fns11 } _ _
    rw [e3]; exact cs_lt

theorem def_law : defOf vw11 "law" = some ((recIn vw11 "law"), []) := by kernel_rfl
theorem bd_law : (recIn vw11 "law").params = (defAt PySem.Challenge.pw_dm0137_11 9).1 ∧ (recIn vw11 "law").body = (defAt PySem.Challenge.pw_dm0137_11 9).2.1 ∧ (recIn vw11 "law").scope = (defAt PySem.Challenge.pw_dm0137_11 9).2.2 := ⟨by kernel_rfl, by kernel_rfl, by kernel_rfl⟩
theorem bind_law (fd : FuncData) (h1 : fd.params = (defAt PySem.Challenge.pw_dm0137_11 9).1) (h2 : fd.defaults = .none) (h3 : fd.kwdefaults = .none) : ∀ vals : List Value, vals.length = (["script"] : List Str).length → bindArgs fd ⟨vals, []⟩ = pure ((["script"] : List Str).zip vals) := by
  intro vals hv
  obtain ⟨x0, t0, rfl, q0⟩ := len_cons (n := 0) hv
  obtain rfl := List.eq_nil_of_length_eq_zero q0
  unfold bindArgs
  rw [h1, h2, h3]
  rfl
theorem cs_law : CSs { sc := (defAt PySem.Challenge.pw_dm0137_11 9).2.2.names, fns := fns11 } (defAt PySem.Challenge.pw_dm0137_11 9).2.1 ps_law11 := by
  unfold ps_law11
  exact (CSs.cons (CS.assign rfl (by decide) (CE.bin (CE.list (CEs.cons CE.int (CEs.cons (CE.neg CE.int) (CEs.cons CE.int CEs.nil (fun _ => rfl)) (fun _ => rfl)) (fun _ => rfl))) (CE.comp ⟨by decide, rfl, by decide, (CI.plain (CE.call rfl (by decide) (CEs.cons (CE.call rfl (by decide) (CEs.cons (CE.call rfl (by decide) (CEs.cons (CE.var rfl (by decide) (by decide)) CEs.nil (fun _ => rfl))) (CEs.cons CE.int CEs.nil (fun _ => rfl)) (fun _ => rfl))) CEs.nil (fun _ => rfl))) (fun _ _ => rfl)), (by intro h; cases h), (CG.name rfl (by decide)), (CE.call rfl (by decide) (CEs.cons (CE.slice (CE.var rfl (by decide) (by decide)) (CO.some (CE.var rfl (by decide) (by decide))) CO.none (CO.some CE.int)) CEs.nil (fun _ => rfl))), CTs.nil⟩)) (fun _ => rfl)) (CSs.cons (CS.ifs (CT.cmp (CE.bin (CE.call rfl (by decide) (CEs.cons (CE.var rfl (by decide) (by decide)) CEs.nil (fun _ => rfl))) CE.int) CE.int rfl) (CSs.cons (CS.assignC rfl (by decide) ⟨by decide, rfl, by decide, (CI.plain (CE.var rfl (by decide) (by decide)) (fun _ _ => rfl)), (by intro h; cases h), (CG.name rfl (by decide)), (CE.bin (CE.var rfl (by decide) (by decide)) CE.int), CTs.nil⟩) CSs.nil) CSs.nil) (CSs.cons (CS.assign rfl (by decide) (CE.bin (CE.bin (CE.bin (CE.call rfl (by decide) (CEs.cons (CE.var rfl (by decide) (by decide)) CEs.nil (fun _ => rfl))) CE.int) (CE.bin (CE.call rfl (by decide) (CEs.cons (CE.var rfl (by decide) (by decide)) CEs.nil (fun _ => rfl))) CE.int)) CE.int) (fun _ => rfl)) (CSs.cons (CS.assign rfl (by decide) (CE.ucall rfl (by decide) (by decide) (by decide) (CEs.cons (CE.var rfl (by decide) (by decide)) (CEs.cons (CE.var rfl (by decide) (by decide)) CEs.nil (fun _ => rfl)) (fun _ => rfl))) (fun _ => rfl)) (CSs.cons (CS.ifs (CT.or (CT.cmp (CE.ucalld rfl rfl (by decide) (CEs.cons (CE.var rfl (by decide) (by decide)) (CEs.cons (CE.var rfl (by decide) (by decide)) CEs.nil (fun _ => rfl)) (fun _ => rfl))) (CE.var rfl (by decide) (by decide)) rfl) (CT.cmp (CE.ucalld rfl rfl (by decide) (CEs.cons (CE.var rfl (by decide) (by decide)) (CEs.cons (CE.call rfl (by decide) (CEs.cons (CE.var rfl (by decide) (by decide)) CEs.nil (fun _ => rfl))) CEs.nil (fun _ => rfl)) (fun _ => rfl))) (CE.var rfl (by decide) (by decide)) rfl)) (CSs.cons (CS.ret CE.bool) CSs.nil) CSs.nil) (CSs.cons (CS.assignC rfl (by decide) ⟨by decide, rfl, by decide, (CI.plain (CE.ucall rfl (by decide) (by decide) (by decide) (CEs.cons (CE.comp ⟨by decide, rfl, by decide, (CI.plain (CE.var rfl (by decide) (by decide)) (fun _ _ => rfl)), (by intro h; cases h), (CG.name rfl (by decide)), (CE.neg (CE.var rfl (by decide) (by decide))), CTs.nil⟩) (CEs.cons (CE.var rfl (by decide) (by decide)) CEs.nil (fun _ => rfl)) (fun _ => rfl))) (fun _ _ => rfl)), (by intro h; cases h), (CG.name rfl (by decide)), (CE.neg (CE.var rfl (by decide) (by decide))), CTs.nil⟩) (CSs.cons (CS.ifs (CT.cmp (CE.ucallk rfl rfl (by decide) (CEs.cons (CE.var rfl (by decide) (by decide)) (CEs.cons (CE.var rfl (by decide) (by decide)) CEs.nil (fun _ => rfl)) (fun _ => rfl)) (CE.gfn rfl (by decide) (by decide))) (CE.var rfl (by decide) (by decide)) rfl) (CSs.cons (CS.ret CE.bool) CSs.nil) CSs.nil) (CSs.cons (CS.ret (CE.cmp (CE.ucallk rfl rfl (by decide) (CEs.cons (CE.var rfl (by decide) (by decide)) (CEs.cons (CE.call rfl (by decide) (CEs.cons (CE.var rfl (by decide) (by decide)) CEs.nil (fun _ => rfl))) CEs.nil (fun _ => rfl)) (fun _ => rfl)) (CE.gfn rfl (by decide) (by decide))) (CE.var rfl (by decide) (by decide)) rfl)) CSs.nil))))))))
theorem fr_law (a : V) : initF { sc := (defAt PySem.Challenge.pw_dm0137_11 9).2.2.names, fns := fns11 } (["script"] : List Str) [a] = [a].map some ++ [none, none, none, none] := by first | rfl | kernel_rfl
/-- the def as the ground shows it -/
theorem at_law {mg : Str → Option Value} {h₀ : Heap} (h : Shown mg h₀ "law" (recIn vw11 "law")) : AtDef mg h₀ "law" (defAt PySem.Challenge.pw_dm0137_11 9) fns11 (["script"] : List Str) ps_law11 := by
  obtain ⟨a, o, pm, cd, doc, h1, h2, h3, h4⟩ := h
  obtain ⟨e1, e2, e3⟩ := bd_law
  refine ⟨a, o, _, h1, h2, h3, h4, e1, e3, ⟨congrArg FuncBody.stmts e2, fun s hs vals hv => BindsTo.of_eq (bind_law _ e1 rfl rfl vals hv), rfl, rfl, rfl, ?_, ?_, ?_, ?_, ?_, ?_, by decide, ?_⟩⟩
  · show (recIn vw11 "law").scope.isCoroutine = false
    rw [e3]; rfl
  · show (recIn vw11 "law").scope.isGenerator = false
    rw [e3]; rfl
  · show (recIn vw11 "law").scope.kind = .function
    rw [e3]; rfl
  · show ((recIn vw11 "law").scope.names.map (·.1)).Nodup
    rw [e3]; decide +kernel
  · show ∀ x ∈ (recIn vw11 "law").scope.names, x.2 ≠ .free
    rw [e3]; decide +kernel
  · show ∀ x ∈ (["script"] : List Str), (recIn vw11 "law").scope.names.lookup x = some .local ∨ (recIn vw11 "law").scope.names.lookup x = some .cell
    rw [e3]; decide +kernel
  · show CSs { sc := (recIn vw11 "law").scope.names, fns := fns11 } _ _
    rw [e3]; exact cs_law

theorem free11 : ∀ x ∈ freeNames, x ∉ startupNames ∧ x ∉ (looseW vw11 []) ∧ x ∉ (recsOf vw11).map (·.name) ∧ x ∉ (litsOf vw11).map (·.1) ∧ x ∉ (clssOf vw11 (looseW vw11 [])).map (·.name) := by decide +kernel
theorem names11 {w : World} {h₀ : Heap} {mg mb : Str → Option Value} (Gd : Gnd PySem.Challenge.rw_dm0137_11.row.prog h₀ mg mb) (hbi : ∀ x ∈ freeNames, mg x = none)
    (F : ∀ name d, defOf vw11 name = some (d, []) → d.params.defaults = [] → Shown mg h₀ name d) (FD : ∀ name d, defOf vw11 name = some (d, []) → (∃ e, d.params.defaults = [e] ∧ literalOfW? e = some .none) → ShownD mg h₀ name d)
    : ∃ (Φ : Fns) (KC : FuncData → List V → (V → Hp → Prop) → Hp → Prop), NamesOk PySem.Challenge.rw_dm0137_11.row.prog w h₀ mg 9 fns11 Φ ∧ (∀ args Q σ, nsC KC args Q σ → Φ 4 args Q σ) ∧ (∀ args Q σ, leastC args Q σ → Φ 5 args Q σ) ∧ (∀ fd σ, Φ 1001 [.int 6, .func fd] (fun _ _ => True) σ → ∀ args Q σ, turnedI args Q σ → KC fd args Q σ) := by
  obtain ⟨a0, o0, fd0, m0, g0, d0, c0, p0, s0, D0⟩ := at_sd (F _ _ def_sd (by rw [bd_sd.1]; rfl))
  obtain ⟨a1, o1, fd1, m1, g1, d1, c1, p1, s1, D1⟩ := at_su (F _ _ def_su (by rw [bd_su.1]; rfl))
  obtain ⟨a2, o2, fd2, m2, g2, d2, c2, p2, s2, D2⟩ := at_hr (F _ _ def_hr (by rw [bd_hr.1]; rfl))
  obtain ⟨a3, o3, fd3, m3, g3, d3, c3, p3, s3, D3⟩ := at_hf (F _ _ def_hf (by rw [bd_hf.1]; rfl))
  obtain ⟨a4, o4, fd4, m4, g4, d4, c4, p4, s4, D4, T, oT, nT, t1, t2, t3⟩ := at_ns (FD _ _ def_ns (by rw [bd_ns.1]; exact ⟨_, rfl, rfl⟩))
  obtain ⟨a5, o5, fd5, m5, g5, d5, c5, p5, s5, D5⟩ := at_ll (F _ _ def_ll (by rw [bd_ll.1]; rfl))
  obtain ⟨a6, o6, fd6, m6, g6, d6, c6, p6, s6, D6⟩ := at_lt (F _ _ def_lt (by rw [bd_lt.1]; rfl))
  obtain ⟨a7, o7, fd7, m7, g7, d7, c7, p7, s7, D7⟩ := at_law (F _ _ def_law (by rw [bd_law.1]; rfl))
  have mk : ∀ (n : Nat) (L : List (List V → (V → Hp → Prop) → Hp → Prop)) (cv : List V → (V → Hp → Prop) → Hp → Prop), FnOk PySem.Challenge.rw_dm0137_11.row.prog w h₀ n (.ref a0) (Φs L 0) → FnOk PySem.Challenge.rw_dm0137_11.row.prog w h₀ n (.ref a1) (Φs L 1) → FnOk PySem.Challenge.rw_dm0137_11.row.prog w h₀ n (.ref a2) (Φs L 2) → FnOk PySem.Challenge.rw_dm0137_11.row.prog w h₀ n (.ref a3) (Φs L 3) → FnOk PySem.Challenge.rw_dm0137_11.row.prog w h₀ n (.ref a4) (Φs L 4) → FnOk PySem.Challenge.rw_dm0137_11.row.prog w h₀ n (.ref a5) (Φs L 5) → FnOk PySem.Challenge.rw_dm0137_11.row.prog w h₀ n (.ref a6) (Φs L 6) → FnOk PySem.Challenge.rw_dm0137_11.row.prog w h₀ n (.ref a7) (Φs L 7) → (∀ fd, FdOk PySem.Challenge.rw_dm0137_11.row.prog w h₀ n fd (fun args Q σ => cv (.func fd :: args) Q σ)) → NamesOk PySem.Challenge.rw_dm0137_11.row.prog w h₀ mg n fns11 (ΦK L cv (gvC fd2 fd6 2 6)) := fun n L cv f0 f1 f2 f3 f4 f5 f6 f7 hc => by
    refine ⟨hbi, fun i x e => ?_, hc, fun i x fa o fd e1 e2 e3 e4 σ => ?_, fun fa o fd e1 e2 e3 s hs binds a b c => ?_⟩
    · match i, e with
      | 0, e => cases e; exact ⟨_, m0, f0⟩
      | 1, e => cases e; exact ⟨_, m1, f1⟩
      | 2, e => cases e; exact ⟨_, m2, f2⟩
      | 3, e => cases e; exact ⟨_, m3, f3⟩
      | 4, e => cases e; exact ⟨_, m4, f4⟩
      | 5, e => cases e; exact ⟨_, m5, f5⟩
      | 6, e => cases e; exact ⟨_, m6, f6⟩
      | 7, e => cases e; exact ⟨_, m7, f7⟩
    · refine ⟨_, _, rfl, fun q => ?_, fun q => ?_⟩
      · obtain rfl : i = 2 := by omega
        obtain rfl := Option.some.inj e1
        exact fd_uniq m2 e2 g2 e3 d2 e4
      · obtain rfl : i = 6 := by omega
        obtain rfl := Option.some.inj e1
        exact fd_uniq m6 e2 g6 e3 d6 e4
    · obtain rfl := fd_uniq m4 e1 g4 e2 d4 e3
      exact ⟨BA.swap (ba1 _ p4 a b c) (ba2 _ p4 a b c) t1 (hs _ _ t2) t3, BA.swap (ba1 _ p4 a b .none) (ba3 _ p4 a b) t1 (hs _ _ t2) t3⟩
  have N0 := mk 0 [noC, noC, noC, noC, noC, noC, noC] noC (.false g0 d0) (.false g1 d1) (.false g2 d2) (.false g3 d3) (.false g4 d4) (.false g5 d5) (.false g6 d6) (.false g7 d7) cv_no
  have F0 : ∀ m, 1 ≤ m → FnOk PySem.Challenge.rw_dm0137_11.row.prog w h₀ m (.ref a0) siftdownC := fun m hm => (fn_ok Gd N0 D0 g0 d0 c0).mono hm fun args Q σ h => by
    have h' := h
    obtain ⟨_, _, _, _, _, _, _, _, _, e, r⟩ := h'
    subst e
    refine ⟨rfl, siftdown_v _   _ _ _ _ h ?_⟩
    rw [s0]; exact fr_sd _ _ _
  have N1 := mk 1 [siftdownC, noC, noC, noC, noC, noC, noC] noC (F0 1 (by omega)) (.false g1 d1) (.false g2 d2) (.false g3 d3) (.false g4 d4) (.false g5 d5) (.false g6 d6) (.false g7 d7) cv_no
  have F1 : ∀ m, 2 ≤ m → FnOk PySem.Challenge.rw_dm0137_11.row.prog w h₀ m (.ref a1) siftupC := fun m hm => (fn_ok Gd N1 D1 g1 d1 c1).mono hm fun args Q σ h => by
    have h' := h
    obtain ⟨_, _, _, _, _, _, _, _, e, r⟩ := h'
    subst e
    refine ⟨rfl, siftup_v _ 0 (fun _ _ _ h => h) _ _ _ _ h ?_⟩
    rw [s1]; exact fr_su _ _
  have N2 := mk 2 [siftdownC, siftupC, noC, noC, noC, noC, noC] noC (F0 2 (by omega)) (F1 2 (by omega)) (.false g2 d2) (.false g3 d3) (.false g4 d4) (.false g5 d5) (.false g6 d6) (.false g7 d7) cv_no
  have F2 : ∀ m, 3 ≤ m → FnOk PySem.Challenge.rw_dm0137_11.row.prog w h₀ m (.ref a2) heapreplaceC := fun m hm => (fn_ok Gd N2 D2 g2 d2 c2).mono hm fun args Q σ h => by
    have h' := h
    obtain ⟨_, _, _, _, _, _, _, _, e, r⟩ := h'
    subst e
    refine ⟨rfl, heapreplace_v _ 1 (fun _ _ _ h => h) _ _ _ _ h ?_⟩
    rw [s2]; exact fr_hr _ _
  have N3 := mk 3 [siftdownC, siftupC, heapreplaceC, noC, noC, noC, noC] noC (F0 3 (by omega)) (F1 3 (by omega)) (F2 3 (by omega)) (.false g3 d3) (.false g4 d4) (.false g5 d5) (.false g6 d6) (.false g7 d7) cv_no
  have F3 : ∀ m, 4 ≤ m → FnOk PySem.Challenge.rw_dm0137_11.row.prog w h₀ m (.ref a3) heapifyC := fun m hm => (fn_ok Gd N3 D3 g3 d3 c3).mono hm fun args Q σ h => by
    have h' := h
    obtain ⟨_, _, _, _, _, _, e, r⟩ := h'
    subst e
    refine ⟨rfl, heapify_v _ 1 (fun _ _ _ h => h) _ _ _ _ h ?_⟩
    rw [s3]; exact fr_hf _
  have N6 := mk 4 [siftdownC, siftupC, heapreplaceC, heapifyC, noC, noC, noC] noC (F0 4 (by omega)) (F1 4 (by omega)) (F2 4 (by omega)) (F3 4 (by omega)) (.false g4 d4) (.false g5 d5) (.false g6 d6) (.false g7 d7) cv_no
  have F6 : ∀ m, 5 ≤ m → FnOk PySem.Challenge.rw_dm0137_11.row.prog w h₀ m (.ref a6) turnedI := fun m hm => (fn_ok Gd N6 D6 g6 d6 c6).mono hm fun args Q σ h => by
    have h' := h
    obtain ⟨_, e, r⟩ := h'
    subst e
    refine ⟨rfl, turned_v _   _ _ _ _ h ?_⟩
    rw [s6]; exact fr_lt _
  have N4 := mk 5 [siftdownC, siftupC, heapreplaceC, heapifyC, noC, noC, turnedI] (cvC fd2 (only fd6 turnedI)) (F0 5 (by omega)) (F1 5 (by omega)) (F2 5 (by omega)) (F3 5 (by omega)) (.false g4 d4) (.false g5 d5) (F6 5 (by omega)) (.false g7 d7) (cv_ok ((F2 5 (by omega)).fd g2 d2) (only_ok ((F6 5 (by omega)).fd g6 d6)))
  have F4 : ∀ m, 6 ≤ m → FnOk PySem.Challenge.rw_dm0137_11.row.prog w h₀ m (.ref a4) (nsC (only fd6 turnedI)) := fun m hm => (fn_ok Gd N4 D4 g4 d4 c4).mono hm fun args Q σ h => by
    have h' := h
    obtain ⟨_, _, _, _, _, _, _, _, _, _, _, _, e, r⟩ := h'
    subst e
    refine ⟨rfl, nsmallest_v _  (only fd6 turnedI) (fun _ _ _ h => h) (fun fd σ ⟨i, fd', e, q, _⟩ args Q σ' h => by cases e; exact ⟨fd, args, rfl, .inl ⟨q rfl, h⟩⟩) (fun fd args Q σ h => ⟨fd, args, rfl, .inr h⟩) _ _ _ _ h ?_⟩
    rw [s4]; exact fr_ns _ _ _
  have N5 := mk 6 [siftdownC, siftupC, heapreplaceC, heapifyC, (nsC (only fd6 turnedI)), noC, turnedI] (cvC fd2 (only fd6 turnedI)) (F0 6 (by omega)) (F1 6 (by omega)) (F2 6 (by omega)) (F3 6 (by omega)) (F4 6 (by omega)) (.false g5 d5) (F6 6 (by omega)) (.false g7 d7) (cv_ok ((F2 6 (by omega)).fd g2 d2) (only_ok ((F6 6 (by omega)).fd g6 d6)))
  have F5 : ∀ m, 7 ≤ m → FnOk PySem.Challenge.rw_dm0137_11.row.prog w h₀ m (.ref a5) leastC := fun m hm => (fn_ok Gd N5 D5 g5 d5 c5).mono hm fun args Q σ h => by
    have h' := h
    obtain ⟨_, _, _, e, r⟩ := h'
    subst e
    refine ⟨rfl, least_v _   _ _ _ _ h ?_⟩
    rw [s5]; exact fr_ll _ _
  exact ⟨_, (only fd6 turnedI), mk 9 [siftdownC, siftupC, heapreplaceC, heapifyC, (nsC (only fd6 turnedI)), leastC, turnedI] (cvC fd2 (only fd6 turnedI)) (F0 9 (by omega)) (F1 9 (by omega)) (F2 9 (by omega)) (F3 9 (by omega)) (F4 9 (by omega)) (F5 9 (by omega)) (F6 9 (by omega)) (.false g7 d7) (cv_ok ((F2 9 (by omega)).fd g2 d2) (only_ok ((F6 9 (by omega)).fd g6 d6))), fun _ _ _ h => h, fun _ _ _ h => h, fun fd σ ⟨i, fd', e, _, q⟩ args Q σ' h => by cases e; exact ⟨q rfl, h⟩⟩
end Mine
open PySem PySem.W PyProof.Rows Mine
theorem PySem.Challenge.cw_dm0137_11_holds : PySem.Challenge.rw_dm0137_11.Holds := by
  refine hd11 ?_
  intro w s₀ s₁ mg mb G Y fa o pm cd doc dV kV ho hd hcd hD hmg hg args vals as hpre hlay hrd hwl hlo
  have FF := shown_of G
  refine Ground.open G ?_
  intro T B D TE TW
  wrow_args hpre hlay hrd hwl hlo
  first | refine callC_kw (enter_call ?_) | refine enter_call ?_ | refine callC_kw (enter_callW ?_) | refine enter_callW ?_
  try refine codeAny_mono ?_ (fun _ _ g => GoodW.toG g)
  rename_i ns _ _ hlay0 _ _ _ _ l vs _ hL _ _ _ hI _ hlen _
  have Gd : Gnd PySem.Challenge.rw_dm0137_11.row.prog s₁.heap mg mb := ground_of T (by decide +kernel) (by rfl)
  obtain ⟨Φ, KC, NM, y0, y1, y2⟩ := names11 (w := w) Gd (bi_free T free11) FF (shownD_of G)
  obtain ⟨a, o, fd, k1, k2, k3, k4, k5, k6, k7⟩ := at_law (FF _ _ def_law (by rw [bd_law.1]; rfl))
  have ea : fa = a := by
    have q : mg ("law" : Str) = some (.ref fa) := hmg
    rw [k1] at q; cases q; rfl
  subst ea
  have hln : ns.length ≤ 63 := by omega
  refine law_code Gd NM (by omega) k7 k2 k3 k4 (script_w hL hI hln) (.cons (.ref l) .nil) (Q := fun v _ => v = .bool true) ⟨rfl, ?_⟩ (fun x s' p => good_true hg p)
  rw [k6, fr_law]
  exact law11_v Φ KC y0 y1 y2 l ns  hln _ (listAt_flist (by unfold scriptHp; rw [if_pos rfl]))
